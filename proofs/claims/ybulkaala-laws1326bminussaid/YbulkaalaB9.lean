/-
  BMinus, 9: what the law's loops keep; zzs1326bslot.
-/
import Derived.Test.YbulkaalaB8
import Derived.OpenShut
namespace Go.Proofs.Ybulkaala.B
open Go.RowKit
set_option linter.unusedVariables false
set_option linter.unusedSimpArgs false

theorem In.at {k : IntKind} {w wr : World} {a : Option Addr} {len m : Nat} {z : Nat → Int} (h : In k w a len z) (hb : Below w.heap.size w wr) (hm : m < len) :
    ∃ b off, a = some ⟨b, off, none⟩ ∧ b < w.heap.size ∧ wr.cell? ⟨b, off + m, none⟩ = some (.int k (z m)) := by
  rcases h.1 with h0 | ⟨b, off, rfl, hbl, hc⟩
  · omega
  · exact ⟨b, off, rfl, hbl, (hb.cell (p := ⟨b, off + m, none⟩) hbl).trans (hc m hm)⟩

/-- the third loop: what holds when the first m cells of 'aj' and 'bm' are filled -/
structure R3 (w wr : World) (fa fb : Nat → Int) (m : Nat) : Prop where
  ctx : Ctx w wr
  aj : Arr (w.heap.size + 11) 129 .i64 wr fa m
  bm : Arr (w.heap.size + 12) 131 .u16 wr fb m
  size : wr.heap.size = w.heap.size + 13

theorem set_size (w : World) (a : Addr) (v : Value) : (w.setCell a v).heap.size = w.heap.size := by simp [World.setCell]

section
variable {w wr : World} {fa fb : Nat → Int} {m : Nat}
/-- 'aj' alone -/
theorem R3.a1 (h : R3 w wr fa fb m) (hm : m < 6) (e1 : fa m = -1) (e2 : fb m = 0) : R3 w (wr.setCell ⟨w.heap.size + 11, m, none⟩ (.int .i64 (-1))) fa fb (m + 1) :=
  ⟨h.ctx.set (by omega) _ _, h.aj.set hm e1, (h.bm.skip hm e2).other (by omega) _ _, by rw [set_size]; exact h.size⟩
theorem R3.a2 (h : R3 w wr fa fb m) (hm : m < 6) {v : Int} (e1 : fa m = v) (e2 : fb m = 0) : R3 w ((wr.setCell ⟨w.heap.size + 11, m, none⟩ (.int .i64 (-1))).setCell ⟨w.heap.size + 11, m, none⟩ (.int .i64 v)) fa fb (m + 1) :=
  ⟨(h.ctx.set (by omega) _ _).set (by omega) _ _, (h.aj.pre hm (by decide) _).set hm e1, ((h.bm.skip hm e2).other (by omega) _ _).other (by omega) _ _, by rw [set_size, set_size]; exact h.size⟩
theorem R3.b1 (h : R3 w wr fa fb m) (hm : m < 6) (e1 : fa m = -1) {x : Int} (e2 : fb m = x) : R3 w ((wr.setCell ⟨w.heap.size + 11, m, none⟩ (.int .i64 (-1))).setCell ⟨w.heap.size + 12, m, none⟩ (.int .u16 x)) fa fb (m + 1) :=
  ⟨(h.ctx.set (by omega) _ _).set (by omega) _ _, (h.aj.set hm e1).other (by omega) _ _, (h.bm.other (by omega) _ _).set hm e2, by rw [set_size, set_size]; exact h.size⟩
theorem R3.b2 (h : R3 w wr fa fb m) (hm : m < 6) {v : Int} (e1 : fa m = v) {x : Int} (e2 : fb m = x) :
    R3 w (((wr.setCell ⟨w.heap.size + 11, m, none⟩ (.int .i64 (-1))).setCell ⟨w.heap.size + 11, m, none⟩ (.int .i64 v)).setCell ⟨w.heap.size + 12, m, none⟩ (.int .u16 x)) fa fb (m + 1) :=
  ⟨((h.ctx.set (by omega) _ _).set (by omega) _ _).set (by omega) _ _, ((h.aj.pre hm (by decide) _).set hm e1).other (by omega) _ _, ((h.bm.other (by omega) _ _).other (by omega) _ _).set hm e2, by rw [set_size, set_size, set_size]; exact h.size⟩
end

set_option maxHeartbeats 2000000 in
theorem bslot_any (B j : Nat) (w : World) (hgs : w.heap[B + 1]? = some (.cells #[.pointer (some ⟨B + 2, 0, none⟩), .pointer (some ⟨B + 3, 0, none⟩), .pointer (some ⟨B + 4, 0, none⟩)] 110 (0, 0))) (hj : j < 9) :
    Calls Yba.prog 10 #[.pointer (some ⟨B + 1, 0, none⟩), .int .i64 (j : Int)] w fun e w' => e = .returned (.agg #[.pointer (some ⟨gA B j, 0, none⟩), .int .i64 (sN j)]) ∧ Below w.heap.size w w' := by
  have c0 : w.cell? ⟨B + 1, 0, none⟩ = some (.pointer (some ⟨B + 2, 0, none⟩)) := cell_at hgs rfl
  have c1 : w.cell? ⟨B + 1, 1, none⟩ = some (.pointer (some ⟨B + 3, 0, none⟩)) := cell_at hgs rfl
  have c2 : w.cell? ⟨B + 1, 2, none⟩ = some (.pointer (some ⟨B + 4, 0, none⟩)) := cell_at hgs rfl
  have hz := lt_of_block hgs
  clear hgs
  have : j = 0 ∨ j = 1 ∨ j = 2 ∨ j = 3 ∨ j = 4 ∨ j = 5 ∨ j = 6 ∨ j = 7 ∨ j = 8 := by omega
  rcases this with rfl | rfl | rfl | rfl | rfl | rfl | rfl | rfl | rfl
  all_goals
    go_enter Yba.func10, Yba.ntmps10
    go_wp2
    go_returns
    exact ⟨rfl, by go_grown⟩

theorem ajF_lt (z : Nat → Int) (len i : Nat) : -1 ≤ ajF z len i ∧ ajF z len i < 9 ∨ ajF z len i < 0 := by unfold ajF; split <;> omega


/-! ### the fourth loop: the list a -/
structure LA (B : Nat) (fa : Nat → Int) (k : Nat) (la : List Ent) : Prop where
  one : ∀ e ∈ la, ∃ j sb, e.2.2 = [(j, sb)] ∧ fa e.1 = ((j : Nat) : Int)
  rng : ∀ e ∈ la, k ≤ e.1 ∧ e.1 < 6
  all : ∀ i, k ≤ i → i < 6 → 0 ≤ fa i → ∃ e ∈ la, e.1 = i
  sorted : (la.map (·.1)).Pairwise (· < ·)
  decr : (la.map (·.2.1)).Pairwise (· > ·)
  blk : ∀ e ∈ la, B + 13 < e.2.1 ∧ ∀ s ∈ e.2.2, B + 13 < s.2

def An (b : Nat) (wr : World) (la : List Ent) : Prop :=
  ∃ cn : Array Value, wr.heap[b]? = some (.cells cn 133 (0, 0)) ∧ cn.size = 6 ∧ (∀ i, i < 6 → ∃ p, cn[i]? = some (.pointer p)) ∧ ∀ e ∈ la, cn[e.1]? = some (.pointer (some ⟨e.2.1, 0, none⟩))

structure R4 (w wr : World) (fa fb : Nat → Int) (k : Nat) (va : Option Addr) (la : List Ent) : Prop where
  ctx : Ctx w wr
  aj : Arr (w.heap.size + 11) 129 .i64 wr fa 6
  bm : Arr (w.heap.size + 12) 131 .u16 wr fb 6
  an : An (w.heap.size + 13) wr la
  lst : PLst w.heap.size wr va la
  la : LA w.heap.size fa k la
  size : w.heap.size + 13 < wr.heap.size

theorem An.cell {b : Nat} {wr : World} {la : List Ent} (h : An b wr la) {i : Nat} (hi : i < 6) : ∃ p, wr.cell? ⟨b, i, none⟩ = some (.pointer p) := by
  obtain ⟨cn, h1, h2, h3, h4⟩ := h
  obtain ⟨p, hp⟩ := h3 i hi
  exact ⟨p, cell_at h1 hp⟩
theorem An.free {b : Nat} {wr : World} {la : List Ent} (h : An b wr la) (i : Nat) : wr.frozen? ⟨b, i, none⟩ = false := by
  obtain ⟨cn, h1, _⟩ := h
  exact frozen_at h1
theorem An.kept {b : Nat} {wr wr' : World} {la : List Ent} (h : An b wr la) (hb : wr'.heap[b]? = wr.heap[b]?) : An b wr' la := by
  obtain ⟨cn, h1, r⟩ := h
  exact ⟨cn, hb.trans h1, r⟩
theorem An.at {b : Nat} {wr : World} {la : List Ent} (h : An b wr la) {e : Ent} (he : e ∈ la) : wr.cell? ⟨b, e.1, none⟩ = some (.pointer (some ⟨e.2.1, 0, none⟩)) := by
  obtain ⟨cn, h1, h2, h3, h4⟩ := h
  exact cell_at h1 (h4 e he)

theorem PLst.keptOn {B : Nat} {w w' : World} : ∀ {l : List Ent} {v : Option Addr}, (∀ e ∈ l, w'.heap[e.2.1]? = w.heap[e.2.1]? ∧ ∀ s ∈ e.2.2, w'.heap[s.2]? = w.heap[s.2]?) → PLst B w v l → PLst B w' v l
  | [], _, _, h => h
  | (i, nb, sl) :: r, v, hk, ⟨h1, h2, h3, sv, nx, h4, h5, h6, h7⟩ =>
    ⟨h1, h2, h3, sv, nx, (hk (i, nb, sl) (by simp)).1.trans h4, SLst.kept (fun e he => (hk (i, nb, sl) (by simp)).2 e he) h5, h6, PLst.keptOn (fun e he => hk e (by simp [he])) h7⟩
theorem PLst.lts {B : Nat} {w : World} : ∀ {l : List Ent} {v : Option Addr}, PLst B w v l → ∀ e ∈ l, ∀ s ∈ e.2.2, s.2 < w.heap.size
  | [], _, _, e, he => by simp at he
  | (i, nb, sl) :: r, v, ⟨h1, h2, h3, sv, nx, h4, h5, h6, h7⟩, e, he => by
    rcases List.mem_cons.1 he with rfl | he
    · exact fun s hs => (SLst.lt h5 s hs).2.2
    · exact PLst.lts h7 e he

section
variable {w wr w1 : World} {fa fb : Nat → Int} {k : Nat} {va : Option Addr} {la : List Ent}
theorem R4.skip (h : R4 w wr fa fb (k + 1) va la) (hn : fa k < 0) : R4 w wr fa fb k va la :=
  ⟨h.ctx, h.aj, h.bm, h.an, h.lst, ⟨h.la.one, fun e he => ⟨by have := (h.la.rng e he).1; omega, (h.la.rng e he).2⟩, fun i h1 h2 h3 => h.la.all i (by rcases Nat.eq_or_lt_of_le h1 with rfl | h; exact absurd h3 (by omega); omega) h2 h3, h.la.sorted, h.la.decr, h.la.blk⟩, h.size⟩

theorem R4.add (h : R4 w wr fa fb (k + 1) va la) (hk : k < 6) {j : Nat} (hj : fa k = (j : Int)) (hj9 : j < 9) (hb : Below wr.heap.size wr w1) :
    R4 w (((w1.setCell ⟨w.heap.size + 13, k, none⟩ (.pointer (some ⟨w1.heap.size + 1, 0, none⟩))).alloc (slotObj w.heap.size j none 1)).alloc (placeObj w.heap.size k (some ⟨w1.heap.size, 0, none⟩) va)) fa fb k
      (some ⟨w1.heap.size + 1, 0, none⟩) ((k, w1.heap.size + 1, [(j, w1.heap.size)]) :: la) := by
  have hz := h.size
  have hz1 := hb.size
  have old : ∀ x, x < wr.heap.size → x ≠ w.heap.size + 13 → (((w1.setCell ⟨w.heap.size + 13, k, none⟩ (.pointer (some ⟨w1.heap.size + 1, 0, none⟩))).alloc (slotObj w.heap.size j none 1)).alloc (placeObj w.heap.size k (some ⟨w1.heap.size, 0, none⟩) va)).heap[x]? = wr.heap[x]? := fun x hx hne => by
    rw [Below.heap_alloc _ _ _ (by simp [set_size]; omega), Below.heap_alloc _ _ _ (by rw [set_size]; omega), Below.heap_setCell _ _ _ _ hne, hb.block x hx]
  have n1 : (((w1.setCell ⟨w.heap.size + 13, k, none⟩ (.pointer (some ⟨w1.heap.size + 1, 0, none⟩))).alloc (slotObj w.heap.size j none 1)).alloc (placeObj w.heap.size k (some ⟨w1.heap.size, 0, none⟩) va)).heap[w1.heap.size]? = some (slotObj w.heap.size j none 1) := by
    rw [Below.heap_alloc _ _ _ (by simp [set_size])]
    have := heap_alloc_new (w1.setCell ⟨w.heap.size + 13, k, none⟩ (.pointer (some ⟨w1.heap.size + 1, 0, none⟩))) (slotObj w.heap.size j none 1)
    rwa [set_size] at this
  have n2 : (((w1.setCell ⟨w.heap.size + 13, k, none⟩ (.pointer (some ⟨w1.heap.size + 1, 0, none⟩))).alloc (slotObj w.heap.size j none 1)).alloc (placeObj w.heap.size k (some ⟨w1.heap.size, 0, none⟩) va)).heap[w1.heap.size + 1]? = some (placeObj w.heap.size k (some ⟨w1.heap.size, 0, none⟩) va) := by
    have := heap_alloc_new ((w1.setCell ⟨w.heap.size + 13, k, none⟩ (.pointer (some ⟨w1.heap.size + 1, 0, none⟩))).alloc (slotObj w.heap.size j none 1)) (placeObj w.heap.size k (some ⟨w1.heap.size, 0, none⟩) va)
    rwa [World.size_alloc, set_size] at this
  have hl : ∀ e ∈ la, e.2.1 < wr.heap.size ∧ w.heap.size + 13 < e.2.1 := fun e he => ⟨(h.lst.lt e he).2.2, (h.la.blk e he).1⟩
  refine ⟨?_, h.aj.kept (old _ h.aj.lt (by omega)), h.bm.kept (old _ h.bm.lt (by omega)), ?_, ⟨rfl, hk, by omega, _, _, n2, ⟨rfl, hj9, by omega, none, 1, n1, rfl⟩, by simp [codes], h.lst.keptOn (fun e he => ⟨old _ (hl e he).1 (by have := hl e he; omega), fun s hs => old _ (h.lst.lts e he s hs) (by have := (h.la.blk e he).2 s hs; omega)⟩)⟩, ?_, by simp [set_size]; omega⟩
  · refine h.ctx.kept ?_ (h.ctx.ev.of_block (old _ (by omega) (by omega))) (fun x h1 h2 => old x (by omega) (by omega))
    refine (((h.ctx.bel.trans (hb.mono (by omega))).setCell (by show w.heap.size ≤ w.heap.size + 13; omega) _).alloc (by rw [set_size]; omega) _).alloc (by simp [set_size]; omega) _
  · obtain ⟨cn, c1, c2, c3, c4⟩ := h.an
    have hbk : w1.heap[w.heap.size + 13]? = some (.cells cn 133 (0, 0)) := (hb.block _ hz).trans c1
    refine ⟨cn.setIfInBounds k (.pointer (some ⟨w1.heap.size + 1, 0, none⟩)), ?_, by simpa using c2, fun i hi => ?_, fun e he => ?_⟩
    · rw [Below.heap_alloc _ _ _ (by simp [set_size]; omega), Below.heap_alloc _ _ _ (by rw [set_size]; omega)]
      exact heap_set hbk _
    · by_cases e : i = k
      · subst e; exact ⟨some ⟨w1.heap.size + 1, 0, none⟩, by simp [c2, hk]⟩
      · rw [Array.getElem?_setIfInBounds_ne (by omega)]; exact c3 i hi
    · rcases List.mem_cons.1 he with rfl | he
      · simp [c2, hk]
      · rw [Array.getElem?_setIfInBounds_ne (by have := (h.la.rng e he).1; omega)]; exact c4 e he
  · refine ⟨fun e he => ?_, fun e he => ?_, fun i h1 h2 h3 => ?_, ?_, ?_, fun e he => ?_⟩
    · rcases List.mem_cons.1 he with rfl | he
      · exact ⟨j, _, rfl, hj⟩
      · exact h.la.one e he
    · rcases List.mem_cons.1 he with rfl | he
      · exact ⟨Nat.le_refl _, hk⟩
      · have := h.la.rng e he; omega
    · by_cases e : i = k
      · exact ⟨_, List.mem_cons_self, e.symm⟩
      · obtain ⟨e', he, hi⟩ := h.la.all i (by omega) h2 h3
        exact ⟨e', by simp [he], hi⟩
    · simp only [List.map_cons, List.pairwise_cons]
      refine ⟨fun x hx => ?_, h.la.sorted⟩
      obtain ⟨e, he, rfl⟩ := List.mem_map.1 hx
      have := (h.la.rng e he).1; omega
    · simp only [List.map_cons, List.pairwise_cons]
      refine ⟨fun x hx => ?_, h.la.decr⟩
      obtain ⟨e, he, rfl⟩ := List.mem_map.1 hx
      have := (hl e he).1; omega
    · rcases List.mem_cons.1 he with rfl | he
      · refine ⟨by show w.heap.size + 13 < w1.heap.size + 1; omega, fun s hs => ?_⟩
        obtain rfl : s = (j, w1.heap.size) := by simpa using hs
        show w.heap.size + 13 < w1.heap.size; omega
      · exact h.la.blk e he
theorem R4.start (h : R3 w wr fa fb 6) : R4 w (wr.alloc (.cells #[.pointer none, .pointer none, .pointer none, .pointer none, .pointer none, .pointer none] 133)) fa fb 6 none [] := by
  have hz := h.size
  refine ⟨h.ctx.alloc (by omega) _, h.aj.kept (Below.heap_alloc _ _ _ h.aj.lt), h.bm.kept (Below.heap_alloc _ _ _ h.bm.lt), ?_, rfl, ⟨by simp, by simp, fun i h1 h2 => by omega, by simp, by simp, by simp⟩, by simp; omega⟩
  refine ⟨_, by rw [← hz]; exact heap_alloc_new _ _, rfl, fun i hi => ⟨none, ?_⟩, by simp⟩
  have : i = 0 ∨ i = 1 ∨ i = 2 ∨ i = 3 ∨ i = 4 ∨ i = 5 := by omega
  rcases this with rfl | rfl | rfl | rfl | rfl | rfl <;> rfl
end
end Go.Proofs.Ybulkaala.B
