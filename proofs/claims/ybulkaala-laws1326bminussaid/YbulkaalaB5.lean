/-
  BMinus, 5: lists of places: what (*places).minus is asked and what it leaves, plain.
-/
import Derived.Test.YbulkaalaB4
namespace Go.Proofs.Ybulkaala.B
open Go.RowKit
set_option linter.unusedVariables false
set_option linter.unusedSimpArgs false

/-- one place of a list: its path's number, its block, its slots -/
abbrev Ent := Nat × Nat × List (Nat × Nat)

def Paths (B : Nat) (w : World) : Prop := ∀ i, 1 ≤ i → i ≤ 5 → ∃ cs : Array Value, w.heap[B + 5 + i]? = some (.cells cs 128 (0, 0)) ∧ cs[0]? = some (.int .i64 (i : Int))

theorem Paths.kept {B : Nat} {w w' : World} (hk : ∀ i, 1 ≤ i → i ≤ 5 → w'.heap[B + 5 + i]? = w.heap[B + 5 + i]?) (h : Paths B w) : Paths B w' := fun i h1 h2 => by
  rw [hk i h1 h2]; exact h i h1 h2
theorem Paths.lt {B : Nat} {w : World} (h : Paths B w) : ∀ i, 1 ≤ i → i ≤ 5 → B + 5 + i < w.heap.size := fun i h1 h2 => by obtain ⟨cs, hb, _⟩ := h i h1 h2; exact lt_of_block hb

theorem order_any (B i : Nat) (w : World) (hP : Paths B w) (hi : i < 6) : Calls Yba.prog 14 #[.pointer (pV B i)] w fun e w' => e = .returned (.int .i64 (i : Int)) ∧ w' = w := by
  by_cases h : i = 0
  · subst h; exact order_nil w
  · obtain ⟨cs, hb, hc⟩ := hP i (by omega) (by omega)
    have e : pV B i = some ⟨B + 5 + i, 0, none⟩ := by simp [pV, h]
    rw [e]
    exact order_ptr ⟨B, 0, none⟩ i w _ (cell_at hb hc)

theorem eqlPaths (B i k : Nat) (w : World) (hP : Paths B w) (hi : i < 6) (hk : k < 6) : (binOp .eql 120 (.pointer (pV B i)) (.pointer (pV B k))).run Yba.prog w = .ok (.bool (decide (i = k))) w := by
  by_cases h1 : i = 0 <;> by_cases h2 : k = 0
  · subst h1 h2
    exact (show (binOp .eql 120 (.pointer none) (.pointer none)).run Yba.prog w = .ok (.bool true) w by kernel_rfl).trans (by simp)
  · have e1 : pV B i = none := by simp [pV, h1]
    have e2 : pV B k = some ⟨B + 5 + k, 0, none⟩ := by simp [pV, h2]
    rw [e1, e2, nilEq120]; simp; omega
  · have e1 : pV B k = none := by simp [pV, h2]
    have e2 : pV B i = some ⟨B + 5 + i, 0, none⟩ := by simp [pV, h1]
    rw [e1, e2]
    exact (show (binOp .eql 120 (.pointer (some ⟨B + 5 + i, 0, none⟩)) (.pointer none)).run Yba.prog w = .ok (.bool false) w by kernel_rfl).trans (by simp; omega)
  · have e1 : pV B i = some ⟨B + 5 + i, 0, none⟩ := by simp [pV, h1]
    have e2 : pV B k = some ⟨B + 5 + k, 0, none⟩ := by simp [pV, h2]
    obtain ⟨ci, hbi, _⟩ := hP i (by omega) (by omega)
    obtain ⟨ck, hbk, _⟩ := hP k (by omega) (by omega)
    rw [e1, e2, eql120 w hbi hbk]; simp

def PLst (B : Nat) (w : World) : Option Addr → List Ent → Prop
  | v, [] => v = none
  | v, (i, nb, sl) :: r => v = some ⟨nb, 0, none⟩ ∧ i < 6 ∧ B + 10 < nb ∧ ∃ sv nx, w.heap[nb]? = some (placeObj B i sv nx) ∧ SLst B w sv sl ∧ (codes sl).Pairwise (· < ·) ∧ PLst B w nx r

/-- every block other than B's is as it was -/
def But (B : Nat) (w w' : World) : Prop := ∀ k, k < w.heap.size → k ≠ B → w'.heap[k]? = w.heap[k]?

theorem PLst.kept {B : Nat} {w w' : World} (hk : But B w w') : ∀ {l : List Ent} {v : Option Addr}, PLst B w v l → PLst B w' v l
  | [], _, h => h
  | (i, nb, sl) :: r, v, ⟨h1, h2, h3, sv, nx, h4, h5, h6, h7⟩ => ⟨h1, h2, h3, sv, nx, (hk nb (lt_of_block h4) (by omega)).trans h4, SLst.kept (fun e he => hk _ (SLst.lt h5 e he).2.2 (by have := SLst.lt h5 e he; omega)) h5, h6, PLst.kept hk h7⟩
theorem PLst.lt {B : Nat} {w : World} : ∀ {l : List Ent} {v : Option Addr}, PLst B w v l → ∀ e ∈ l, e.1 < 6 ∧ B + 10 < e.2.1 ∧ e.2.1 < w.heap.size
  | [], _, _, e, he => by simp at he
  | (i, nb, sl) :: r, v, ⟨h1, h2, h3, sv, nx, h4, h5, h6, h7⟩, e, he => by
    rcases List.mem_cons.1 he with rfl | he
    · exact ⟨h2, h3, lt_of_block h4⟩
    · exact PLst.lt h7 e he
theorem PLst.nx {B : Nat} {w : World} : ∀ {l : List Ent} {v : Option Addr}, PLst B w v l → NxOk B w v
  | [], _, h => .inl h
  | (i, nb, sl) :: r, v, ⟨h1, h2, h3, sv, nx, h4, _⟩ => .inr ⟨nb, i, sv, nx, h1, h3, h4⟩

/-- the list holds the slot j at the path i -/
def has (l : List Ent) (i j : Nat) : Prop := ∃ e ∈ l, e.1 = i ∧ j ∈ codes e.2.2
/-- none of the place's slots is held -/
def Kp (H : Nat → Nat → Prop) (e : Ent) : Prop := ∀ j ∈ codes e.2.2, ¬ H e.1 j

/-- What 'minus' makes of a list: the kept places in order, and from the last one removed on the list itself. -/
def Res (H : Nat → Nat → Prop) : List Ent → List Ent → Prop
  | [], lr => lr = []
  | e :: la, lr => ((∀ e' ∈ e :: la, Kp H e') ∧ lr = e :: la) ∨ (¬ (∀ e' ∈ e :: la, Kp H e') ∧ Kp H e ∧ ∃ nb lr', lr = (e.1, nb, e.2.2) :: lr' ∧ Res H la lr') ∨ (¬ Kp H e ∧ Res H la lr)

theorem Res.all {H : Nat → Nat → Prop} : ∀ {la lr : List Ent}, Res H la lr → (∀ e ∈ la, Kp H e) → lr = la
  | [], lr, h, _ => h
  | e :: la, lr, h, ha => by
    rcases h with ⟨_, h⟩ | ⟨h, _⟩ | ⟨h, _⟩
    · exact h
    · exact absurd ha h
    · exact absurd (ha e (by simp)) h

/-- What 'minus' asks of memory. -/
structure Pre (B : Nat) (H : Nat → Nat → Prop) (w : World) (va : Option Addr) (la : List Ent) (vb : Option Addr) (lb : List Ent) : Prop where
  a : PLst B w va la
  b : PLst B w vb lb
  one : ∀ e ∈ la, ∃ j sb, e.2.2 = [(j, sb)]
  sa : (la.map (·.1)).Pairwise (· < ·)
  sb : (lb.map (·.1)).Pairwise (· < ·)
  da : (la.map (·.2.1)).Pairwise (· > ·)
  h : ∀ e ∈ la, ∀ j, has lb e.1 j ↔ H e.1 j
  g : Groups B w
  p : Paths B w
  ev : EvOk B w
  hB : B + 10 < w.heap.size

theorem But.of_heap {B : Nat} {w W : World} (h : W.heap = w.heap) : But B w W := fun k _ _ => by rw [h]
theorem But.of_gb {B : Nat} {w W : World} (h : w.grownBy W (some B)) : But B w W := fun k hk hn => h.block k hk (by simpa using hn)

theorem But.cell {B : Nat} {w W : World} (h : But B w W) {b i : Nat} {v : Value} (hc : w.cell? ⟨b, i, none⟩ = some v) (hb : B + 10 < b) : W.cell? ⟨b, i, none⟩ = some v := by
  rw [World.cell?_of_block (w := w) (h b (World.block_lt_of_cell? w _ hc) (by omega))]; exact hc

theorem Pre.heap {B : Nat} {H : Nat → Nat → Prop} {w W : World} {va vb : Option Addr} {la lb : List Ent} (h : Pre B H w va la vb lb) (e : W.heap = w.heap) : Pre B H W va la vb lb :=
  ⟨h.a.kept (But.of_heap e), h.b.kept (But.of_heap e), h.one, h.sa, h.sb, h.da, h.h, h.g.kept (fun i hi => by rw [e]), h.p.kept (fun i h1 h2 => by rw [e]), h.ev.of_block (by rw [e]), by rw [e]; exact h.hB⟩

/-- What 'minus' leaves. -/
structure Post (B : Nat) (H : Nat → Nat → Prop) (w : World) (va : Option Addr) (la : List Ent) (w' : World) (vr : Option Addr) (lr : List Ent) : Prop where
  gb : w.grownBy w' (some B)
  ev : EvOk B w'
  lst : PLst B w' vr lr
  res : Res H la lr
  same : (∀ e ∈ la, Kp H e) → vr = va
  other : ¬ (∀ e ∈ la, Kp H e) → vr ≠ va
  from_ : ∀ x, vr = some x → (∃ e ∈ la, x = ⟨e.2.1, 0, none⟩) ∨ w.heap.size ≤ x.block

section
variable {B : Nat} {H : Nat → Nat → Prop} {w W w1 w3 w4 : World} {ia nb j sb : Nat} {ra lr : List Ent} {vb nxa vr : Option Addr} {lb : List Ent}

theorem has_cons {e : Ent} {l : List Ent} {i j : Nat} : has (e :: l) i j ↔ (e.1 = i ∧ j ∈ codes e.2.2) ∨ has l i j := by
  constructor
  · rintro ⟨e', he, h1, h2⟩
    rcases List.mem_cons.1 he with rfl | he
    · exact .inl ⟨h1, h2⟩
    · exact .inr ⟨e', he, h1, h2⟩
  · rintro (⟨h1, h2⟩ | ⟨e', he, h1, h2⟩)
    · exact ⟨e, by simp, h1, h2⟩
    · exact ⟨e', by simp [he], h1, h2⟩

theorem Pre.ge (hp : Pre B H w (some ⟨nb, 0, none⟩) ((ia, nb, [(j, sb)]) :: ra) vb lb) : ∀ e ∈ (ia, nb, [(j, sb)]) :: ra, ia ≤ e.1 := fun e he => by
  have h := hp.sa
  simp only [List.map_cons, List.pairwise_cons] at h
  rcases List.mem_cons.1 he with rfl | he
  · exact Nat.le_refl _
  · exact Nat.le_of_lt (h.1 e.1 (List.mem_map_of_mem he))

theorem Pre.skip {ib bb : Nat} {slb : List (Nat × Nat)} {rb : List Ent} {nxb : Option Addr} (hp : Pre B H w (some ⟨nb, 0, none⟩) ((ia, nb, [(j, sb)]) :: ra) vb ((ib, bb, slb) :: rb)) (hrb : PLst B w nxb rb) (hlt : ib < ia) :
    Pre B H w (some ⟨nb, 0, none⟩) ((ia, nb, [(j, sb)]) :: ra) nxb rb :=
  ⟨hp.a, hrb, hp.one, hp.sa, by have := hp.sb; simp only [List.map_cons, List.pairwise_cons] at this; exact this.2, hp.da, fun e he k => by
    rw [← hp.h e he k, has_cons]
    have := hp.ge e he
    constructor
    · exact .inr
    · rintro (⟨h, _⟩ | h)
      · simp at h; omega
      · exact h, hp.g, hp.p, hp.ev, hp.hB⟩

theorem Pre.next (hp : Pre B H w (some ⟨nb, 0, none⟩) ((ia, nb, [(j, sb)]) :: ra) vb lb) (hra : PLst B w nxa ra) : Pre B H w nxa ra vb lb :=
  ⟨hra, hp.b, fun e he => hp.one e (by simp [he]), by have := hp.sa; simp only [List.map_cons, List.pairwise_cons] at this; exact this.2, hp.sb, by have := hp.da; simp only [List.map_cons, List.pairwise_cons] at this; exact this.2,
    fun e he => hp.h e (by simp [he]), hp.g, hp.p, hp.ev, hp.hB⟩

theorem gb_of_drewN {n : Nat} (h : (w.drewN n).grownBy w1 (some B)) : w.grownBy w1 (some B) := ⟨h.os, h.tape, h.output, h.size, h.block⟩

theorem fin_empty (hp : Pre B H w (some ⟨nb, 0, none⟩) ((ia, nb, [(j, sb)]) :: ra) none []) (hw : ∃ n, W = w.drewN n) : Post B H w (some ⟨nb, 0, none⟩) ((ia, nb, [(j, sb)]) :: ra) W (some ⟨nb, 0, none⟩) ((ia, nb, [(j, sb)]) :: ra) := by
  obtain ⟨n, rfl⟩ := hw
  have hall : ∀ e ∈ (ia, nb, [(j, sb)]) :: ra, Kp H e := fun e he k hk hH => by
    rw [← hp.h e he k] at hH
    obtain ⟨e', he', _⟩ := hH
    simp at he'
  exact ⟨gb_drewN (World.grownBy.refl _ _) n, hp.ev, PLst.kept (w := w) (w' := w.drewN n) (But.of_heap rfl) hp.a, .inl ⟨hall, rfl⟩, fun _ => rfl, fun h => absurd hall h, fun x hx => .inl ⟨(ia, nb, [(j, sb)]), by simp, by simpa using hx.symm⟩⟩

/-- the head's slot is held just where b's first place is at its path and holds it -/
theorem Pre.head {ib bb : Nat} {slb : List (Nat × Nat)} {rb : List Ent} (hp : Pre B H w (some ⟨nb, 0, none⟩) ((ia, nb, [(j, sb)]) :: ra) vb ((ib, bb, slb) :: rb)) (hge : ¬ ib < ia) : Kp H (ia, nb, [(j, sb)]) ↔ ¬ (ib = ia ∧ j ∈ codes slb) := by
  have h1 := hp.h (ia, nb, [(j, sb)]) (by simp) j
  have h2 := hp.sb
  simp only [List.map_cons, List.pairwise_cons] at h2
  rw [has_cons] at h1
  have h3 : ¬ has rb ia j := by
    rintro ⟨e, he, hi, _⟩
    have := h2.1 e.1 (List.mem_map_of_mem he)
    omega
  simp only [h3, or_false] at h1
  unfold Kp
  simp only [codes, List.map_cons, List.map_nil, List.mem_singleton, forall_eq]
  exact not_congr h1.symm

theorem all_cons (hk : Kp H (ia, nb, [(j, sb)])) : (∀ e ∈ (ia, nb, [(j, sb)]) :: ra, Kp H e) ↔ ∀ e ∈ ra, Kp H e :=
  ⟨fun h e he => h e (by simp [he]), fun h e he => by rcases List.mem_cons.1 he with rfl | he; exact hk; exact h e he⟩

theorem fin_same (hp : Pre B H w (some ⟨nb, 0, none⟩) ((ia, nb, [(j, sb)]) :: ra) vb lb) (hgw : w.grownBy w3 (some B)) (hE : EvOk B w3) (hk : Kp H (ia, nb, [(j, sb)])) (hall : ∀ e ∈ ra, Kp H e) :
    Post B H w (some ⟨nb, 0, none⟩) ((ia, nb, [(j, sb)]) :: ra) w3 (some ⟨nb, 0, none⟩) ((ia, nb, [(j, sb)]) :: ra) :=
  have h := (all_cons hk).2 hall
  ⟨hgw, hE, hp.a.kept (But.of_gb hgw), .inl ⟨h, rfl⟩, fun _ => rfl, fun h' => absurd h h', fun x hx => .inl ⟨(ia, nb, [(j, sb)]), by simp, by simpa using hx.symm⟩⟩

theorem fin_drop (hp : Pre B H w (some ⟨nb, 0, none⟩) ((ia, nb, [(j, sb)]) :: ra) vb lb) (hgw : w.grownBy w3 (some B)) (hE : EvOk B w3) (hl : PLst B w3 vr lr) (hres : Res H ra lr) (hfrom : ∀ x, vr = some x → (∃ e ∈ ra, x = ⟨e.2.1, 0, none⟩) ∨ w.heap.size ≤ x.block)
    (hk : ¬ Kp H (ia, nb, [(j, sb)])) : Post B H w (some ⟨nb, 0, none⟩) ((ia, nb, [(j, sb)]) :: ra) w3 vr lr := by
  refine ⟨hgw, hE, hl, .inr (.inr ⟨hk, hres⟩), fun h => absurd (h _ (by simp)) hk, fun _ hv => ?_, fun x hx => ?_⟩
  · have hlt := (PLst.lt hp.a (ia, nb, [(j, sb)]) (by simp)).2.2
    have hd := hp.da
    simp only [List.map_cons, List.pairwise_cons] at hd
    rcases hfrom _ hv with ⟨e, he, hx⟩ | hx
    · have := hd.1 e.2.1 (List.mem_map_of_mem he)
      simp at hx; (try omega)
    · simp at hx hlt; (try omega)
  · rcases hfrom x hx with ⟨e, he, h⟩ | h
    · exact .inl ⟨e, by simp [he], h⟩
    · exact .inr h

theorem fin_new {c : Int} {r : Option Addr} (hp : Pre B H w (some ⟨nb, 0, none⟩) ((ia, nb, [(j, sb)]) :: ra) vb lb) (hgw : w.grownBy w3 (some B)) (hm : Made B (placeObj B ia (some ⟨sb, 0, none⟩) vr) w3 w4) (hl : PLst B w3 vr lr) (hres : Res H ra lr)
    (hsb : w.heap[sb]? = some (slotObj B j none c)) (hsB : B + 10 < sb) (hj : j < 9)
    (hk : Kp H (ia, nb, [(j, sb)])) (hall : ¬ ∀ e ∈ ra, Kp H e) : Post B H w (some ⟨nb, 0, none⟩) ((ia, nb, [(j, sb)]) :: ra) w4 (some ⟨w3.heap.size, 0, none⟩) ((ia, w3.heap.size, [(j, sb)]) :: lr) := by
  have hlt := PLst.lt hp.a (ia, nb, [(j, sb)]) (by simp)
  have h4 : w.grownBy w4 (some B) := gb_trans hgw hm.gb
  have hs4 : w4.heap[sb]? = some (slotObj B j none c) := (h4.block _ (lt_of_block hsb) (by simp; omega)).trans hsb
  have hB3 : B + 10 < w3.heap.size := Nat.lt_of_lt_of_le hp.hB hgw.size
  refine ⟨h4, hm.ev, ⟨rfl, hlt.1, hB3, _, _, hm.new, ⟨rfl, hj, hsB, none, c, hs4, rfl⟩, by simp [codes], hl.kept (But.of_gb hm.gb)⟩, .inr (.inl ⟨fun h => hall ((all_cons hk).1 h), hk, _, _, rfl, hres⟩), fun h => absurd ((all_cons hk).1 h) hall, fun _ hv => ?_, fun x hx => .inr ?_⟩
  · have := hgw.size
    simp at hv
    have := hlt.2.2
    simp at this
    omega
  · obtain rfl : (⟨w3.heap.size, 0, none⟩ : Addr) = x := by simpa using hx
    exact hgw.size
end
end Go.Proofs.Ybulkaala.B
