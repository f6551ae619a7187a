/-
  BMinus: what the law's loops over b keep, plain.
-/
import Derived.Test.YbulkaalaB9
namespace Go.Proofs.Ybulkaala.B
open Go.RowKit
set_option linter.unusedVariables false
set_option linter.unusedSimpArgs false

/-- '(x>>uint(j))&1 != 0' as the walk writes it -/
def bitB (x : Int) (j : Nat) : Bool := bits BinOp.and IntKind.u16 (x / 2 ^ j) 1 != 0
theorem bit_zero (j : Nat) : bitB 0 j = false := by
  unfold bitB
  rw [Int.zero_ediv]
  rfl
/-- b holds the slot j at the path i -/
def HB (fb : Nat → Int) (i j : Nat) : Prop := j < 9 ∧ bitB (fb i) j = true

structure LB (fb : Nat → Int) (k : Nat) (lb : List Ent) : Prop where
  rng : ∀ e ∈ lb, k ≤ e.1 ∧ e.1 < 6
  mem : ∀ e ∈ lb, ∀ j, j ∈ codes e.2.2 ↔ HB fb e.1 j
  all : ∀ i, k ≤ i → i < 6 → fb i ≠ 0 → ∃ e ∈ lb, e.1 = i
  sorted : (lb.map (·.1)).Pairwise (· < ·)

structure R5 (w wr : World) (fa fb : Nat → Int) (va : Option Addr) (la : List Ent) (k : Nat) (vb : Option Addr) (lb : List Ent) : Prop where
  r4 : R4 w wr fa fb 0 va la
  lst : PLst w.heap.size wr vb lb
  lb : LB fb k lb

structure R6 (w wr : World) (fa fb : Nat → Int) (va : Option Addr) (la : List Ent) (k : Nat) (vb : Option Addr) (lb : List Ent) (m : Nat) (sv : Option Addr) (sl : List (Nat × Nat)) : Prop where
  r5 : R5 w wr fa fb va la (k + 1) vb lb
  lst : SLst w.heap.size wr sv sl
  sorted : (codes sl).Pairwise (· < ·)
  mem : ∀ j, j ∈ codes sl ↔ (m ≤ j ∧ HB fb k j)

section
variable {w wr w1 : World} {fa fb : Nat → Int} {k m : Nat} {va vb sv : Option Addr} {la lb : List Ent} {sl : List (Nat × Nat)}

theorem R4.below (h : R4 w wr fa fb k va la) (hb : Below wr.heap.size wr w1) : R4 w w1 fa fb k va la :=
  ⟨h.ctx.below (by have := h.size; omega) hb, h.aj.kept (hb.block _ h.aj.lt), h.bm.kept (hb.block _ h.bm.lt), h.an.kept (hb.block _ h.size), h.lst.kept (fun x hx _ => hb.block x hx), h.la, Nat.lt_of_lt_of_le h.size hb.size⟩
theorem R5.below (h : R5 w wr fa fb va la k vb lb) (hb : Below wr.heap.size wr w1) : R5 w w1 fa fb va la k vb lb :=
  ⟨h.r4.below hb, h.lst.kept (fun x hx _ => hb.block x hx), h.lb⟩

theorem R5.start (h : R4 w wr fa fb 0 va la) : R5 w wr fa fb va la 6 none [] :=
  ⟨h, rfl, by simp, by simp, fun i h1 h2 => by omega, by simp⟩
theorem R5.skip (h : R5 w wr fa fb va la (k + 1) vb lb) (h0 : fb k = 0) : R5 w wr fa fb va la k vb lb :=
  ⟨h.r4, h.lst, fun e he => by have := h.lb.rng e he; omega, h.lb.mem, fun i h1 h2 h3 => h.lb.all i (by rcases Nat.eq_or_lt_of_le h1 with rfl | h; exact absurd h0 h3; omega) h2 h3, h.lb.sorted⟩
theorem R5.add (h : R6 w wr fa fb va la k vb lb 0 sv sl) (hk : k < 6) : R5 w (wr.alloc (placeObj w.heap.size k sv vb)) fa fb va la k (some ⟨wr.heap.size, 0, none⟩) ((k, wr.heap.size, sl) :: lb) := by
  have hz := h.r5.r4.size
  have hb : Below wr.heap.size wr (wr.alloc (placeObj w.heap.size k sv vb)) := (Below.refl _ _).alloc (Nat.le_refl _) _
  have h5 := h.r5.below hb
  refine ⟨h5.r4, ⟨rfl, hk, by omega, _, _, heap_alloc_new _ _, h.lst.kept (fun e he => hb.block _ (SLst.lt h.lst e he).2.2), h.sorted, h5.lst⟩, fun e he => ?_, fun e he => ?_, fun i h1 h2 h3 => ?_, ?_⟩
  · rcases List.mem_cons.1 he with rfl | he
    · exact ⟨Nat.le_refl _, hk⟩
    · have := h5.lb.rng e he; omega
  · rcases List.mem_cons.1 he with rfl | he
    · exact fun j => (h.mem j).trans ⟨fun x => x.2, fun x => ⟨Nat.zero_le _, x⟩⟩
    · exact h5.lb.mem e he
  · by_cases e : i = k
    · exact ⟨_, List.mem_cons_self, e.symm⟩
    · obtain ⟨e', he, hi⟩ := h5.lb.all i (by omega) h2 h3
      exact ⟨e', by simp [he], hi⟩
  · simp only [List.map_cons, List.pairwise_cons]
    refine ⟨fun x hx => ?_, h5.lb.sorted⟩
    obtain ⟨e, he, rfl⟩ := List.mem_map.1 hx
    have := (h5.lb.rng e he).1; omega

theorem R6.start (h : R5 w wr fa fb va la (k + 1) vb lb) : R6 w wr fa fb va la k vb lb 9 none [] :=
  ⟨h, rfl, by simp [codes], fun j => ⟨fun x => by simp [codes] at x, fun x => by have := x.2.1; omega⟩⟩
theorem R6.skip (h : R6 w wr fa fb va la k vb lb (m + 1) sv sl) (h0 : bitB (fb k) m = false) : R6 w wr fa fb va la k vb lb m sv sl :=
  ⟨h.r5, h.lst, h.sorted, fun j => (h.mem j).trans ⟨fun x => ⟨by omega, x.2⟩, fun x => ⟨by
    rcases Nat.eq_or_lt_of_le x.1 with rfl | h
    · have := x.2.2; rw [h0] at this; cases this
    · omega, x.2⟩⟩⟩
theorem R6.add (h : R6 w wr fa fb va la k vb lb (m + 1) sv sl) (hm : m < 9) (h1 : bitB (fb k) m = true) (hb : Below wr.heap.size wr w1) (c : Int) :
    R6 w (w1.alloc (slotObj w.heap.size m sv c)) fa fb va la k vb lb m (some ⟨w1.heap.size, 0, none⟩) ((m, w1.heap.size) :: sl) := by
  have hz := h.r5.r4.size
  have hb2 : Below wr.heap.size wr (w1.alloc (slotObj w.heap.size m sv c)) := hb.alloc hb.size _
  refine ⟨h.r5.below hb2, ⟨rfl, hm, by have := hb.size; omega, sv, c, heap_alloc_new _ _, h.lst.kept (fun e he => hb2.block _ (SLst.lt h.lst e he).2.2)⟩, ?_, fun j => ?_⟩
  · simp only [codes, List.map_cons, List.pairwise_cons]
    exact ⟨fun x hx => by have := ((h.mem x).1 hx).1; omega, h.sorted⟩
  · have e : j ∈ codes ((m, w1.heap.size) :: sl) ↔ j = m ∨ j ∈ codes sl := by simp [codes]
    rw [e, h.mem j]
    constructor
    · rintro (rfl | ⟨h2, h3⟩)
      · exact ⟨Nat.le_refl _, hm, h1⟩
      · exact ⟨by omega, h3⟩
    · rintro ⟨h2, h3⟩
      rcases Nat.eq_or_lt_of_le h2 with rfl | h
      · exact .inl rfl
      · exact .inr ⟨by omega, h3⟩

/-- what the call of 'minus' asks -/
theorem R5.pre (h : R5 w wr fa fb va la 0 vb lb) : Pre w.heap.size (HB fb) wr va la vb lb := by
  have hz := h.r4.size
  refine ⟨h.r4.lst, h.lst, fun e he => by obtain ⟨j, sb, h1, _⟩ := h.r4.la.one e he; exact ⟨j, sb, h1⟩, h.r4.la.sorted, h.lb.sorted, h.r4.la.decr, fun e he j => ?_, h.r4.ctx.grp, h.r4.ctx.pth, h.r4.ctx.ev, by omega⟩
  constructor
  · rintro ⟨e', he', h1, h2⟩
    rw [← h1]; exact (h.lb.mem e' he' j).1 h2
  · intro hH
    have hn : fb e.1 ≠ 0 := fun h0 => by have := hH.2; rw [h0, bit_zero] at this; cases this
    obtain ⟨e', he', h1⟩ := h.lb.all e.1 (Nat.zero_le _) (h.r4.la.rng e he).2 hn
    exact ⟨e', he', h1, (h.lb.mem e' he' j).2 (by rw [h1]; exact hH)⟩
end
end Go.Proofs.Ybulkaala.B
