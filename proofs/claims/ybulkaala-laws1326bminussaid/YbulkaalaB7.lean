/-
  BMinus, 7: what stands in memory while the law runs, plain.
-/
import Derived.Test.YbulkaalaB6
import Derived.Test.YbulkaalaWalkC2
namespace Go.Proofs.Ybulkaala.B
open Go.RowKit
set_option linter.unusedVariables false
set_option linter.unusedSimpArgs false

/-- a slice of integers that came in: empty, or its elements lie below -/
def In (k : IntKind) (w : World) (a : Option Addr) (len : Nat) (z : Nat → Int) : Prop :=
  (len = 0 ∨ ∃ b off, a = some ⟨b, off, none⟩ ∧ b < w.heap.size ∧ ∀ i, i < len → w.cell? ⟨b, off + i, none⟩ = some (.int k (z i))) ∧ ∀ i, i < len → (Lit.int k (z i)).wf = true

/-- the law's 'aj' and 'bm' -/
def ajF (z : Nat → Int) (len i : Nat) : Int := if i < len ∧ ¬ z i % 10 = 0 then z i % 10 - 1 else -1
def bmF (z : Nat → Int) (len i : Nat) : Int := if i < len then bits BinOp.and IntKind.u16 (z i) 511 else 0

/-- what the law's first two loops lay; B is the heap's size when the call began -/
structure Ctx (w wr : World) : Prop where
  bel : Below w.heap.size w wr
  grp : Groups w.heap.size wr
  pth : Paths w.heap.size wr
  ev : EvOk w.heap.size wr
  gs : wr.heap[w.heap.size + 1]? = some (.cells #[.pointer (some ⟨w.heap.size + 2, 0, none⟩), .pointer (some ⟨w.heap.size + 3, 0, none⟩), .pointer (some ⟨w.heap.size + 4, 0, none⟩)] 110 (0, 0))
  ps : wr.heap[w.heap.size + 5]? = some (.cells #[.pointer none, .pointer (some ⟨w.heap.size + 6, 0, none⟩), .pointer (some ⟨w.heap.size + 7, 0, none⟩), .pointer (some ⟨w.heap.size + 8, 0, none⟩), .pointer (some ⟨w.heap.size + 9, 0, none⟩), .pointer (some ⟨w.heap.size + 10, 0, none⟩)] 121 (0, 0))

theorem Ctx.kept {w wr w' : World} (h : Ctx w wr) (hb : Below w.heap.size w w') (hev : EvOk w.heap.size w') (hk : ∀ k, w.heap.size < k → k < w.heap.size + 11 → w'.heap[k]? = wr.heap[k]?) : Ctx w w' :=
  ⟨hb, h.grp.kept (fun j hj => hk _ (gA_le _ j).1 (by have := (gA_le w.heap.size j).2; omega)), h.pth.kept (fun i h1 h2 => hk _ (by omega) (by omega)), hev,
    (hk _ (by omega) (by omega)).trans h.gs, (hk _ (by omega) (by omega)).trans h.ps⟩

theorem Ctx.set {w wr : World} (h : Ctx w wr) {b : Nat} (hb : w.heap.size + 11 ≤ b) (i : Nat) (v : Value) : Ctx w (wr.setCell ⟨b, i, none⟩ v) :=
  h.kept (h.bel.setCell (by show w.heap.size ≤ b; omega) v) (h.ev.of_block (Below.heap_setCell _ _ _ _ (by show w.heap.size ≠ b; omega))) (fun k h1 h2 => Below.heap_setCell _ _ _ _ (by show k ≠ b; omega))
theorem Ctx.alloc {w wr : World} (h : Ctx w wr) (hz : w.heap.size + 11 ≤ wr.heap.size) (o : Obj) : Ctx w (wr.alloc o) :=
  h.kept (h.bel.alloc (by omega) o) (h.ev.of_block (Below.heap_alloc _ _ _ (by omega))) (fun k h1 h2 => Below.heap_alloc _ _ _ (by omega))
theorem Ctx.below {w wr w' : World} (h : Ctx w wr) (hz : w.heap.size + 11 ≤ wr.heap.size) (hb : Below wr.heap.size wr w') : Ctx w w' :=
  h.kept (h.bel.trans (hb.mono (by omega))) (h.ev.of_block (hb.block _ (by omega))) (fun k h1 h2 => hb.block _ (by omega))

/-- the i-th path as the law's array 'ps' has it -/
theorem Ctx.path {w wr : World} (h : Ctx w wr) {i : Nat} (hi : i < 6) : wr.cell? ⟨w.heap.size + 5, i, none⟩ = some (.pointer (pV w.heap.size i)) := by
  refine cell_at h.ps ?_
  have : i = 0 ∨ i = 1 ∨ i = 2 ∨ i = 3 ∨ i = 4 ∨ i = 5 := by omega
  rcases this with rfl | rfl | rfl | rfl | rfl | rfl <;> rfl

/-- an array of six integers in block b, filled below m -/
def Arr (b : Nat) (t : TypeId) (k : IntKind) (wr : World) (f : Nat → Int) (m : Nat) : Prop :=
  ∃ cs : Array Value, wr.heap[b]? = some (.cells cs t (0, 0)) ∧ cs.size = 6 ∧ (∀ i, i < m → cs[i]? = some (.int k (f i))) ∧ ∀ i, m ≤ i → i < 6 → ∃ v, cs[i]? = some (.int k v) ∧ (k = .u16 → v = 0)

theorem heap_set {wr : World} {b i : Nat} {cs : Array Value} {t : TypeId} (h : wr.heap[b]? = some (.cells cs t (0, 0))) (v : Value) : (wr.setCell ⟨b, i, none⟩ v).heap[b]? = some (.cells (cs.setIfInBounds i v) t (0, 0)) := by
  simp [World.setCell, Array.getElem?_modify, h]

section
variable {b : Nat} {t : TypeId} {k : IntKind} {wr wr' : World} {f : Nat → Int} {m : Nat}
theorem Arr.kept (h : Arr b t k wr f m) (hb : wr'.heap[b]? = wr.heap[b]?) : Arr b t k wr' f m := by
  obtain ⟨cs, h1, r⟩ := h
  exact ⟨cs, hb.trans h1, r⟩
theorem Arr.other (h : Arr b t k wr f m) {b' : Nat} (hne : b ≠ b') (i : Nat) (v : Value) : Arr b t k (wr.setCell ⟨b', i, none⟩ v) f m := h.kept (Below.heap_setCell _ _ _ _ hne)
theorem Arr.set (h : Arr b t k wr f m) (hm : m < 6) {v : Int} (hv : f m = v) : Arr b t k (wr.setCell ⟨b, m, none⟩ (.int k v)) f (m + 1) := by
  obtain ⟨cs, h1, h2, h3, h4⟩ := h
  refine ⟨_, heap_set h1 _, by simpa using h2, fun i hi => ?_, fun i h5 h6 => ?_⟩
  · by_cases e : i = m
    · subst e; simp [h2, hm, hv]
    · rw [Array.getElem?_setIfInBounds_ne (by omega)]; exact h3 i (by omega)
  · rw [Array.getElem?_setIfInBounds_ne (by omega)]; exact h4 i (by omega) h6
theorem Arr.pre (h : Arr b t k wr f m) (hm : m < 6) (hk : k ≠ .u16) (v : Int) : Arr b t k (wr.setCell ⟨b, m, none⟩ (.int k v)) f m := by
  obtain ⟨cs, h1, h2, h3, h4⟩ := h
  refine ⟨_, heap_set h1 _, by simpa using h2, fun i hi => ?_, fun i h5 h6 => ?_⟩
  · rw [Array.getElem?_setIfInBounds_ne (by omega)]; exact h3 i hi
  · by_cases e : i = m
    · subst e; exact ⟨v, by simp [h2, h6], fun h => absurd h hk⟩
    · rw [Array.getElem?_setIfInBounds_ne (by omega)]; exact h4 i h5 h6
theorem Arr.skip (h : Arr b t .u16 wr f m) (hm : m < 6) (hv : f m = 0) : Arr b t .u16 wr f (m + 1) := by
  obtain ⟨cs, h1, h2, h3, h4⟩ := h
  refine ⟨cs, h1, h2, fun i hi => ?_, fun i h5 h6 => h4 i (by omega) h6⟩
  by_cases e : i = m
  · subst e
    obtain ⟨v, h5, h6⟩ := h4 i (Nat.le_refl _) hm
    rw [h5, h6 rfl, hv]
  · exact h3 i (by omega)
theorem Arr.cell (h : Arr b t k wr f m) {i : Nat} (hm : m ≤ i) (hi : i < 6) : ∃ v, wr.cell? ⟨b, i, none⟩ = some (.int k v) := by
  obtain ⟨cs, h1, h2, h3, h4⟩ := h
  obtain ⟨v, h5, _⟩ := h4 i hm hi
  exact ⟨v, cell_at h1 h5⟩
theorem Arr.at (h : Arr b t k wr f m) {i : Nat} (hi : i < m) : wr.cell? ⟨b, i, none⟩ = some (.int k (f i)) := by
  obtain ⟨cs, h1, h2, h3, h4⟩ := h
  exact cell_at h1 (h3 i hi)
theorem Arr.free (h : Arr b t k wr f m) (i : Nat) : wr.frozen? ⟨b, i, none⟩ = false := by
  obtain ⟨cs, h1, _⟩ := h
  exact frozen_at h1
theorem Arr.lt (h : Arr b t k wr f m) : b < wr.heap.size := by
  obtain ⟨cs, h1, _⟩ := h
  exact lt_of_block h1
end
end Go.Proofs.Ybulkaala.B
