/-
  BMinus, 8: the start of the law: what its first two loops lay.
-/
import Derived.Test.YbulkaalaB7
namespace Go.Proofs.Ybulkaala.B
open Go.RowKit
set_option linter.unusedVariables false
set_option linter.unusedSimpArgs false

def gObj (B : Nat) (n : Int) : Obj := .cells #[.int .i64 n, .pointer (some ⟨B, 0, none⟩), .pointer none, .int .i64 0, .pointer none, .pointer none, .pointer none, .int .i64 0, .slice none 0 0, .pointer none, .bool false, .slice none 0 0] 119
def pObj (n : Int) : Obj := .cells #[.int .i64 n, .pointer none, .string ⟨#[]⟩, .int .u8 0, .int .i32 0, .int .i64 0] 128
def zeros (k : IntKind) : Array Value := #[.int k 0, .int k 0, .int k 0, .int k 0, .int k 0, .int k 0]

/-- the world where the law's third loop begins -/
def W0 (w : World) : World :=
  (((((((((((((w.alloc (.cells C.ecs.toArray 108)).alloc (.cells #[.pointer (some ⟨w.heap.size + 2, 0, none⟩), .pointer (some ⟨w.heap.size + 3, 0, none⟩), .pointer (some ⟨w.heap.size + 4, 0, none⟩)] 110)).alloc (gObj w.heap.size 1)).alloc (gObj w.heap.size 2)).alloc (gObj w.heap.size 3)).alloc
    (.cells #[.pointer none, .pointer (some ⟨w.heap.size + 6, 0, none⟩), .pointer (some ⟨w.heap.size + 7, 0, none⟩), .pointer (some ⟨w.heap.size + 8, 0, none⟩), .pointer (some ⟨w.heap.size + 9, 0, none⟩), .pointer (some ⟨w.heap.size + 10, 0, none⟩)] 121)).alloc
    (pObj 1)).alloc (pObj 2)).alloc (pObj 3)).alloc (pObj 4)).alloc (pObj 5)).alloc (.cells (zeros .i64) 129)).alloc (.cells (zeros .u16) 131))

theorem allocs_old : ∀ (os : List Obj) (w : World) (k : Nat), k < w.heap.size → (os.foldl World.alloc w).heap[k]? = w.heap[k]?
  | [], _, _, _ => rfl
  | o :: os, w, k, h => (allocs_old os (w.alloc o) k (by simp; omega)).trans (Below.heap_alloc w o k h)
theorem allocs_at : ∀ (os : List Obj) (w : World) (k : Nat), k < os.length → (os.foldl World.alloc w).heap[w.heap.size + k]? = os[k]?
  | [], _, _, h => by simp at h
  | o :: os, w, 0, h => by
    rw [Nat.add_zero]
    exact (allocs_old os (w.alloc o) w.heap.size (by simp)).trans (heap_alloc_new w o)
  | o :: os, w, k + 1, h => by
    have := allocs_at os (w.alloc o) k (by simpa using h)
    have e : (w.alloc o).heap.size + k = w.heap.size + (k + 1) := by simp; omega
    rw [e] at this
    simpa using this

theorem W0_size (w : World) : (W0 w).heap.size = w.heap.size + 13 := by simp [W0]
theorem W0_below (w : World) : Below w.heap.size w (W0 w) := by
  unfold W0
  repeat (first | exact Below.refl _ _ | refine Below.alloc ?_ (by simp; try omega) _)

theorem W0_at (w : World) (k : Nat) (o : Obj) (h : [(.cells C.ecs.toArray 108 : Obj), .cells #[.pointer (some ⟨w.heap.size + 2, 0, none⟩), .pointer (some ⟨w.heap.size + 3, 0, none⟩), .pointer (some ⟨w.heap.size + 4, 0, none⟩)] 110, gObj w.heap.size 1, gObj w.heap.size 2, gObj w.heap.size 3,
    .cells #[.pointer none, .pointer (some ⟨w.heap.size + 6, 0, none⟩), .pointer (some ⟨w.heap.size + 7, 0, none⟩), .pointer (some ⟨w.heap.size + 8, 0, none⟩), .pointer (some ⟨w.heap.size + 9, 0, none⟩), .pointer (some ⟨w.heap.size + 10, 0, none⟩)] 121,
    pObj 1, pObj 2, pObj 3, pObj 4, pObj 5, .cells (zeros .i64) 129, .cells (zeros .u16) 131][k]? = some o) : (W0 w).heap[w.heap.size + k]? = some o := by
  have hk := (List.getElem?_eq_some_iff.1 h).1
  exact (allocs_at _ w k hk).trans h

theorem ctx0 (w : World) : Ctx w (W0 w) := by
  refine ⟨W0_below w, fun j hj => ?_, fun i h1 h2 => ?_, ?_, W0_at w 1 _ rfl, W0_at w 5 _ rfl⟩
  · have : j / 3 = 0 ∨ j / 3 = 1 ∨ j / 3 = 2 := by omega
    rcases this with h | h | h
    · exact ⟨_, by rw [show gA w.heap.size j = w.heap.size + 4 by unfold gA; omega]; exact W0_at w 4 _ rfl, by simp [gId, h], rfl⟩
    · exact ⟨_, by rw [show gA w.heap.size j = w.heap.size + 3 by unfold gA; omega]; exact W0_at w 3 _ rfl, by simp [gId, h], rfl⟩
    · exact ⟨_, by rw [show gA w.heap.size j = w.heap.size + 2 by unfold gA; omega]; exact W0_at w 2 _ rfl, by simp [gId, h], rfl⟩
  · have : i = 1 ∨ i = 2 ∨ i = 3 ∨ i = 4 ∨ i = 5 := by omega
    rcases this with rfl | rfl | rfl | rfl | rfl
    · exact ⟨_, W0_at w 6 _ rfl, rfl⟩
    · exact ⟨_, W0_at w 7 _ rfl, rfl⟩
    · exact ⟨_, W0_at w 8 _ rfl, rfl⟩
    · exact ⟨_, W0_at w 9 _ rfl, rfl⟩
    · exact ⟨_, W0_at w 10 _ rfl, rfl⟩
  · have h := W0_at w 0 _ rfl
    have e : C.ecs.toArray[62]? = some (.int .i64 0) := by kernel_rfl
    exact ⟨0, cell_at h e, frozen_at h⟩

theorem arr0 (w : World) (k : IntKind) (n : Nat) (t : TypeId) (f : Nat → Int) (h : (W0 w).heap[w.heap.size + n]? = some (.cells (zeros k) t (0, 0))) : Arr (w.heap.size + n) t k (W0 w) f 0 :=
  ⟨_, h, rfl, fun i hi => by omega, fun i _ hi => ⟨0, by
    have : i = 0 ∨ i = 1 ∨ i = 2 ∨ i = 3 ∨ i = 4 ∨ i = 5 := by omega
    rcases this with rfl | rfl | rfl | rfl | rfl | rfl <;> rfl, fun _ => rfl⟩⟩
theorem aj0 (w : World) (f : Nat → Int) : Arr (w.heap.size + 11) 129 .i64 (W0 w) f 0 := arr0 w .i64 11 129 f (W0_at w 11 _ rfl)
theorem bm0 (w : World) (f : Nat → Int) : Arr (w.heap.size + 12) 131 .u16 (W0 w) f 0 := arr0 w .u16 12 131 f (W0_at w 12 _ rfl)
end Go.Proofs.Ybulkaala.B
