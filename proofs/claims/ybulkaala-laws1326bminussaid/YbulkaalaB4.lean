/-
  BMinus, 4: lists of places in memory; newPlace, consPlaces, remade.
-/
import Derived.Test.YbulkaalaB3
namespace Go.Proofs.Ybulkaala.B
open Go.RowKit
set_option linter.unusedVariables false
set_option linter.unusedSimpArgs false

/-- the i-th path's pointer: none at 0; the blocks B + 6 .. B + 10 -/
def pV (B i : Nat) : Option Addr := if i = 0 then none else some ⟨B + 5 + i, 0, none⟩
def placeObj (B i : Nat) (sv nx : Option Addr) : Obj := .cells #[.pointer (pV B i), .pointer sv, .pointer nx, .bool false] 142 (0, 0)

/-- the evaluator's count may be written -/
def EvOk (B : Nat) (w : World) : Prop := ∃ n, w.cell? ⟨B, 62, none⟩ = some (.int .i64 n) ∧ w.frozen? ⟨B, 62, none⟩ = false

theorem EvOk.set {B : Nat} {w : World} (h : EvOk B w) (m : Int) : EvOk B (w.setCell ⟨B, 62, none⟩ (.int .i64 m)) := by
  obtain ⟨n, h1, h2⟩ := h
  exact ⟨m, by simp [go_sem, h1], by simp [go_sem, h2]⟩
theorem EvOk.of_block {B : Nat} {w w' : World} (hk : w'.heap[B]? = w.heap[B]?) (h : EvOk B w) : EvOk B w' := by
  obtain ⟨n, h1, h2⟩ := h
  exact ⟨n, by rw [World.cell?_of_block (w := w) hk]; exact h1, by rw [World.frozen?_of_block (w := w) hk]; exact h2⟩
theorem EvOk.lt {B : Nat} {w : World} (h : EvOk B w) : B < w.heap.size := by obtain ⟨n, h1, _⟩ := h; exact World.block_lt_of_cell? w _ h1

/-- what newPlace and consPlaces leave: the evaluator's count may have turned, then one new block -/
structure Made (B : Nat) (o : Obj) (w w' : World) : Prop where
  gb : w.grownBy w' (some B)
  ev : EvOk B w'
  new : w'.heap[w.heap.size]? = some o

set_option maxRecDepth 100000 in
set_option maxHeartbeats 1000000 in
theorem newPlace_any (B i j sb : Nat) (c : Int) (nx : Option Addr) (w : World) (hj : j < 9) (hG : Groups B w) (hE : EvOk B w) (hsb : w.heap[sb]? = some (slotObj B j nx c)) :
    Calls Yba.prog 29 #[.pointer (pV B i), .pointer (some ⟨sb, 0, none⟩)] w fun e w' => e = .returned (.pointer (some ⟨w.heap.size, 0, none⟩)) ∧ ∃ w1, w.grownBy w1 (some B) ∧ EvOk B w1 ∧ w1.heap.size = w.heap.size ∧ w' = w1.alloc (placeObj B i (some ⟨sb, 0, none⟩) none) := by
  obtain ⟨x0, x1, x2, x6⟩ := slot_cells hsb
  have hev := hG.ev hj
  have hE' := hE
  obtain ⟨n, hn, hf⟩ := hE
  unfold placeObj
  by_cases hi : i = 0
  · have e : pV B i = none := by simp [pV, hi]
    rw [e]
    go_enter Yba.func29, Yba.ntmps29
    go_wp2
    go_ret
    exact ⟨rfl, w, World.grownBy.refl _ _, hE', rfl, rfl⟩
  · have e : pV B i = some ⟨B + 5 + i, 0, none⟩ := by simp [pV, hi]
    rw [e]
    go_enter Yba.func29, Yba.ntmps29
    go_wp2
    go_ret
    exact ⟨rfl, _, gb_set (World.grownBy.refl _ _) 62 _, hE'.set _, by simp [World.setCell], rfl⟩

theorem made_of {B : Nat} {w w1 : World} (hg : w.grownBy w1 (some B)) (hev : EvOk B w1) (hz : w1.heap.size = w.heap.size) (o : Obj) : Made B o w (w1.alloc o) :=
  ⟨gb_alloc hg o, hev.of_block (Below.heap_alloc _ _ _ hev.lt), by rw [← hz]; exact heap_alloc_new _ _⟩

/-- nil, or a place that is not shared -/
def NxOk (B : Nat) (w : World) (p : Option Addr) : Prop := p = none ∨ ∃ xb i sv nx, p = some ⟨xb, 0, none⟩ ∧ B + 10 < xb ∧ w.heap[xb]? = some (placeObj B i sv nx)

set_option maxRecDepth 100000 in
set_option maxHeartbeats 1000000 in
theorem cons_any (B i j sb : Nat) (c : Int) (nx q : Option Addr) (w : World) (hj : j < 9) (hG : Groups B w) (hE : EvOk B w) (hsB : B < sb) (hsb : w.heap[sb]? = some (slotObj B j nx c)) (hq : NxOk B w q) :
    Calls Yba.prog 21 #[.pointer (pV B i), .pointer (some ⟨sb, 0, none⟩), .pointer q] w fun e w' => e = .returned (.pointer (some ⟨w.heap.size, 0, none⟩)) ∧ Made B (placeObj B i (some ⟨sb, 0, none⟩) q) w w' := by
  have hsl := lt_of_block hsb
  go_enter Yba.func21, Yba.ntmps21
  go_wp2_with fail
  refine (newPlace_any B i j sb c nx w hj hG hE hsb).mono ?_
  rintro e w' ⟨rfl, w1, hg, hev, hz, rfl⟩
  have hsb1 : w1.heap[sb]? = some (slotObj B j nx c) := by rw [hg.block _ hsl (by simp; omega)]; exact hsb
  have x6 : w1.cell? ⟨sb, 6, none⟩ = some (.bool false) := cell_at hsb1 rfl
  have hsl1 := lt_of_block hsb1
  have hE1 := hev.lt
  rcases hq with rfl | ⟨xb, i', sv', nx', rfl, hxB, hxb⟩
  · unfold placeObj
    go_wp2_with fail
    go_ret
    exact ⟨rfl, made_of hg hev hz _⟩
  · have hxb1 : w1.heap[xb]? = some (placeObj B i' sv' nx') := by rw [hg.block _ (lt_of_block hxb) (by simp; omega)]; exact hxb
    have x3 : w1.cell? ⟨xb, 3, none⟩ = some (.bool false) := cell_at hxb1 rfl
    have hxl1 := lt_of_block hxb1
    have hxl := lt_of_block hxb
    unfold placeObj
    clear hxb hxb1
    go_wp2_with fail
    go_ret
    exact ⟨rfl, made_of hg hev hz _⟩

theorem place_cells {B i nb : Nat} {sv nx : Option Addr} {w : World} (h : w.heap[nb]? = some (placeObj B i sv nx)) :
    w.cell? ⟨nb, 0, none⟩ = some (.pointer (pV B i)) ∧ w.cell? ⟨nb, 1, none⟩ = some (.pointer sv) ∧ w.cell? ⟨nb, 2, none⟩ = some (.pointer nx) :=
  ⟨cell_at h rfl, cell_at h rfl, cell_at h rfl⟩

/-- '==' of two places, each nil or a place -/
theorem eqlPlaces {B : Nat} {w : World} {p q : Option Addr} (hp : NxOk B w p) (hq : NxOk B w q) : (binOp .eql 132 (.pointer p) (.pointer q)).run Yba.prog w = .ok (.bool (decide (p = q))) w := by
  rcases hp with rfl | ⟨xb, i, sv, nx, rfl, _, hx⟩ <;> rcases hq with rfl | ⟨yb, i', sv', nx', rfl, _, hy⟩
  · kernel_rfl
  · rw [nilEq132]; simp
  · exact (show (binOp .eql 132 (.pointer (some ⟨xb, 0, none⟩)) (.pointer none)).run Yba.prog w = .ok (.bool false) w by kernel_rfl).trans (by simp)
  · rw [eql132 w hx hy]; simp

set_option maxRecDepth 100000 in
set_option maxHeartbeats 1000000 in
theorem remade_same (B i nb sb : Nat) (nx : Option Addr) (w : World) (hnb : w.heap[nb]? = some (placeObj B i (some ⟨sb, 0, none⟩) nx)) (hn : NxOk B w nx) :
    Calls Yba.prog 16 #[.pointer (some ⟨nb, 0, none⟩), .pointer (some ⟨sb, 0, none⟩), .pointer nx] w fun e w' => e = .returned (.pointer (some ⟨nb, 0, none⟩)) ∧ w' = w := by
  obtain ⟨x0, x1, x2⟩ := place_cells hnb
  have h1 := same134 ⟨sb, 0, none⟩ w
  have h2 := eqlPlaces hn hn
  simp only [decide_true] at h2
  go_enter Yba.func16, Yba.ntmps16
  go_wp2
  go_ret
  exact ⟨rfl, rfl⟩

set_option maxRecDepth 100000 in
set_option maxHeartbeats 1000000 in
theorem remade_drop (B i nb sb : Nat) (nx q : Option Addr) (w : World) (hnb : w.heap[nb]? = some (placeObj B i (some ⟨sb, 0, none⟩) nx)) :
    Calls Yba.prog 16 #[.pointer (some ⟨nb, 0, none⟩), .pointer none, .pointer q] w fun e w' => e = .returned (.pointer q) ∧ w' = w := by
  obtain ⟨x0, x1, x2⟩ := place_cells hnb
  have h1 := nilEq134 ⟨sb, 0, none⟩ w
  go_enter Yba.func16, Yba.ntmps16
  go_wp2
  go_ret
  exact ⟨rfl, rfl⟩

set_option maxRecDepth 100000 in
set_option maxHeartbeats 1000000 in
theorem remade_new (B i j nb sb : Nat) (c : Int) (nx q r : Option Addr) (w : World) (hj : j < 9) (hG : Groups B w) (hE : EvOk B w) (hsB : B < sb) (hsb : w.heap[sb]? = some (slotObj B j r c)) (hnb : w.heap[nb]? = some (placeObj B i (some ⟨sb, 0, none⟩) nx))
    (hn : NxOk B w nx) (hq : NxOk B w q) (hne : q ≠ nx) :
    Calls Yba.prog 16 #[.pointer (some ⟨nb, 0, none⟩), .pointer (some ⟨sb, 0, none⟩), .pointer q] w fun e w' => e = .returned (.pointer (some ⟨w.heap.size, 0, none⟩)) ∧ Made B (placeObj B i (some ⟨sb, 0, none⟩) q) w w' := by
  obtain ⟨x0, x1, x2⟩ := place_cells hnb
  have h1 := same134 ⟨sb, 0, none⟩ w
  have h2 := eqlPlaces hq hn
  rw [decide_eq_false hne] at h2
  go_enter Yba.func16, Yba.ntmps16
  go_wp2_with fail
  refine (cons_any B i j sb c r q w hj hG hE hsB hsb hq).mono ?_
  rintro e w' ⟨rfl, hm⟩
  go_wp2_with fail
  go_ret
  exact ⟨rfl, hm⟩
end Go.Proofs.Ybulkaala.B
