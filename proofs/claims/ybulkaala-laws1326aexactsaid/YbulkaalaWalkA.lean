/-
  THE WALKS OF LawS1326AExact: 'took' and its model, each as three plain functions on numbers.
-/
import Derived.Test.YbulkaalaProg
import Derived.WalkKit
import Derived.WalkSpells
import Derived.WalkLawsBesides
import Derived.RowKit3
import Derived.Below
import Derived.Handy
namespace Go.Proofs.Ybulkaala.A
open Go.RowKit
set_option linter.unusedVariables false
set_option linter.unusedSimpArgs false

/-- 'lowest' and 'outside' behind a take -/
def tLow (l p : Int) : Int := if wrap32 p < l then wrap32 p else l
def tOut (o p a f : Int) : Int := if f ≤ a then tLow o p else o
def tHigh (h p a : Int) : Int := if p < a then (if h < wrap32 p then wrap32 p else h) else h

theorem ret_agg {k : IntKind} {a b c a' b' c' : Int} (h1 : a = a') (h2 : b = b') (h3 : c = c') : Ending.returned (.agg #[.int k a, .int k b, .int k c]) = .returned (.agg #[.int k a', .int k b', .int k c']) := by rw [h1, h2, h3]

set_option maxHeartbeats 400000 in
theorem model_max (l o h a f : Int) (w : World) :
    Calls Yba.prog 8 #[.agg #[.int .i32 l, .int .i32 o, .int .i32 h], .int .i64 9223372036854775807, .int .i64 a, .int .i64 f] w fun e w' => e = .returned (.agg #[.int .i32 l, .int .i32 o, .int .i32 h]) ∧ Below w.heap.size w w' := by
  go_enter Yba.func8, Yba.ntmps8
  go_wp2
  go_returns
  exact ⟨rfl, by go_grown⟩

set_option maxHeartbeats 4000000 in
theorem model_any (l o h p a f : Int) (w : World) (hp : (p == 9223372036854775807) = false) :
    Calls Yba.prog 8 #[.agg #[.int .i32 l, .int .i32 o, .int .i32 h], .int .i64 p, .int .i64 a, .int .i64 f] w fun e w' => e = .returned (.agg #[.int .i32 (tLow l p), .int .i32 (tOut o p a f), .int .i32 (tHigh h p a)]) ∧ Below w.heap.size w w' := by
  go_enter Yba.func8, Yba.ntmps8
  go_wp2
  all_goals
    go_returns
    exact ⟨ret_agg (by unfold tLow; split <;> omega) (by unfold tOut tLow; (repeat' split) <;> omega) (by unfold tHigh; (repeat' split) <;> omega), by go_grown⟩

/-- What 'took' leaves: the three cells turned; no other block; the marks as they were. -/
structure Took (b : Nat) (l o h : Int) (w w' : World) : Prop where
  c0 : w'.cell? ⟨b, 0, none⟩ = some (.int .i32 l)
  c1 : w'.cell? ⟨b, 1, none⟩ = some (.int .i32 o)
  c2 : w'.cell? ⟨b, 2, none⟩ = some (.int .i32 h)
  other : ∀ c i, c ≠ b → w'.cell? ⟨c, i, none⟩ = w.cell? ⟨c, i, none⟩
  below : Below b w w'

set_option maxHeartbeats 4000000 in
theorem took_any (b : Nat) (l o h p a f : Int) (w : World) (hp : (p == 9223372036854775807) = false)
    (c0 : w.cell? ⟨b, 0, none⟩ = some (.int .i32 l)) (c1 : w.cell? ⟨b, 1, none⟩ = some (.int .i32 o)) (c2 : w.cell? ⟨b, 2, none⟩ = some (.int .i32 h))
    (f0 : w.frozen? ⟨b, 0, none⟩ = false) (f1 : w.frozen? ⟨b, 1, none⟩ = false) (f2 : w.frozen? ⟨b, 2, none⟩ = false) :
    Calls Yba.prog 9 #[.pointer (some ⟨b, 0, none⟩), .int .i64 p, .int .i64 a, .int .i64 f] w fun e w' => e = .returned (.tuple #[]) ∧ Took b (tLow l p) (tOut o p a f) (tHigh h p a) w w' := by
  go_enter Yba.func9, Yba.ntmps9
  go_wp2
  all_goals
    go_end0
    refine ⟨rfl, ?_, ?_, ?_, ?_, ?_⟩
    · (try simp [go_sem, c0, c1, c2]); unfold tLow; split <;> omega
    · (try simp [go_sem, c0, c1, c2]); unfold tOut tLow; (repeat' split) <;> omega
    · (try simp [go_sem, c0, c1, c2]); unfold tHigh; (repeat' split) <;> omega
    · intro c i hc; simp [go_sem, hc]
    · go_grown

theorem took_max (b : Nat) (a f : Int) (w : World) :
    Calls Yba.prog 9 #[.pointer (some ⟨b, 0, none⟩), .int .i64 9223372036854775807, .int .i64 a, .int .i64 f] w fun e w' => e = .returned (.tuple #[]) ∧ w = w' := by
  go_enter Yba.func9, Yba.ntmps9
  go_wp2
  go_returns
  exact ⟨rfl, rfl⟩

theorem bcell {W w1 : World} (hb : Below W.heap.size W w1) : (∀ b o, b < W.heap.size → w1.cell? ⟨b, o, none⟩ = W.cell? ⟨b, o, none⟩) ∧ (∀ b o, b < W.heap.size → w1.frozen? ⟨b, o, none⟩ = W.frozen? ⟨b, o, none⟩) :=
  ⟨fun b o h => hb.cell (p := ⟨b, o, none⟩) h, fun b o h => hb.frozen (p := ⟨b, o, none⟩) h⟩

set_option maxHeartbeats 1000000 in
theorem law_max (l o h a f : Int) (w : World) :
    Calls Yba.prog 3 #[.int .i32 l, .int .i32 o, .int .i32 h, .int .i64 9223372036854775807, .int .i64 a, .int .i64 f] w fun e w' => e = .returned (.bool true) ∧ Below w.heap.size w w' := by
  go_enter Yba.func3, Yba.ntmps3
  go_wp2_with fail
  refine (model_max _ _ _ _ _ _).mono ?_
  rintro e w1 ⟨rfl, hb⟩
  obtain ⟨hc, hf⟩ := bcell hb
  have hz : w.heap.size < w1.heap.size := by have := hb.size; simp at this; omega
  have x0 : w1.cell? ⟨w.heap.size, 0, none⟩ = some (.int .i32 l) := by rw [hc _ _ (by simp)]; simp [go_sem]
  have x1 : w1.cell? ⟨w.heap.size, 1, none⟩ = some (.int .i32 o) := by rw [hc _ _ (by simp)]; simp [go_sem]
  have x2 : w1.cell? ⟨w.heap.size, 2, none⟩ = some (.int .i32 h) := by rw [hc _ _ (by simp)]; simp [go_sem]
  have hb0 : Below w.heap.size w w1 := ((Below.refl _ _).alloc (Nat.le_refl _) _).trans (hb.mono (by simp))
  clear hc hf hb
  go_wp2_with fail
  refine (took_max _ _ _ _).mono ?_
  rintro e w2 ⟨rfl, rfl⟩
  go_wp2_with fail
  go_ret
  refine ⟨rfl, ?_⟩
  exact hb0.alloc (by omega) _

set_option maxHeartbeats 1000000 in
theorem law_any (l o h p a f : Int) (w : World) (hp : (p == 9223372036854775807) = false) :
    Calls Yba.prog 3 #[.int .i32 l, .int .i32 o, .int .i32 h, .int .i64 p, .int .i64 a, .int .i64 f] w fun e w' => e = .returned (.bool true) ∧ Below w.heap.size w w' := by
  go_enter Yba.func3, Yba.ntmps3
  go_wp2_with fail
  refine (model_any _ _ _ _ _ _ _ hp).mono ?_
  rintro e w1 ⟨rfl, hb⟩
  obtain ⟨hc, hf⟩ := bcell hb
  have hz : w.heap.size < w1.heap.size := by have := hb.size; simp at this; omega
  have x0 : w1.cell? ⟨w.heap.size, 0, none⟩ = some (.int .i32 l) := by rw [hc _ _ (by simp)]; simp [go_sem]
  have x1 : w1.cell? ⟨w.heap.size, 1, none⟩ = some (.int .i32 o) := by rw [hc _ _ (by simp)]; simp [go_sem]
  have x2 : w1.cell? ⟨w.heap.size, 2, none⟩ = some (.int .i32 h) := by rw [hc _ _ (by simp)]; simp [go_sem]
  have y0 : w1.frozen? ⟨w.heap.size, 0, none⟩ = false := by rw [hf _ _ (by simp)]; simp [go_sem]
  have y1 : w1.frozen? ⟨w.heap.size, 1, none⟩ = false := by rw [hf _ _ (by simp)]; simp [go_sem]
  have y2 : w1.frozen? ⟨w.heap.size, 2, none⟩ = false := by rw [hf _ _ (by simp)]; simp [go_sem]
  have hb0 : Below w.heap.size w w1 := ((Below.refl _ _).alloc (Nat.le_refl _) _).trans (hb.mono (by simp))
  clear hc hf hb
  go_wp2_with fail
  refine (took_any _ l o h _ _ _ _ hp (by simp [go_sem, x0, hz]) (by simp [go_sem, x1, hz]) (by simp [go_sem, x2, hz]) (by simp [go_sem, y0, hz]) (by simp [go_sem, y1, hz]) (by simp [go_sem, y2, hz])).mono ?_
  rintro e w2 ⟨rfl, ht⟩
  obtain ⟨z0, z1, z2, zo, zb⟩ := ht
  have v0 : w2.cell? ⟨w1.heap.size, 0, none⟩ = some (.int .i32 (tLow l p)) := by rw [zo _ _ (by omega)]; simp [go_sem]
  have v1 : w2.cell? ⟨w1.heap.size, 1, none⟩ = some (.int .i32 (tOut o p a f)) := by rw [zo _ _ (by omega)]; simp [go_sem]
  have v2 : w2.cell? ⟨w1.heap.size, 2, none⟩ = some (.int .i32 (tHigh h p a)) := by rw [zo _ _ (by omega)]; simp [go_sem]
  have hb1 : Below w.heap.size w w2 := (hb0.alloc (by omega) _).trans zb
  clear zo zb hb0 x0 x1 x2 y0 y1 y2
  go_wp2_with fail
  go_ret
  exact ⟨rfl, hb1⟩

theorem law (l o h p a f : Int) (w : World) :
    Calls Yba.prog 3 #[.int .i32 l, .int .i32 o, .int .i32 h, .int .i64 p, .int .i64 a, .int .i64 f] w fun e w' => e = .returned (.bool true) ∧ Below w.heap.size w w' := by
  by_cases hp : (p == 9223372036854775807) = true
  · have e : p = 9223372036854775807 := by simpa using hp
    rw [e]; exact law_max l o h a f w
  · exact law_any l o h p a f w (by simpa using hp)
end Go.Proofs.Ybulkaala.A
