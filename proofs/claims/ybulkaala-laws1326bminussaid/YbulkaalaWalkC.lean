/-
  THE WALKS OF LawS1326CTooDeep: the fill of ten thousand walks by append, the floors, nestsWithoutEnd at that depth.
-/
import Derived.Test.YbulkaalaProg
import Derived.WalkKit
import Derived.WalkSpells
import Derived.WalkLawsBesides
import Derived.RowKit3
import Derived.Below
import Derived.Handy
namespace Go.Proofs.Ybulkaala.C
open Go.RowKit
set_option linter.unusedVariables false
set_option linter.unusedSimpArgs false

/-- the zero 'walking', flat -/
def zcs : List Value := [.nilIface, .nilIface, .pointer none, .nilIface, .pointer none, .int .i64 0, .int .i32 0, .int .i32 0, .slice none 0 0, .nilIface, .pointer none, .nilIface, .pointer none, .int .i64 0, .int .i32 0, .int .i64 0, .int .i64 0, .int .i64 0, .int .i64 0, .bool false]

theorem info159 : (Yba.prog.info? 159).map (fun i => (i.zero, i.size, i.bytes)) = some (some (.agg zcs.toArray), 20, 208) := by kernel_rfl

set_option maxRecDepth 200000 in
theorem nest (g c b : Nat) (n : Nat) (f0 d o : Int) (w : World) (h0 : (10000 : Int) ≤ n) (hn : (n : Int) ≤ 20000) (hd : d ≤ 0)
    (c9 : w.cell? ⟨b, 9, none⟩ = some (.slice (some ⟨g, 0, none⟩) n c)) (c10 : w.cell? ⟨b, 10, none⟩ = some (.int .i64 o)) (c11 : w.cell? ⟨b, 11, none⟩ = some (.int .i64 d))
    (cf : w.cell? ⟨g, 15, none⟩ = some (.int .i64 f0)) (f10 : w.frozen? ⟨b, 10, none⟩ = false) (f11 : w.frozen? ⟨b, 11, none⟩ = false) :
    Calls Yba.prog 12 #[.pointer (some ⟨b, 0, none⟩), .nilIface] w fun e w' => e = .returned (.tuple #[]) ∧ (w.setCell ⟨b, 11, none⟩ (.int .i64 1)).setCell ⟨b, 10, none⟩ (.int .i64 f0) = w' := by
  have hn0 : (0 : Int) < n := by omega
  go_enter Yba.func12, Yba.ntmps12
  go_wp2
  go_end0
  exact ⟨rfl, rfl⟩

def lenV : Value → Nat | .slice _ n _ => n | _ => 0

/-- what the first loop has gathered -/
def zrow (k : Nat) : List Value := (List.replicate k zcs).flatten
theorem zrow_succ (k : Nat) : zrow k ++ zcs = zrow (k + 1) := by
  unfold zrow; rw [List.replicate_succ']; simp

theorem size159 : (Yba.prog.info? 159).map (·.size) = some zcs.toArray.size := by kernel_rfl
theorem build159 (w : World) : (Instr.buildSlice 32 1 #[(0, .agg zcs.toArray)]).run Yba.prog w = .ok (.slice (some ⟨w.heap.size, 0, none⟩) 1 1) (w.alloc (.cells zcs.toArray 159)) := by kernel_rfl
theorem wp_build159 {o : Oper} {a : Act} {w : World} {K : Act → World → Prop} {Q : Exit → Act → World → Prop} (x : Operand) (ho : o.op = .buildSlice 32 1 #[(0, x)]) (hx : a.eval x = .agg zcs.toArray)
    (h : K (a.put o.dst (.slice (some ⟨w.heap.size, 0, none⟩) 1 1)) (w.alloc (.cells zcs.toArray 159))) : o.wp Yba.prog a w K Q := by
  unfold Oper.wp execOp
  simp only [ho, hx, List.map_toArray, List.map_cons, List.map_nil, Sem.run_bind, Sem.run_pure, Result.andThen_ok, build159]
  exact h
theorem wpList_build159 {ops : Array Oper} {rest : List Oper} {o : Oper} {a : Act} {w : World} {Q : Exit → Act → World → Prop} (hgd : o.guard = none) (x : Operand) (ho : o.op = .buildSlice 32 1 #[(0, x)]) (hx : a.eval x = .agg zcs.toArray)
    (h : wpList Yba.prog ops Q rest (a.put o.dst (.slice (some ⟨w.heap.size, 0, none⟩) 1 1)) (w.alloc (.cells zcs.toArray 159))) : wpList Yba.prog ops Q (o :: rest) a w :=
  wpList_plain hgd fun _ hK => wp_build159 x ho hx (hK _ _ h)
theorem zcs_one : ∀ u ∈ zcs, u.oneCell' = true := by decide
theorem zcs_length : zcs.length = 20 := rfl

theorem zcells {w : World} {b : Nat} (h : w.heap[b]? = some (.cells zcs.toArray 159 (0, 0))) :
    w.cell? ⟨b, 0, none⟩ = some (.nilIface) ∧ w.cell? ⟨b, 1, none⟩ = some (.nilIface) ∧ w.cell? ⟨b, 2, none⟩ = some (.pointer none) ∧ w.cell? ⟨b, 3, none⟩ = some (.nilIface) ∧ w.cell? ⟨b, 4, none⟩ = some (.pointer none) ∧ w.cell? ⟨b, 5, none⟩ = some (.int .i64 0) ∧ w.cell? ⟨b, 6, none⟩ = some (.int .i32 0) ∧ w.cell? ⟨b, 7, none⟩ = some (.int .i32 0) ∧ w.cell? ⟨b, 8, none⟩ = some (.slice none 0 0) ∧ w.cell? ⟨b, 9, none⟩ = some (.nilIface) ∧ w.cell? ⟨b, 10, none⟩ = some (.pointer none) ∧ w.cell? ⟨b, 11, none⟩ = some (.nilIface) ∧ w.cell? ⟨b, 12, none⟩ = some (.pointer none) ∧ w.cell? ⟨b, 13, none⟩ = some (.int .i64 0) ∧ w.cell? ⟨b, 14, none⟩ = some (.int .i32 0) ∧ w.cell? ⟨b, 15, none⟩ = some (.int .i64 0) ∧ w.cell? ⟨b, 16, none⟩ = some (.int .i64 0) ∧ w.cell? ⟨b, 17, none⟩ = some (.int .i64 0) ∧ w.cell? ⟨b, 18, none⟩ = some (.int .i64 0) ∧ w.cell? ⟨b, 19, none⟩ = some (.bool false) := by
  refine ⟨?_, ?_, ?_, ?_, ?_, ?_, ?_, ?_, ?_, ?_, ?_, ?_, ?_, ?_, ?_, ?_, ?_, ?_, ?_, ?_⟩ <;> (rw [cell_of_row _ _ _ _ _ _ h]; rfl)

theorem ta166 (a : Addr) (w : World) : (Instr.typeAssert (.iface 166 (.pointer (some a))) 20 166 true).run Yba.prog w = .ok (.tuple #[.pointer (some a), .bool true]) w := by kernel_rfl

/-- ONE ROUND OF THE FIRST LOOP, outside the walk. -/
theorem rel1 {w wr w1 : World} {a : Option Addr} {c k : Nat} {v' : Value} (hown : wr.ownsRow (w.heap.size + 1) 159 20 (.slice a k c) k (zrow k))
    (hzb : wr.heap[w.heap.size]? = some (.cells zcs.toArray 159 (0, 0))) (hbel : Below (w.heap.size + 1) (w.alloc (.cells zcs.toArray 159)) wr)
    (hown' : w1.ownsRow (w.heap.size + 1) 159 20 v' (k + 1) (zrow k ++ zcs)) (hgrow : (wr.alloc (.cells zcs.toArray 159)).grownBy w1 (Value.slice a k c).ownBlock) :
    ∃ a' c', v' = .slice a' (k + 1) c' ∧ w1.ownsRow (w.heap.size + 1) 159 20 (.slice a' (k + 1) c') (k + 1) (zrow (k + 1)) ∧ w1.heap[w.heap.size]? = some (.cells zcs.toArray 159 (0, 0)) ∧ Below (w.heap.size + 1) (w.alloc (.cells zcs.toArray 159)) w1 := by
  have hs := hbel.size
  simp at hs
  have hb1 : ∀ k', (Value.slice a k c).ownBlock = some k' → w.heap.size + 1 ≤ k' := fun k' h => (hown.lt k' h).1
  have hB : Below (w.heap.size + 1) (w.alloc (.cells zcs.toArray 159)) w1 := (hbel.alloc hs _).grown hgrow (by simp; omega) hb1
  rw [zrow_succ] at hown'
  have hz : w1.heap[w.heap.size]? = some (.cells zcs.toArray 159 (0, 0)) := by
    rw [hB.block _ (by omega)]; exact heap_alloc_new _ _
  rcases hown'.2 with ⟨_, h⟩ | ⟨g, cap, cur, rfl, r⟩
  · omega
  · exact ⟨_, _, rfl, hown', hz, hB⟩

/-- ONE ROUND OF THE SECOND LOOP, outside the walk. -/
theorem rel2 {w wr : World} {g c j k : Nat} {f0 : Int} {cur : Array Value} (hf0 : wrap64 f0 = f0) (hg : w.heap.size + 1 ≤ g) (hjl : j < k) (hkc : k ≤ c)
    (hcells : wr.heap[g]? = some (.cells cur 159 (0, 0))) (hsz : cur.size = c * 20) (h15 : 0 < j → cur[15]? = some (.int .i64 f0)) (hbel : Below (w.heap.size + 1) (w.alloc (.cells zcs.toArray 159)) wr) :
    ∃ cur' : Array Value, (wr.setCell ⟨g, j * 20 + 15, none⟩ (.int .i64 (wrap64 (f0 + j)))).heap[g]? = some (.cells cur' 159 (0, 0)) ∧ cur'.size = c * 20 ∧ cur'[15]? = some (.int .i64 f0) ∧
      Below (w.heap.size + 1) (w.alloc (.cells zcs.toArray 159)) (wr.setCell ⟨g, j * 20 + 15, none⟩ (.int .i64 (wrap64 (f0 + j)))) := by
  refine ⟨cur.setIfInBounds (j * 20 + 15) (.int .i64 (wrap64 (f0 + j))), ?_, by simpa using hsz, ?_, hbel.setCell hg _⟩
  · simp [World.setCell, Array.getElem?_modify, hcells]
  · rcases Nat.eq_zero_or_pos j with rfl | h
    · have : 15 < cur.size := by omega
      simp [Array.getElem?_setIfInBounds, this, hf0]
    · rw [Array.getElem?_setIfInBounds_ne (by omega)]; exact h15 h

set_option maxRecDepth 100000 in
set_option maxHeartbeats 1000000 in
theorem fill_any (n : Nat) (f0 : Int) (w : World) (h0 : 0 < n) (hn : n ≤ 20000) (HF : Hid (wrap64 f0 = f0)) :
    Calls Yba.prog 13 #[.slice none 0 0, .int .i64 n, .int .i64 f0] w fun e w' =>
      ∃ g cap, e = .returned (.slice (some ⟨g, 0, none⟩) n cap) ∧ w.heap.size + 1 ≤ g ∧ g < w'.heap.size ∧ w'.cell? ⟨g, 15, none⟩ = some (.int .i64 f0) ∧ Below w.heap.size w w' := by
  obtain ⟨i0, hi, hz0, hz1, hz2⟩ := info_parts info159
  go_enter Yba.func13, Yba.ntmps13
  go_wp2
  go_loopw [0] (fun v wr => ∃ (k : Nat) (a : Option Addr) (c : Nat), k ≤ n ∧ v = .slice a k c ∧ wr.ownsRow (w.heap.size + 1) 159 20 (.slice a k c) k (zrow k) ∧ wr.heap[w.heap.size]? = some (.cells zcs.toArray 159 (0, 0)) ∧ Below (w.heap.size + 1) (w.alloc (.cells zcs.toArray 159)) wr)
    (fun v _ => n - lenV v)
  case atStart => exact ⟨0, none, 0, Nat.zero_le _, rfl, World.ownsRow_nil _ _ _ _, heap_alloc_new _ _, Below.refl _ _⟩
  case round =>
    obtain ⟨k, a, c, hk, rfl, hown, hzb, hbel⟩ := hrel
    by_cases hlt : k < n
    · go_wp2_with (first | (refine wpList_load_row rfl 159 (.tmp 7) rfl w.heap.size rfl 159 zcs.toArray (0, 0) _ hzb Yba.underlying159 rfl size159 ?_) | (refine wpList_build159 rfl (.tmp 17) rfl rfl ?_) | (at_builtin; refine wpList_append_own _ rfl _ _ 32 rfl (w.heap.size + 1) 159 i0 (.agg zcs.toArray) 20 208 Yba.underlying32 hi hz0 hz1 hz2 rfl (by decide) _ _ _ rfl (hown.alloc _) ⟨wr.heap.size, 0, none⟩ 1 1 zcs rfl rfl ?c1 zcs_one ?c3 ?c4 ?c5 ?_))
      case c1 =>
        intro j u hj
        rw [Addr.add_lit, Nat.zero_add, cell_of_row _ _ _ _ _ _ (heap_alloc_new _ _)]
        simpa using hj
      case c3 => unfold maxLen; omega
      case c4 => omega
      case c5 => have := hbel.size; simp at this ⊢; omega
      · intro v' w1 hown' hgrow _
        obtain ⟨a', c', rfl, R1, R2, R3⟩ := rel1 hown hzb hbel hown' hgrow
        clear hown hzb hbel hown' hgrow
        go_wp2
        go_roundw
        case rel => exact ⟨k + 1, a', c', by omega, rfl, R1, R2, R3⟩
        case measure => simp [lenV]; omega
    · obtain rfl : k = n := by omega
      rcases hown.2 with ⟨_, h⟩ | ⟨g, cap, cur, hv, hg, hcells, hncap, hcm, hsz, htk⟩
      · omega
      obtain ⟨rfl, _, rfl⟩ : a = some ⟨g, 0, none⟩ ∧ k = k ∧ c = cap := by simpa using hv
      clear hv hown hzb htk
      go_wp2
      go_loopw [8] (fun i w2 => ∃ j : Nat, j ≤ k ∧ i = .int .i64 j ∧ ∃ cur : Array Value, w2.heap[g]? = some (.cells cur 159 (0, 0)) ∧ cur.size = c * 20 ∧ (0 < j → cur[15]? = some (.int .i64 f0)) ∧ Below (w.heap.size + 1) (w.alloc (.cells zcs.toArray 159)) w2)
        (fun i _ => k - (intOf i).toNat)
      case atStart => exact ⟨0, Nat.zero_le _, rfl, cur, hcells, hsz, fun h => absurd h (by omega), hbel⟩
      case round =>
        clear hcells hsz hbel cur
        obtain ⟨j, hj, rfl, cur, hcells, hsz, h15, hbel⟩ := hrel
        by_cases hjl : j < k
        · obtain ⟨x, hx⟩ : ∃ x, wr.cell? ⟨g, j * 20 + 15, none⟩ = some x := by
            rw [cell_of_row _ _ _ _ _ _ hcells]
            exact ⟨_, Array.getElem?_eq_getElem (by omega)⟩
          have hf : wr.frozen? ⟨g, j * 20 + 15, none⟩ = false := by simp [World.frozen?, hcells]
          have hta := ta166
          go_wp2
          obtain ⟨cur', R1, R2, R3, R4⟩ := rel2 HF.out hg hjl hncap hcells hsz h15 hbel
          go_roundw
          case rel => exact ⟨j + 1, by omega, by go_num, cur', R1, R2, fun _ => R3, R4⟩
          case measure => simp [intOf]; omega
        · obtain rfl : j = k := by omega
          go_wp2
          go_ret
          refine ⟨g, c, rfl, hg, (Array.getElem?_eq_some_iff.1 hcells).1, ?_, ?_⟩
          · rw [cell_of_row _ _ _ _ _ _ hcells]; exact h15 h0
          · exact ((Below.refl _ _).alloc (Nat.le_refl _) _).trans (hbel.mono (by omega))
end Go.Proofs.Ybulkaala.C
