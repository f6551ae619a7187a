/-
  BMinus, 2: lists of slots in memory; equality of pointers and of slots; the closure of (*slots).minus.
-/
import Derived.Test.YbulkaalaB1
import Derived.Deep.LoopGhost
import Derived.LaidEqlPtr
import Derived.Laws.StructEq
namespace Go.Proofs.Ybulkaala.B
open Go.RowKit
set_option linter.unusedVariables false
set_option linter.unusedSimpArgs false

/-- the block of the group of code j: B + 2, B + 3 or B + 4; B is the evaluator's block -/
def gA (B j : Nat) : Nat := B + 2 + (2 - j / 3)
/-- the slot's number of code j -/
def sN (j : Nat) : Int := ((j % 3 : Nat) : Int)
/-- the slot of code j, as a value -/
def slotV (B j : Nat) : Value := .agg #[.pointer (some ⟨gA B j, 0, none⟩), .int .i64 (sN j)]
/-- the id of the group of code j -/
def gId (j : Nat) : Int := ((3 - j / 3 : Nat) : Int)

/-- one node of a list of slots -/
def slotObj (B j : Nat) (nx : Option Addr) (c : Int) : Obj := .cells #[.pointer (some ⟨gA B j, 0, none⟩), .int .i64 (sN j), .pointer nx, .pointer none, .int .i64 0, .int .i32 c, .bool false] 140 (0, 0)

/-- A list of slots: each its code and its block. -/
def SLst (B : Nat) (w : World) : Option Addr → List (Nat × Nat) → Prop
  | v, [] => v = none
  | v, (j, sb) :: r => v = some ⟨sb, 0, none⟩ ∧ j < 9 ∧ B + 10 < sb ∧ ∃ nx c, w.heap[sb]? = some (slotObj B j nx c) ∧ SLst B w nx r

/-- the groups in memory: their ids, their evaluator -/
def Groups (B : Nat) (w : World) : Prop := ∀ j, j < 9 → ∃ cs : Array Value, w.heap[gA B j]? = some (.cells cs 119 (0, 0)) ∧ cs[0]? = some (.int .i64 (gId j)) ∧ cs[1]? = some (.pointer (some ⟨B, 0, none⟩))

theorem lt_of_block {w : World} {b : Nat} {o : Obj} (h : w.heap[b]? = some o) : b < w.heap.size := (Array.getElem?_eq_some_iff.1 h).1
theorem cell_at {w : World} {b i : Nat} {cs : Array Value} {t : TypeId} {v : Value} (h : w.heap[b]? = some (.cells cs t (0, 0))) (hv : cs[i]? = some v) : w.cell? ⟨b, i, none⟩ = some v := by
  rw [cell_of_row _ _ _ _ _ _ h]; exact hv
theorem frozen_at {w : World} {b i : Nat} {cs : Array Value} {t : TypeId} (h : w.heap[b]? = some (.cells cs t (0, 0))) : w.frozen? ⟨b, i, none⟩ = false := by simp [World.frozen?, h]

theorem slot_cells {B j sb : Nat} {nx : Option Addr} {c : Int} {w : World} (h : w.heap[sb]? = some (slotObj B j nx c)) :
    w.cell? ⟨sb, 0, none⟩ = some (.pointer (some ⟨gA B j, 0, none⟩)) ∧ w.cell? ⟨sb, 1, none⟩ = some (.int .i64 (sN j)) ∧ w.cell? ⟨sb, 2, none⟩ = some (.pointer nx) ∧ w.cell? ⟨sb, 6, none⟩ = some (.bool false) :=
  ⟨cell_at h rfl, cell_at h rfl, cell_at h rfl, cell_at h rfl⟩

theorem cmpS_lt {j k : Nat} (hj : j < 9) (hk : k < 9) : cmpS (gId j) (sN j) (gId k) (sN k) < 0 ↔ j < k := by
  unfold cmpS orI cmp3 gId sN
  (repeat' split) <;> omega
theorem code_eq {B j k : Nat} (hj : j < 9) (hk : k < 9) : (decide (gA B k = gA B j) && (sN k == sN j)) = decide (k = j) := by
  rw [Bool.eq_iff_iff]
  simp [gA, sN]
  omega

theorem SLst.kept {B : Nat} {w w' : World} : ∀ {l : List (Nat × Nat)} {v : Option Addr}, (∀ e ∈ l, w'.heap[e.2]? = w.heap[e.2]?) → SLst B w v l → SLst B w' v l
  | [], _, _, h => h
  | (j, sb) :: r, v, hk, ⟨h1, h2, h3, nx, c, h4, h5⟩ => ⟨h1, h2, h3, nx, c, (hk (j, sb) (by simp)).trans h4, SLst.kept (fun e he => hk e (by simp [he])) h5⟩
theorem SLst.lt {B : Nat} {w : World} : ∀ {l : List (Nat × Nat)} {v : Option Addr}, SLst B w v l → ∀ e ∈ l, e.1 < 9 ∧ B + 10 < e.2 ∧ e.2 < w.heap.size
  | [], _, _, e, he => by simp at he
  | (j, sb) :: r, v, ⟨h1, h2, h3, nx, c, h4, h5⟩, e, he => by
    rcases List.mem_cons.1 he with rfl | he
    · exact ⟨h2, h3, lt_of_block h4⟩
    · exact SLst.lt h5 e he
theorem Groups.kept {B : Nat} {w w' : World} (hk : ∀ j, j < 9 → w'.heap[gA B j]? = w.heap[gA B j]?) (h : Groups B w) : Groups B w' := fun j hj => by
  rw [hk j hj]; exact h j hj
theorem gA_le (B j : Nat) : B < gA B j ∧ gA B j ≤ B + 4 := by unfold gA; omega
theorem Groups.lt {B : Nat} {w : World} (h : Groups B w) : ∀ j, j < 9 → gA B j < w.heap.size := fun j hj => by obtain ⟨cs, h1, _⟩ := h j hj; exact lt_of_block h1
theorem Groups.cell {B : Nat} {w : World} (h : Groups B w) {j : Nat} (hj : j < 9) : w.cell? ⟨gA B j, 0, none⟩ = some (.int .i64 (gId j)) := by obtain ⟨cs, h1, h2, _⟩ := h j hj; exact cell_at h1 h2
theorem Groups.ev {B : Nat} {w : World} (h : Groups B w) {j : Nat} (hj : j < 9) : w.cell? ⟨gA B j, 1, none⟩ = some (.pointer (some ⟨B, 0, none⟩)) := by obtain ⟨cs, h1, _, h2⟩ := h j hj; exact cell_at h1 h2

theorem gb_trans {a b c : World} {r : Option Nat} (h : a.grownBy b r) (k : b.grownBy c r) : a.grownBy c r :=
  ⟨k.os.trans h.os, k.tape.trans h.tape, k.output.trans h.output, Nat.le_trans h.size k.size, fun i hi hn => (k.block i (Nat.lt_of_lt_of_le hi h.size) hn).trans (h.block i hi hn)⟩
theorem gb_alloc {a b : World} {r : Option Nat} (h : a.grownBy b r) (o : Obj) : a.grownBy (b.alloc o) r := gb_trans h (World.grownBy_alloc b o r)
theorem gb_drewN {a b : World} {r : Option Nat} (h : a.grownBy b r) (n : Nat) : a.grownBy (b.drewN n) r := gb_trans h ⟨rfl, rfl, rfl, Nat.le_refl _, fun _ _ _ => rfl⟩
theorem gb_drew {a b : World} {r : Option Nat} (h : a.grownBy b r) : a.grownBy b.drew r := gb_trans h ⟨rfl, rfl, rfl, Nat.le_refl _, fun _ _ _ => rfl⟩
theorem gb_below {a b c : World} {r : Option Nat} (h : a.grownBy b r) (k : Below b.heap.size b c) : a.grownBy c r := gb_trans h ⟨k.os, k.tape, k.output, k.size, fun i hi _ => k.block i hi⟩
theorem gb_set {a b : World} {r : Nat} (h : a.grownBy b (some r)) (o : Nat) (v : Value) : a.grownBy (b.setCell ⟨r, o, none⟩ v) (some r) :=
  gb_trans h ⟨rfl, rfl, rfl, by simp [World.setCell], fun k hk hn => Below.heap_setCell _ _ _ _ (by rintro rfl; exact hn rfl)⟩

/-! ### '==' -/
theorem eqlPtr {P : Program} {tp te : TypeId} {j : TypeInfo} {g h : Nat} {cg ch : Array Value} {tg th : TypeId} (w : World) (hp : P.underlying tp = some (.pointer te)) (hte : P.info? te = some j) (hsz : j.size ≠ 0)
    (hg : w.heap[g]? = some (.cells cg tg (0, 0))) (hh : w.heap[h]? = some (.cells ch th (0, 0))) :
    ∀ d : Nat, (Op.equalIn (d + 1) tp (.pointer (some ⟨g, 0, none⟩)) (.pointer (some ⟨h, 0, none⟩))).run P w = .ok (decide (g = h)) w := fun d => by
  by_cases e : g = h
  · subst e
    simp [Op.equalIn, run_underlying hp, sizeOf, typeInfo, hte, hsz, run_sameAddr_same]
  · simp [Op.equalIn, run_underlying hp, sizeOf, typeInfo, hte, hsz, run_sameAddr_other w (a := ⟨g, 0, none⟩) (b := ⟨h, 0, none⟩) (by simp [e]) hg hh, e]

theorem info119 : (Yba.prog.info? 119).map (fun i => decide (i.size ≠ 0)) = some true := by kernel_rfl
theorem guard136 : Yba.prog.eqGuardType Yba.prog.depth 136 = false := by kernel_rfl
theorem stood136 : Yba.prog.stoodInHeld 136 = false := by kernel_rfl

theorem eql136 {g h : Nat} {cg ch : Array Value} {tg th : TypeId} (n m : Int) (w : World) (hg : w.heap[g]? = some (.cells cg tg (0, 0))) (hh : w.heap[h]? = some (.cells ch th (0, 0))) :
    (binOp .eql 136 (.agg #[.pointer (some ⟨g, 0, none⟩), .int .i64 n]) (.agg #[.pointer (some ⟨h, 0, none⟩), .int .i64 m])).run Yba.prog w = .ok (.bool (decide (g = h) && (n == m))) w := by
  obtain ⟨i, hi, hsz⟩ := Option.map_eq_some_iff.1 info119
  have hp := eqlPtr w Yba.underlying109 hi (by simpa using hsz) hg hh
  rw [run_eql_struct, run_equalIn_agg _ _ _ _ _ (by kernel_rfl) stood136]
  have h3 := run_equalIn_int w 9998 3 .i64 .i64 n m Yba.underlying3
  simp [Program.fieldsOf, Yba.underlying136, go_sem, hp 9998, h3]
  by_cases e1 : g = h <;> by_cases e2 : n = m <;> simp [e1, e2]

/-- an operator in a region that only reads, by its run equation -/
theorem quiet_binop {P : Program} {C : World → Prop} {a : Act} {o : Oper} {K : Act → Prop} {op : BinOp} {t t2 : TypeId} {x y : Operand} (ho : o.op = .binOp op t x y t2) (p q v : Value) (hx : a.eval x = p) (hy : a.eval y = q)
    (hg : ∀ w, (eqGuard op t x y p q).run P w = .ok () w) (hrun : ∀ w, C w → (binOp op t p q).run P w = .ok v w) (h : K (a.put o.dst v)) : o.quiet P a C K :=
  ⟨v, fun w hC => by
    unfold Oper.quietAt execOp
    simp only [ho, hx, hy, Sem.run_bind, hg, Result.andThen_ok, hrun w hC, Sem.run_pure, Oper.quietUpon, and_self], h⟩

/-- the codes that a list of slots holds -/
def codes (l : List (Nat × Nat)) : List Nat := l.map Prod.fst

theorem mem_head {j k sb : Nat} {l0 r : List (Nat × Nat)} (r5 : j ∈ codes l0 ↔ j ∈ codes ((k, sb) :: r)) (r6 : (codes ((k, sb) :: r)).Pairwise (· < ·)) (hkj : ¬ k < j) : decide (j ∈ codes l0) = decide (k = j) := by
  have h : j ∈ codes l0 ↔ k = j := by
    rw [r5]
    constructor
    · intro h
      rcases List.mem_cons.1 h with h | h
      · exact h.symm
      · exact absurd ((List.pairwise_cons.1 r6).1 j h) hkj
    · rintro rfl; simp [codes]
  simp [h]

/-- what the loop of the closure keeps: the box holds the rest of the list, nothing of which has turned -/
structure Rel (B j bx : Nat) (l0 : List (Nat × Nat)) (w0 wr : World) (l : List (Nat × Nat)) (v : Option Addr) : Prop where
  box : wr.heap[bx]? = some (.cells #[.pointer v] 134 (0, 0))
  lst : SLst B wr v l
  apart : ∀ e ∈ l, e.2 ≠ bx
  mem : j ∈ codes l0 ↔ j ∈ codes l
  sorted : (codes l).Pairwise (· < ·)
  grp : Groups B wr
  gb : w0.grownBy wr (some bx)

theorem rel_step {B j bx k sb : Nat} {l0 r : List (Nat × Nat)} {w wr w1 : World} {v v' : Option Addr}
    (R : wr.heap[bx]? = some (.cells #[.pointer v] 134 (0, 0)) ∧ (∀ e ∈ (k, sb) :: r, e.2 ≠ bx) ∧ (j ∈ codes l0 ↔ j ∈ codes ((k, sb) :: r)) ∧ (codes ((k, sb) :: r)).Pairwise (· < ·) ∧ Groups B wr ∧ w.grownBy wr (some bx) ∧ SLst B wr v' r)
    (hkj : k < j) (hbx : B + 10 < bx) (hb : Below wr.heap.size wr w1) :
    Rel B j bx l0 w (w1.setCell ⟨bx, 0, none⟩ (.pointer v')) r v' := by
  obtain ⟨r1, r4, r5, r6, r7, r8, hr3⟩ := R
  have hgb : wr.grownBy (w1.setCell ⟨bx, 0, none⟩ (.pointer v')) (some bx) := gb_set ⟨hb.os, hb.tape, hb.output, hb.size, fun k hk _ => hb.block k hk⟩ 0 _
  refine ⟨?_, ?_, fun e he => r4 e (by simp [he]), ?_, ?_, ?_, gb_trans r8 hgb⟩
  · have : w1.heap[bx]? = some (.cells #[.pointer v] 134 (0, 0)) := (hb.block _ (lt_of_block r1)).trans r1
    simp [World.setCell, Array.getElem?_modify, this]
  · exact SLst.kept (fun e he => hgb.block _ (SLst.lt hr3 e he).2.2 (fun h => r4 e (by simp [he]) (by simpa using h))) hr3
  · rw [r5]; simp [codes]; omega
  · exact (List.pairwise_cons.1 r6).2
  · exact Groups.kept (fun i hi => hgb.block _ (r7.lt i hi) (fun h => by have := gA_le B i; have : gA B i = bx := (by simpa using h); omega)) r7

set_option maxRecDepth 100000 in
set_option maxHeartbeats 2000000 in
theorem clo_any (B j bx : Nat) (l0 : List (Nat × Nat)) (w : World) (v0 : Option Addr) (hbx : B + 10 < bx) (hj : j < 9) (hR : Rel B j bx l0 w w l0 v0) :
    Calls Yba.prog 19 #[slotV B j, .pointer (some ⟨bx, 0, none⟩)] w fun e w' => ∃ m : Bool, e = .returned (.tuple #[.bool (decide (j ∈ codes l0)), .bool m]) ∧ w.grownBy w' (some bx) := by
  have hbl := lt_of_block hR.box
  have hne : w.heap.size ≠ bx := by omega
  have hg136 := guard136
  unfold slotV
  go_enter Yba.func19, Yba.ntmps19
  go_wp2
  go_loopg [] l0.length (fun k wr => ∃ l v, k = l.length ∧ Rel B j bx l0 w wr l v ∧ wr.heap[w.heap.size]? = some (.cells #[.pointer (some ⟨gA B j, 0, none⟩), .int .i64 (sN j)] 136 (0, 0)))
  case atStart =>
    refine ⟨l0, v0, rfl, ?_, heap_alloc_new _ _⟩
    obtain ⟨r1, r3, r4, r5, r6, r7, r8⟩ := hR
    have hgb : w.grownBy (w.alloc (.cells #[.pointer (some ⟨gA B j, 0, none⟩), .int .i64 (sN j)] 136)) (some bx) := World.grownBy_alloc _ _ _
    exact ⟨(Below.heap_alloc _ _ _ hbl).trans r1, SLst.kept (fun e he => Below.heap_alloc _ _ _ (SLst.lt r3 e he).2.2) r3, r4, r5, r6, Groups.kept (fun i hi => Below.heap_alloc _ _ _ (r7.lt i hi)) r7, hgb⟩
  case round =>
    obtain ⟨l, v, rfl, hr, hs⟩ := hrel
    obtain ⟨r1, r3, r4, r5, r6, r7, r8⟩ := hr
    have c1 : wr.cell? ⟨bx, 0, none⟩ = some (.pointer v) := cell_at r1 rfl
    have f1 : wr.frozen? ⟨bx, 0, none⟩ = false := frozen_at r1
    have hs0 : wr.cell? ⟨w.heap.size, 0, none⟩ = some (.pointer (some ⟨gA B j, 0, none⟩)) := cell_at hs rfl
    have hs1 : wr.cell? ⟨w.heap.size, 1, none⟩ = some (.int .i64 (sN j)) := cell_at hs rfl
    match l, r3 with
    | [], r3 =>
      obtain rfl : v = none := r3
      have R : Aside (_ ∧ _) := ⟨r5, r8⟩
      clear r1 r4 r5 r6 r7 r8 hs
      go_wp2_with fail
      go_quiet (fail)
      go_wp2_with fail
      go_quiet (fail)
      go_wp2_with fail
      go_ret2
      obtain ⟨r5, r8⟩ := R.out
      have hj0 : decide (j ∈ codes l0) = false := by rw [decide_eq_false_iff_not, r5]; simp [codes]
      rw [hj0]
      exact ⟨false, rfl, gb_drewN (gb_drewN r8 _) _⟩
    | (k, sb) :: r, r3 =>
      obtain ⟨rfl, hk9, hsbB, nx, c, hsb, hr3⟩ := r3
      obtain ⟨x0, x1, x2, x6⟩ := slot_cells hsb
      have hgj := r7.cell hj
      have hgk := r7.cell hk9
      have hlt := cmpS_lt hk9 hj
      obtain ⟨cj, hcj, _⟩ := r7 j hj
      obtain ⟨ck, hck, _⟩ := r7 k hk9
      have z3 : bx < wr.heap.size := lt_of_block r1
      have R : Aside (_ ∧ _ ∧ _ ∧ _ ∧ _ ∧ _ ∧ _) := ⟨r1, r4, r5, r6, r7, r8, hr3⟩
      have S : Aside (_ ∧ _ ∧ _) := ⟨hcj, hck, hs⟩
      clear r1 r4 r5 r6 r7 r8 hr3 hsb hcj hck hs
      by_cases hkj : k < j
      · have hd : cmpS (gId k) (sN k) (gId j) (sN j) < 0 := hlt.2 hkj
        clear hlt
        go_wp2_with fail
        go_region_held3 (fun w' => w'.cell? ⟨bx, 0, none⟩ = some (.pointer (some ⟨sb, 0, none⟩)) ∧ w'.cell? ⟨sb, 0, none⟩ = some (.pointer (some ⟨gA B k, 0, none⟩)) ∧ w'.cell? ⟨sb, 1, none⟩ = some (.int .i64 (sN k)) ∧ w'.cell? ⟨w.heap.size, 0, none⟩ = some (.pointer (some ⟨gA B j, 0, none⟩)) ∧ w'.cell? ⟨w.heap.size, 1, none⟩ = some (.int .i64 (sN j)) ∧ w'.cell? ⟨gA B k, 0, none⟩ = some (.int .i64 (gId k)) ∧ w'.cell? ⟨gA B j, 0, none⟩ = some (.int .i64 (gId j))) (first | go_keep | exact ⟨keepB hb c1, keepB hb x0, keepB hb x1, keepB hb hs0, keepB hb hs1, keepB hb hgk, keepB hb hgj⟩)
          (first | (go_at_call 20; refine (slots_any (gA B k) (gA B j) (gId k) (gId j) _ _ _ ?_ ?_).mono ?_; (simp [*]); (simp [*]); rintro e w1 ⟨rfl, hb⟩))
        have hb' : Below wr.heap.size wr w1 := below_of_drew (by assumption)
        have y1 := keepB hb' c1
        have y2 := keepB hb' x2
        have y3 : w1.frozen? ⟨bx, 0, none⟩ = false := (hb'.frozen z3).trans f1
        go_wp2
        have hS := rel_step R.out hkj hbx hb'
        have hs' : (w1.setCell ⟨bx, 0, none⟩ (.pointer nx)).heap[w.heap.size]? = some (.cells #[.pointer (some ⟨gA B j, 0, none⟩), .int .i64 (sN j)] 136 (0, 0)) := by
          rw [Below.heap_setCell _ _ _ _ hne, hb'.block _ (lt_of_block S.out.2.2)]; exact S.out.2.2
        go_roundg r.length
        case measure => simp
        case rel => exact ⟨r, nx, rfl, hS, hs'⟩
      · have hd : ¬ cmpS (gId k) (sN k) (gId j) (sN j) < 0 := fun h => hkj (hlt.1 h)
        clear hlt
        go_wp2_with fail
        go_region_held3 (fun w' => w'.cell? ⟨bx, 0, none⟩ = some (.pointer (some ⟨sb, 0, none⟩)) ∧ w'.cell? ⟨sb, 0, none⟩ = some (.pointer (some ⟨gA B k, 0, none⟩)) ∧ w'.cell? ⟨sb, 1, none⟩ = some (.int .i64 (sN k)) ∧ w'.cell? ⟨w.heap.size, 0, none⟩ = some (.pointer (some ⟨gA B j, 0, none⟩)) ∧ w'.cell? ⟨w.heap.size, 1, none⟩ = some (.int .i64 (sN j)) ∧ w'.cell? ⟨gA B k, 0, none⟩ = some (.int .i64 (gId k)) ∧ w'.cell? ⟨gA B j, 0, none⟩ = some (.int .i64 (gId j))) (first | go_keep | exact ⟨keepB hb c1, keepB hb x0, keepB hb x1, keepB hb hs0, keepB hb hs1, keepB hb hgk, keepB hb hgj⟩)
          (first | (go_at_call 20; refine (slots_any (gA B k) (gA B j) (gId k) (gId j) _ _ _ ?_ ?_).mono ?_; (simp [*]); (simp [*]); rintro e w1 ⟨rfl, hb⟩))
        have hb' : Below wr.heap.size wr w1 := below_of_drew (by assumption)
        have y1 := keepB hb' c1
        have q0 := keepB hb' hs0
        have q1 := keepB hb' hs1
        have q2 := keepB hb' x0
        have q3 := keepB hb' x1
        have hq : ∀ nq, (binOp .eql 136 (.agg #[.pointer (some ⟨gA B k, 0, none⟩), .int .i64 (sN k)]) (.agg #[.pointer (some ⟨gA B j, 0, none⟩), .int .i64 (sN j)])).run Yba.prog (w1.drewN nq) = .ok (.bool (decide (k = j))) (w1.drewN nq) := fun nq => by
          rw [eql136 (sN k) (sN j) (w1.drewN nq) ((hb'.block _ (lt_of_block S.out.2.1)).trans S.out.2.1) ((hb'.block _ (lt_of_block S.out.1)).trans S.out.1), code_eq hj hk9]
        go_wp2_with fail
        refine wp_region_quiet_lit (by kernel_rfl) (by kernel_rfl) ?_
        repeat (go_big_quiet_step (fail))
        go_big_quiet_want
        refine quiet_binop rfl (.agg #[.pointer (some ⟨gA B k, 0, none⟩), .int .i64 (sN k)]) (.agg #[.pointer (some ⟨gA B j, 0, none⟩), .int .i64 (sN j)]) (.bool (decide (k = j))) rfl rfl (fun w => run_eqGuard_agg w _ _ _ _ _ _ guard136) (fun w hC => by obtain ⟨n, rfl⟩ := hC; exact hq n) ?_
        go_big_quiet_on
        simp only [Act.put, Array.set!_eq_setIfInBounds, List.setIfInBounds_toArray, List.set_cons_succ, List.set_cons_zero]
        repeat (go_big_quiet_step (fail))
        refine wpQuiet_nil ?_
        intro _ hw'
        obtain ⟨nq, hw''⟩ := hw'
        subst hw''
        go_wp2_with fail
        go_ret2
        obtain ⟨r1, r4, r5, r6, r7, r8, hr3⟩ := R.out
        have hj0 : decide (j ∈ codes l0) = decide (k = j) := mem_head r5 r6 hkj
        rw [hj0]
        exact ⟨true, rfl, gb_drewN (gb_below r8 hb') _⟩
end Go.Proofs.Ybulkaala.B
