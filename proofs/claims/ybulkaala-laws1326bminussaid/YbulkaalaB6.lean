/-
  BMinus, 6: the walk of (*places).minus.
-/
import Derived.Test.YbulkaalaB5
namespace Go.Proofs.Ybulkaala.B
open Go.RowKit
set_option linter.unusedVariables false
set_option linter.unusedSimpArgs false

theorem run_eqGuard_ptr {P : Program} (w : World) (op : BinOp) (t : TypeId) (x y : Operand) (p q : Option Addr) : (eqGuard op t x y (.pointer p) (.pointer q)).run P w = .ok () w := by
  cases op <;> simp [eqGuard]

set_option maxRecDepth 100000 in
set_option maxHeartbeats 1000000 in
theorem minus_nil (vb : Option Addr) (w : World) : Calls Yba.prog 11 #[.pointer none, .pointer vb] w fun e w' => e = .returned (.pointer none) ∧ ∃ n, w' = w.drewN n := by
  cases vb with
  | none =>
    go_enter Yba.func11, Yba.ntmps11
    go_wp2_with fail
    refine wp_loop_rounds 1 ?_
    rw [rounds_succ]
    go_wp2_with fail
    go_quiet (fail)
    go_wp2_with fail
    go_ret
    exact ⟨rfl, nq, rfl⟩
  | some x =>
    go_enter Yba.func11, Yba.ntmps11
    go_wp2_with fail
    refine wp_loop_rounds 1 ?_
    rw [rounds_succ]
    go_wp2_with fail
    go_quiet (fail)
    go_wp2_with fail
    go_ret
    exact ⟨rfl, nq, rfl⟩

/-- what is known behind the call for the rest of the list, in whatever later world -/
structure Mid (B : Nat) (H : Nat → Nat → Prop) (w : World) (nxa : Option Addr) (ra : List Ent) (w3 : World) (vr : Option Addr) (lr : List Ent) : Prop where
  gb : w.grownBy w3 (some B)
  ev : EvOk B w3
  lst : PLst B w3 vr lr
  res : Res H ra lr
  same : (∀ e ∈ ra, Kp H e) → vr = nxa
  other : ¬ (∀ e ∈ ra, Kp H e) → vr ≠ nxa
  from_ : ∀ x, vr = some x → (∃ e ∈ ra, x = ⟨e.2.1, 0, none⟩) ∨ w.heap.size ≤ x.block

theorem Mid.later {B : Nat} {H : Nat → Nat → Prop} {w w3 w4 : World} {nxa vr : Option Addr} {ra lr : List Ent} (h : Mid B H w nxa ra w3 vr lr) (hb : Below w3.heap.size w3 w4) : Mid B H w nxa ra w4 vr lr :=
  ⟨gb_below h.gb hb, h.ev.of_block (hb.block _ h.ev.lt), h.lst.kept (fun k hk _ => hb.block k hk), h.res, h.same, h.other, h.from_⟩

section
variable {B : Nat} {H : Nat → Nat → Prop} {w w3 : World} {ia nb j sb : Nat} {ra lr lb : List Ent} {vb nxa vr : Option Addr} {c : Int}

theorem at_drop (hp : Pre B H w (some ⟨nb, 0, none⟩) ((ia, nb, [(j, sb)]) :: ra) vb lb) (hnb : w.heap[nb]? = some (placeObj B ia (some ⟨sb, 0, none⟩) nxa)) (hM : Mid B H w nxa ra w3 vr lr) (hk : ¬ Kp H (ia, nb, [(j, sb)])) :
    Calls Yba.prog 16 #[.pointer (some ⟨nb, 0, none⟩), .pointer none, .pointer vr] w3 fun e w' => ∃ vr' lr', e = .returned (.pointer vr') ∧ Post B H w (some ⟨nb, 0, none⟩) ((ia, nb, [(j, sb)]) :: ra) w' vr' lr' := by
  have hlt := PLst.lt hp.a (ia, nb, [(j, sb)]) (by simp)
  have h3 : w3.heap[nb]? = some (placeObj B ia (some ⟨sb, 0, none⟩) nxa) := (hM.gb.block _ (lt_of_block hnb) (by simp; simp at hlt; omega)).trans hnb
  refine (remade_drop B ia nb sb nxa vr w3 h3).mono ?_
  rintro e w' ⟨rfl, rfl⟩
  exact ⟨vr, lr, rfl, fin_drop hp hM.gb hM.ev hM.lst hM.res hM.from_ hk⟩

theorem at_keep (hp : Pre B H w (some ⟨nb, 0, none⟩) ((ia, nb, [(j, sb)]) :: ra) vb lb) (hnb : w.heap[nb]? = some (placeObj B ia (some ⟨sb, 0, none⟩) nxa)) (hsb : w.heap[sb]? = some (slotObj B j none c)) (hsB : B + 10 < sb) (hj : j < 9) (hra : PLst B w nxa ra)
    (hM : Mid B H w nxa ra w3 vr lr) (hk : Kp H (ia, nb, [(j, sb)])) :
    Calls Yba.prog 16 #[.pointer (some ⟨nb, 0, none⟩), .pointer (some ⟨sb, 0, none⟩), .pointer vr] w3 fun e w' => ∃ vr' lr', e = .returned (.pointer vr') ∧ Post B H w (some ⟨nb, 0, none⟩) ((ia, nb, [(j, sb)]) :: ra) w' vr' lr' := by
  have hlt := PLst.lt hp.a (ia, nb, [(j, sb)]) (by simp)
  have hbut := But.of_gb hM.gb
  have h3 : w3.heap[nb]? = some (placeObj B ia (some ⟨sb, 0, none⟩) nxa) := (hbut _ (lt_of_block hnb) (by simp at hlt; omega)).trans hnb
  have hs3 : w3.heap[sb]? = some (slotObj B j none c) := (hbut _ (lt_of_block hsb) (by omega)).trans hsb
  have hx3 : PLst B w3 nxa ra := hra.kept hbut
  have hG3 : Groups B w3 := hp.g.kept (fun i hi => hbut _ (hp.g.lt i hi) (by have := gA_le B i; omega))
  by_cases hall : ∀ e ∈ ra, Kp H e
  · obtain rfl := hM.same hall
    refine (remade_same B ia nb sb vr w3 h3 hx3.nx).mono ?_
    rintro e w' ⟨rfl, rfl⟩
    exact ⟨_, _, rfl, fin_same hp hM.gb hM.ev hk hall⟩
  · refine (remade_new B ia j nb sb c nxa vr none w3 hj hG3 hM.ev (by omega) hs3 h3 hx3.nx hM.lst.nx (hM.other hall)).mono ?_
    rintro e w' ⟨rfl, hm⟩
    exact ⟨_, _, rfl, fin_new (r := none) hp hM.gb hm hM.lst hM.res hsb hsB hj hk hall⟩
end

set_option maxRecDepth 100000 in
set_option maxHeartbeats 2000000 in
theorem minus_cons (B : Nat) (H : Nat → Nat → Prop) (ia nb j sb : Nat) (ra : List Ent) (vb : Option Addr) (lb : List Ent) (w : World) (hp : Pre B H w (some ⟨nb, 0, none⟩) ((ia, nb, [(j, sb)]) :: ra) vb lb)
    (IH : Hid (∀ va vb lb w, Pre B H w va ra vb lb → Calls Yba.prog 11 #[.pointer va, .pointer vb] w fun e w' => ∃ vr lr, e = .returned (.pointer vr) ∧ Post B H w va ra w' vr lr)) :
    Calls Yba.prog 11 #[.pointer (some ⟨nb, 0, none⟩), .pointer vb] w fun e w' => ∃ vr lr, e = .returned (.pointer vr) ∧ Post B H w (some ⟨nb, 0, none⟩) ((ia, nb, [(j, sb)]) :: ra) w' vr lr := by
  obtain ⟨_, hi6, hnB, sv, nxa, hnb, hsl, _, hra⟩ := hp.a
  obtain ⟨rfl, hj9, hsB, nx0, c, hsb, rfl⟩ := hsl
  obtain ⟨x0, x1, x2⟩ := place_cells hnb
  have hP := hp.p
  have hpA : Aside (Pre B H w (some ⟨nb, 0, none⟩) ((ia, nb, [(j, sb)]) :: ra) vb lb) := hp
  have A : Aside (w.heap[nb]? = some (placeObj B ia (some ⟨sb, 0, none⟩) nxa) ∧ w.heap[sb]? = some (slotObj B j none c) ∧ PLst B w nxa ra) := ⟨hnb, hsb, hra⟩
  clear hp hnb hsb hra
  go_enter Yba.func11, Yba.ntmps11
  go_wp2_with fail
  go_loopg [1] lb.length (fun k b wr => ∃ lb' vb', k = lb'.length ∧ b = .pointer vb' ∧ Pre B H w (some ⟨nb, 0, none⟩) ((ia, nb, [(j, sb)]) :: ra) vb' lb' ∧ ∃ n, wr = w.drewN n)
  case atStart => exact ⟨lb, vb, rfl, rfl, hpA.out, 0, rfl⟩
  case round =>
    obtain ⟨lb', vb', rfl, rfl, hpr, hW⟩ := hrel
    have HW : Hid (∃ n, wr = w.drewN n) := hW
    have z0 : wr.cell? ⟨nb, 0, none⟩ = some (.pointer (pV B ia)) := by obtain ⟨n, rfl⟩ := hW; exact x0
    have z1 : wr.cell? ⟨nb, 1, none⟩ = some (.pointer (some ⟨sb, 0, none⟩)) := by obtain ⟨n, rfl⟩ := hW; exact x1
    have z2 : wr.cell? ⟨nb, 2, none⟩ = some (.pointer nxa) := by obtain ⟨n, rfl⟩ := hW; exact x2
    have hPr : Paths B wr := by obtain ⟨n, rfl⟩ := hW; exact hP
    have hpb := hpr.b
    match lb', hpb with
    | [], hpb =>
      obtain rfl : vb' = none := hpb
      have Q : Aside (Pre B H w (some ⟨nb, 0, none⟩) ((ia, nb, [(j, sb)]) :: ra) none []) := hpr
      clear hpr hpb hW
      go_wp2_with fail
      go_quiet (fail)
      go_wp2_with fail
      go_ret
      obtain ⟨n, hn⟩ := HW.out
      exact ⟨some ⟨nb, 0, none⟩, (ia, nb, [(j, sb)]) :: ra, rfl, fin_empty Q.out ⟨n + nq, by rw [hn, World.drewN_drewN]⟩⟩
    | (ib, bb, slb) :: rb, hpb =>
      obtain ⟨rfl, hib, hbB, svb, nxb, hbb, hslb, hsrt, hrb⟩ := hpb
      obtain ⟨y0', y1', y2'⟩ := place_cells hbb
      have y0 : wr.cell? ⟨bb, 0, none⟩ = some (.pointer (pV B ib)) := by obtain ⟨n, rfl⟩ := hW; exact y0'
      have y1 : wr.cell? ⟨bb, 1, none⟩ = some (.pointer svb) := by obtain ⟨n, rfl⟩ := hW; exact y1'
      have y2 : wr.cell? ⟨bb, 2, none⟩ = some (.pointer nxb) := by obtain ⟨n, rfl⟩ := hW; exact y2'
      have Q : Aside (Pre B H w (some ⟨nb, 0, none⟩) ((ia, nb, [(j, sb)]) :: ra) (some ⟨bb, 0, none⟩) ((ib, bb, slb) :: rb) ∧ w.heap[bb]? = some (placeObj B ib svb nxb) ∧ SLst B w svb slb ∧ (codes slb).Pairwise (· < ·) ∧ PLst B w nxb rb) := ⟨hpr, hbb, hslb, hsrt, hrb⟩
      clear hpr hbb hslb hsrt hrb y0' y1' y2' hW
      by_cases hlt : ib < ia
      · have hlt' : (ib : Int) < (ia : Int) := by omega
        go_wp2_with fail
        go_quiet ((go_at_call 14; refine Calls.quiet_of_same (order_any B _ _ ?_ ?_); (exact hPr); (assumption)))
        go_wp2_with fail
        obtain ⟨n, hn⟩ := HW.out
        go_roundg rb.length
        case measure => simp
        case rel => exact ⟨rb, nxb, rfl, rfl, Q.out.1.skip Q.out.2.2.2.2 hlt, n + nq, by rw [hn, World.drewN_drewN]⟩
      · have hlt' : ¬ (ib : Int) < (ia : Int) := by omega
        have hpre : Hid (∀ X : World, X.heap = wr.heap → Pre B H X nxa ra (some ⟨bb, 0, none⟩) ((ib, bb, slb) :: rb)) := fun X hX => by
          obtain ⟨n, hn⟩ := HW.out
          exact (Q.out.1.next A.out.2.2).heap (hX.trans (by rw [hn]; rfl))
        go_wp2_with fail
        go_quiet ((go_at_call 14; refine Calls.quiet_of_same (order_any B _ _ ?_ ?_); (exact hPr); (assumption)))
        go_wp2_with fail
        go_region_held3 (fun w' => w'.cell? ⟨nb, 2, none⟩ = some (.pointer nxa) ∧ w'.cell? ⟨nb, 1, none⟩ = some (.pointer (some ⟨sb, 0, none⟩))) (first | go_keep | exact ⟨(But.of_gb hpost.gb).cell z2 hnB, (But.of_gb hpost.gb).cell z1 hnB⟩)
          (first | (go_at_call 11; refine (IH.out _ _ _ _ (hpre.out _ ?_)).mono ?_; (rfl); rintro e w1 ⟨vr, lr, rfl, hpost⟩))
        have hgw : w.grownBy w1 (some B) := by obtain ⟨n, rfl⟩ := HW.out; exact ⟨hpost.gb.os, hpost.gb.tape, hpost.gb.output, hpost.gb.size, hpost.gb.block⟩
        have hsz : ∀ x, vr = some x → (∃ e ∈ ra, x = ⟨e.2.1, 0, none⟩) ∨ w.heap.size ≤ x.block := by obtain ⟨n, rfl⟩ := HW.out; exact hpost.from_
        have hbut := But.of_gb hgw
        have hP1 : Paths B w1 := hP.kept (fun i h1 h2 => hbut _ (hP.lt i h1 h2) (by omega))
        have hG1 : Groups B w1 := Q.out.1.g.kept (fun i hi => hbut _ (Q.out.1.g.lt i hi) (by have := gA_le B i; omega))
        have hn1 : w1.heap[nb]? = some (placeObj B ia (some ⟨sb, 0, none⟩) nxa) := (hbut _ (lt_of_block A.out.1) (by omega)).trans A.out.1
        have hs1 : w1.heap[sb]? = some (slotObj B j none c) := (hbut _ (lt_of_block A.out.2.1) (by omega)).trans A.out.2.1
        have hb1 : w1.heap[bb]? = some (placeObj B ib svb nxb) := (hbut _ (lt_of_block Q.out.2.1) (by omega)).trans Q.out.2.1
        have hl1 : SLst B w1 svb slb := Q.out.2.2.1.kept (fun e he => hbut _ (SLst.lt Q.out.2.2.1 e he).2.2 (by have := SLst.lt Q.out.2.2.1 e he; omega))
        have hx1 : PLst B w1 nxa ra := A.out.2.2.kept hbut
        have hB1 : B + 10 < w1.heap.size := Nat.lt_of_lt_of_le Q.out.1.hB hgw.size
        have hkp := Q.out.1.head hlt
        obtain ⟨z0', z1', z2'⟩ := place_cells hn1
        obtain ⟨y0', y1', y2'⟩ := place_cells hb1
        have R : Aside (_ ∧ _ ∧ _ ∧ _ ∧ _ ∧ _ ∧ _ ∧ _ ∧ _ ∧ _) := ⟨hpost, hgw, hsz, hG1, hn1, hs1, hl1, hx1, hkp, hP1⟩
        clear hpost hgw hsz hG1 hn1 hs1 hl1 hx1 hkp hbut hb1 z0 z1 z2 y0 y1 y2 x0 x1 x2
        go_wp2_with fail
        refine wp_region_quiet_lit (by kernel_rfl) (by kernel_rfl) ?_
        repeat (go_big_quiet_step (fail))
        go_big_quiet_want
        refine quiet_binop rfl (.pointer (pV B ib)) (.pointer (pV B ia)) (.bool (decide (ib = ia))) rfl rfl (fun w => run_eqGuard_ptr w _ _ _ _ _ _) (fun w hC => by obtain ⟨n, rfl⟩ := hC; exact eqlPaths B ib ia _ hP1 hib hi6) ?_
        go_big_quiet_on
        simp only [Act.put, Array.set!_eq_setIfInBounds, List.setIfInBounds_toArray, List.set_cons_succ, List.set_cons_zero]
        repeat (go_big_quiet_step (fail))
        refine wpQuiet_nil ?_
        intro _ hw'
        obtain ⟨nq2, hw''⟩ := hw'
        subst hw''
        obtain ⟨hpost, hgw, hsz, hG1, hn1, hs1, hl1, hx1, hkp, hP1'⟩ := R.out
        have hM : Mid B H w nxa ra (w1.drewN nq2) vr lr := ⟨gb_drewN hgw _, hpost.ev.of_block rfl, PLst.kept (w := w1) (w' := w1.drewN nq2) (But.of_heap rfl) hpost.lst, hpost.res, hpost.same, hpost.other, hsz⟩
        have M : Aside (Mid B H w nxa ra (w1.drewN nq2) vr lr ∧ Groups B w1 ∧ w1.heap[sb]? = some (slotObj B j none c) ∧ SLst B w1 svb slb ∧ (Kp H (ia, nb, [(j, sb)]) ↔ ¬ (ib = ia ∧ j ∈ codes slb))) := ⟨hM, hG1, hs1, hl1, hkp⟩
        clear hpost hgw hsz hG1 hn1 hs1 hl1 hx1 hkp hP1' hM
        by_cases hab : ib = ia
        · have hab' : decide (ib = ia) = true := by simpa using hab
          rw [hab']
          have HA : Hid (ib = ia) := hab
          clear hab hab'
          go_wp2_with fail
          refine (sminus_any B j sb slb (w1.drewN nq2) svb c hB1 hj9 (SLst.kept (w := w1) (w' := w1.drewN nq2) (fun _ _ => rfl) M.out.2.2.2.1) Q.out.2.2.2.1 (Groups.kept (w := w1) (w' := w1.drewN nq2) (fun _ _ => rfl) M.out.2.1) M.out.2.2.1).mono ?_
          rintro e w3 ⟨rfl, hb3⟩
          have hM3 := M.out.1.later hb3
          by_cases hm : j ∈ codes slb
          · have e1 : left j slb sb = none := by simp [left, hm]
            rw [e1]
            clear hb3
            go_wp2_with fail
            refine (at_drop Q.out.1 A.out.1 hM3 (fun h => M.out.2.2.2.2.1 h ⟨HA.out, hm⟩)).mono ?_
            rintro e w4 ⟨vr', lr', rfl, hF⟩
            go_wp2_with fail
            go_ret
            exact ⟨vr', lr', rfl, hF⟩
          · have e1 : left j slb sb = some ⟨sb, 0, none⟩ := by simp [left, hm]
            rw [e1]
            clear hb3
            go_wp2_with fail
            refine (at_keep Q.out.1 A.out.1 A.out.2.1 hsB hj9 A.out.2.2 hM3 (M.out.2.2.2.2.2 (fun h => hm h.2))).mono ?_
            rintro e w4 ⟨vr', lr', rfl, hF⟩
            go_wp2_with fail
            go_ret
            exact ⟨vr', lr', rfl, hF⟩
        · have hab' : decide (ib = ia) = false := by simpa using hab
          rw [hab']
          have HA : Hid (¬ ib = ia) := hab
          clear hab hab'
          go_wp2_with fail
          refine (at_keep Q.out.1 A.out.1 A.out.2.1 hsB hj9 A.out.2.2 M.out.1 (M.out.2.2.2.2.2 (fun h => HA.out h.1))).mono ?_
          rintro e w4 ⟨vr', lr', rfl, hF⟩
          go_wp2_with fail
          go_ret
          exact ⟨vr', lr', rfl, hF⟩

/-- ████ (*places).minus ████ -/
theorem pminus (B : Nat) (H : Nat → Nat → Prop) : ∀ (la : List Ent) (va vb : Option Addr) (lb : List Ent) (w : World), Pre B H w va la vb lb →
    Calls Yba.prog 11 #[.pointer va, .pointer vb] w fun e w' => ∃ vr lr, e = .returned (.pointer vr) ∧ Post B H w va la w' vr lr
  | [], va, vb, lb, w, hp => by
    obtain rfl : va = none := hp.a
    refine (minus_nil vb w).mono ?_
    rintro e w' ⟨rfl, n, rfl⟩
    exact ⟨none, [], rfl, gb_drewN (World.grownBy.refl _ _) n, hp.ev.of_block rfl, rfl, rfl, fun _ => rfl, fun h => absurd (fun e he => by simp at he) h, fun x hx => by simp at hx⟩
  | (ia, nb, sl) :: ra, va, vb, lb, w, hp => by
    obtain ⟨j, sb, hs⟩ := hp.one (ia, nb, sl) (by simp)
    obtain rfl : sl = [(j, sb)] := hs
    obtain rfl : va = some ⟨nb, 0, none⟩ := hp.a.1
    exact minus_cons B H ia nb j sb ra vb lb w hp (fun va vb lb w h => pminus B H ra va vb lb w h)
end Go.Proofs.Ybulkaala.B
