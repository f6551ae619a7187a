/-
  BMinus, 10: the law's walk.
-/
import Derived.Test.YbulkaalaBc
import Derived.Deep.DeepCutAuto
namespace Go.Proofs.Ybulkaala.B
open Go.RowKit
set_option linter.unusedVariables false
set_option linter.unusedSimpArgs false

theorem neSame132 (p : Option Addr) (w : World) : (binOp .neq 132 (.pointer p) (.pointer p)).run Yba.prog w = .ok (.bool false) w := by
  cases p with
  | none => kernel_rfl
  | some a =>
    obtain ⟨i, hi, _⟩ := Option.map_eq_some_iff.1 info142
    have h : ∀ d : Nat, (Op.equalIn (d + 1) 132 (.pointer (some a)) (.pointer (some a))).run Yba.prog w = .ok true w := fun d => by
      simp [Op.equalIn, run_underlying Yba.underlying132, sizeOf, typeInfo, hi, run_sameAddr_same]
    simp only [binOp]
    simp [Op.equal, Op.maxDepth, h 9999]
theorem neSame120 (p : Option Addr) (w : World) : (binOp .neq 120 (.pointer p) (.pointer p)).run Yba.prog w = .ok (.bool false) w := by
  cases p with
  | none => kernel_rfl
  | some a =>
    obtain ⟨i, hi, _⟩ := Option.map_eq_some_iff.1 info128
    have h : ∀ d : Nat, (Op.equalIn (d + 1) 120 (.pointer (some a)) (.pointer (some a))).run Yba.prog w = .ok true w := fun d => by
      simp [Op.equalIn, run_underlying Yba.underlying120, sizeOf, typeInfo, hi, run_sameAddr_same]
    simp only [binOp]
    simp [Op.equal, Op.maxDepth, h 9999]
theorem neSame136 (g : Nat) (n : Int) (w : World) : (binOp .neq 136 (.agg #[.pointer (some ⟨g, 0, none⟩), .int .i64 n]) (.agg #[.pointer (some ⟨g, 0, none⟩), .int .i64 n])).run Yba.prog w = .ok (.bool false) w := by
  obtain ⟨i, hi, _⟩ := Option.map_eq_some_iff.1 info119
  have hp : ∀ d : Nat, (Op.equalIn (d + 1) 109 (.pointer (some ⟨g, 0, none⟩)) (.pointer (some ⟨g, 0, none⟩))).run Yba.prog w = .ok true w := fun d => by
    simp [Op.equalIn, run_underlying Yba.underlying109, sizeOf, typeInfo, hi, run_sameAddr_same]
  rw [run_neq_struct, run_equalIn_agg _ _ _ _ _ (by kernel_rfl) stood136]
  have h3 := run_equalIn_int w 9998 3 .i64 .i64 n n Yba.underlying3
  simp [Program.fieldsOf, Yba.underlying136, go_sem, hp 9998, h3]

attribute [local go_sem ↓] neSame120 neSame132 neSame136

set_option maxRecDepth 200000 in
set_option maxHeartbeats 4000000 in
theorem law_any (a0 : Option Addr) (len0 cap0 : Nat) (a1 : Option Addr) (len1 cap1 : Nat) (za zb : Nat → Int) (w : World) (hA : In .u8 w a0 len0 za) (hB : In .u16 w a1 len1 zb) :
    Calls Yba.prog 5 #[.slice a0 len0 cap0, .slice a1 len1 cap1] w fun e w' => e = .returned (.bool true) ∧ Below w.heap.size w w' := by
  go_enter Yba.func5, Yba.ntmps5
  go_wp2_with (first | (refine C.wpList_build0 rfl 108 rfl _ (C.build108 _) ?_) | (refine C.wpList_box0 rfl 108 _ rfl _ rfl _ _ (C.box108 _) ?_) | fail)
  refine wp_loop_rounds 4 ?_
  rw [rounds_succ]
  go_wp2_with fail
  rw [rounds_succ]
  go_wp2_with fail
  rw [rounds_succ]
  go_wp2_with fail
  rw [rounds_succ]
  go_wp2_with fail
  refine wp_loop_rounds 6 ?_
  rw [rounds_succ]
  go_wp2_with fail
  rw [rounds_succ]
  go_wp2_with fail
  rw [rounds_succ]
  go_wp2_with fail
  rw [rounds_succ]
  go_wp2_with fail
  rw [rounds_succ]
  go_wp2_with fail
  rw [rounds_succ]
  go_wp2_with fail
  go_loopg [12] 6 (fun k i wr => ∃ m : Nat, m ≤ 6 ∧ k = 6 - m ∧ i = .int .i64 (m : Int) ∧ R3 w wr (ajF za len0) (bmF zb len1) m)
  case atStart => exact ⟨0, by omega, rfl, rfl, ctx0 w, aj0 w _, bm0 w _, W0_size w⟩
  case round =>
    obtain ⟨m, hm, rfl, rfl, hR⟩ := hrel
    by_cases h6 : m < 6
    · obtain ⟨v, hv⟩ := hR.aj.cell (Nat.le_refl _) h6
      have hf := hR.aj.free m
      obtain ⟨v', hv'⟩ := hR.bm.cell (Nat.le_refl _) h6
      have hf' := hR.bm.free m
      have R : Aside (R3 w wr (ajF za len0) (bmF zb len1) m ∧ In .u8 w a0 len0 za ∧ In .u16 w a1 len1 zb) := ⟨hR, hA, hB⟩
      clear hR hA hB
      by_cases h7 : m < len0
      · obtain ⟨b, off, rfl, hb, hz⟩ := R.out.2.1.at R.out.1.ctx.bel h7
        have z1 := (bounds_u8 (R.out.2.1.2 m h7)).1
        have z2 := (bounds_u8 (R.out.2.1.2 m h7)).2
        have h7' : (m : Int) < (len0 : Int) := by omega
        by_cases h9 : (za m % 10 == 0) = true
        · have e1 : Hid (ajF za len0 m = -1) := by have : za m % 10 = 0 := by simpa using h9
                                                   show ajF za len0 m = -1; simp [ajF, this]
          by_cases h8 : m < len1
          · as_aux_lemma =>
              obtain ⟨b', off', rfl, hb', hz'⟩ := R.out.2.2.at R.out.1.ctx.bel h8
              have h8' : (m : Int) < (len1 : Int) := by omega
              go_wp2_with fail
              go_roundg (6 - (m + 1))
              case measure => omega
              case rel => exact ⟨m + 1, by omega, rfl, by go_num, R.out.1.b1 h6 e1.out (by simp [bmF, h8])⟩
          · as_aux_lemma =>
              have h8' : ¬ (m : Int) < (len1 : Int) := by omega
              go_wp2_with fail
              go_roundg (6 - (m + 1))
              case measure => omega
              case rel => exact ⟨m + 1, by omega, rfl, by go_num, R.out.1.a1 h6 e1.out (by simp [bmF, h8])⟩
        · have h9' : (za m % 10 == 0) = false := by simpa using h9
          have e1 : Hid (ajF za len0 m = za m % 10 - 1) := by have : ¬ za m % 10 = 0 := by simpa using h9
                                                              show ajF za len0 m = za m % 10 - 1; simp [ajF, this, h7]
          clear h9
          by_cases h8 : m < len1
          · as_aux_lemma =>
              obtain ⟨b', off', rfl, hb', hz'⟩ := R.out.2.2.at R.out.1.ctx.bel h8
              have h8' : (m : Int) < (len1 : Int) := by omega
              go_wp2_with fail
              go_roundg (6 - (m + 1))
              case measure => omega
              case rel => exact ⟨m + 1, by omega, rfl, by go_num, R.out.1.b2 h6 e1.out (by simp [bmF, h8])⟩
          · as_aux_lemma =>
              have h8' : ¬ (m : Int) < (len1 : Int) := by omega
              go_wp2_with fail
              go_roundg (6 - (m + 1))
              case measure => omega
              case rel => exact ⟨m + 1, by omega, rfl, by go_num, R.out.1.a2 h6 e1.out (by simp [bmF, h8])⟩
      · have h7' : ¬ (m : Int) < (len0 : Int) := by omega
        have e1 : Hid (ajF za len0 m = -1) := by show ajF za len0 m = -1; simp [ajF, h7]
        by_cases h8 : m < len1
        · as_aux_lemma =>
            obtain ⟨b', off', rfl, hb', hz'⟩ := R.out.2.2.at R.out.1.ctx.bel h8
            have h8' : (m : Int) < (len1 : Int) := by omega
            go_wp2_with fail
            go_roundg (6 - (m + 1))
            case measure => omega
            case rel => exact ⟨m + 1, by omega, rfl, by go_num, R.out.1.b1 h6 e1.out (by simp [bmF, h8])⟩
        · as_aux_lemma =>
            have h8' : ¬ (m : Int) < (len1 : Int) := by omega
            go_wp2_with fail
            go_roundg (6 - (m + 1))
            case measure => omega
            case rel => exact ⟨m + 1, by omega, rfl, by go_num, R.out.1.a1 h6 e1.out (by simp [bmF, h8])⟩
    · as_aux_lemma =>
        obtain rfl : m = 6 := by omega
        go_wp2_with fail
        have h4 : R4 w (wr.alloc (.cells #[.pointer none, .pointer none, .pointer none, .pointer none, .pointer none, .pointer none] 133)) (ajF za len0) (bmF zb len1) 6 none [] := R4.start hR
        have hsz := hR.size
        rw [hsz]
        clear hR hA hB hsz
        go_loopg [14, 15] 6 (fun g va i wr => ∃ (k : Nat) (va' : Option Addr) (la : List Ent), k ≤ 6 ∧ g = k ∧ i = .int .i64 ((k : Int) - 1) ∧ va = .pointer va' ∧ R4 w wr (ajF za len0) (bmF zb len1) k va' la)
        case atStart => exact ⟨6, none, [], by omega, rfl, rfl, rfl, h4⟩
        case round =>
          clear h4
          obtain ⟨k, va, la, hk, rfl, rfl, rfl, hR⟩ := hrel
          rcases gk with _ | k
          · as_aux_lemma =>
              go_wp2_with fail
              have h5 := R5.start hR
              clear hR
              go_loopg [16, 17] 6 (fun g vb i wr => ∃ (k : Nat) (vb' : Option Addr) (lb : List Ent), k ≤ 6 ∧ g = k ∧ i = .int .i64 ((k : Int) - 1) ∧ vb = .pointer vb' ∧ R5 w wr (ajF za len0) (bmF zb len1) va la k vb' lb)
              case atStart => exact ⟨6, none, [], by omega, rfl, rfl, rfl, h5⟩
              case round =>
                clear h5
                obtain ⟨k, vb, lb, hk, rfl, rfl, rfl, hR⟩ := hrel
                rcases gk with _ | k
                · as_aux_lemma =>
                    go_wp2_with fail
                    go_loopg [21, 22] 6 (fun g lv i wr => ∃ (m : Nat) (last : Int), m ≤ 6 ∧ g = 6 - m ∧ i = .int .i64 (m : Int) ∧ lv = .int .i64 last ∧ Lst (ajF za len0) (bmF zb len1) m last ∧ R5 w wr (ajF za len0) (bmF zb len1) va la 0 vb lb)
                    case atStart => exact ⟨0, -1, by omega, rfl, rfl, rfl, Lst.start, hR⟩
                    case round =>
                      clear hR
                      obtain ⟨m, last, hm, rfl, rfl, rfl, hL, hR⟩ := hrel
                      by_cases h6 : m < 6
                      · have haj := hR.r4.aj.at (i := m) h6
                        have hbm := hR.r4.bm.at (i := m) h6
                        have HR : Aside (Lst (ajF za len0) (bmF zb len1) m last ∧ R5 w wr (ajF za len0) (bmF zb len1) va la 0 vb lb) := ⟨hL, hR⟩
                        have hdr : Hid (∀ n, R5 w (wr.drewN n) (ajF za len0) (bmF zb len1) va la 0 vb lb) := fun n => hR.below (below_drewN (Below.refl _ _) n)
                        clear hL hR
                        have m0 : (0 : Int) ≤ (m : Int) := by omega
                        have m6 : (m : Int) < 6 := by omega
                        by_cases h0 : 0 ≤ ajF za len0 m
                        · obtain ⟨j, hj⟩ : ∃ j : Nat, ajF za len0 m = (j : Int) := ⟨(ajF za len0 m).toNat, by omega⟩
                          rw [hj] at haj
                          have Hj : Hid (ajF za len0 m = (j : Int)) := hj
                          have hj9 : j < 9 := by have := ajF_lt za len0 m; omega
                          have j0 : (0 : Int) ≤ (j : Int) := by omega
                          have j9 : (j : Int) < 9 := by omega
                          clear hj h0
                          by_cases hbt : (bits BinOp.and IntKind.u16 (bmF zb len1 m / 2 ^ j) 1 != 0) = true
                          · as_aux_lemma =>
                              go_wp2_with fail
                              go_quiet (fail)
                              go_wp2_with fail
                              go_roundg (6 - (m + 1))
                              case measure => omega
                              case rel => exact ⟨m + 1, (m : Int), by omega, rfl, by go_num, rfl, Lst.hit m, hdr.out _⟩
                          · as_aux_lemma =>
                              have hbt' : (bits BinOp.and IntKind.u16 (bmF zb len1 m / 2 ^ j) 1 != 0) = false := by simpa using hbt
                              have Hb : Hid (bitB (bmF zb len1 m) j = false) := hbt'
                              clear hbt
                              go_wp2_with fail
                              go_quiet (fail)
                              go_wp2_with fail
                              go_roundg (6 - (m + 1))
                              case measure => omega
                              case rel => exact ⟨m + 1, last, by omega, rfl, by go_num, rfl, HR.out.1.skip (rem_bit Hj.out Hb.out), hdr.out _⟩
                        · as_aux_lemma =>
                            have H0 : Hid (ajF za len0 m < 0) := (by omega : ajF za len0 m < 0)
                            have hd : decide (0 ≤ ajF za len0 m) = false := by simpa using h0
                            go_wp2_with fail
                            go_quiet (fail)
                            go_wp2_with fail
                            go_roundg (6 - (m + 1))
                            case measure => omega
                            case rel => exact ⟨m + 1, last, by omega, rfl, by go_num, rfl, HR.out.1.skip (rem_neg H0.out), hdr.out _⟩
                      · as_aux_lemma =>
                          obtain rfl : m = 6 := by omega
                          go_wp2_with fail
                          refine (pminus w.heap.size (HB (bmF zb len1)) la va vb lb wr hR.pre).mono ?_
                          rintro e w1 ⟨vr, lr, rfl, hP⟩
                          have h8 := R8.start (hR.r4.but hP.gb hP.ev) hP.lst hP.res
                          have hsame : Hid (last < 0 → vr = va) := fun h => hP.same (all_kept hR.r4.la hL h)
                          have HL : Aside (Lst (ajF za len0) (bmF zb len1) 6 last ∧ R8 w w1 (ajF za len0) (bmF zb len1) va la 0 vr la lr) := ⟨hL, h8⟩
                          clear hP hR hL h8
                          go_upto_region 51 with (fail)
                          go_cut [173] (fun b wc => b = .bool false ∧ wc = w1)
                          case first =>
                            by_cases hlast : last < 0
                            · as_aux_lemma =>
                                obtain rfl : va = vr := (hsame.out hlast).symm
                                go_wp2_with fail
                                go_meet
                                case rel => exact ⟨rfl, rfl⟩
                            · as_aux_lemma =>
                                go_wp2_with fail
                                go_meet
                                case rel => exact ⟨rfl, rfl⟩
                          case rest =>
                            obtain ⟨rfl, rfl⟩ := hcut
                            clear hsame
                            go_wp2_with fail
                            go_loopg [23, 24] 6 (fun g rv i wr => ∃ (m : Nat) (vr' : Option Addr) (la' lr' : List Ent), m ≤ 6 ∧ g = 6 - m ∧ i = .int .i64 (m : Int) ∧ rv = .pointer vr' ∧ R8 w wr (ajF za len0) (bmF zb len1) va la m vr' la' lr')
                            case atStart => exact ⟨0, _, la, lr, by omega, rfl, rfl, rfl, HL.out.2⟩
                            case round =>
                              obtain ⟨m, rv, la', lr', hm, rfl, rfl, rfl, hR⟩ := hrel
                              by_cases h6 : m < 6
                              · have haj := hR.r4.aj.at (i := m) h6
                                have hbm := hR.r4.bm.at (i := m) h6
                                have hps := hR.r4.ctx.path (i := m) h6
                                have hgs := hR.r4.ctx.gs
                                have HR : Aside (R8 w wr (ajF za len0) (bmF zb len1) va la m rv la' lr') := hR
                                have hdr : Hid (∀ n, R8 w (wr.drewN n) (ajF za len0) (bmF zb len1) va la m rv la' lr') := fun n => hR.below (below_drewN (Below.refl _ _) n)
                                clear hR
                                have m0 : (0 : Int) ≤ (m : Int) := by omega
                                have m6 : (m : Int) < 6 := by omega
                                by_cases h0 : 0 ≤ ajF za len0 m
                                · obtain ⟨j, hj⟩ : ∃ j : Nat, ajF za len0 m = (j : Int) := ⟨(ajF za len0 m).toNat, by omega⟩
                                  rw [hj] at haj
                                  have Hj : Hid (ajF za len0 m = (j : Int)) := hj
                                  have hj9 : j < 9 := by have := ajF_lt za len0 m; omega
                                  have j0 : (0 : Int) ≤ (j : Int) := by omega
                                  have j9 : (j : Int) < 9 := by omega
                                  clear hj h0
                                  obtain ⟨nb, sb, la'', hla, hrng⟩ := HR.out.head h6 Hj.out
                                  have HE : Aside (la' = (m, nb, [(j, sb)]) :: la'' ∧ ∀ e ∈ la'', m + 1 ≤ e.1) := ⟨hla, hrng⟩
                                  clear hla hrng
                                  by_cases hbt : (bits BinOp.and IntKind.u16 (bmF zb len1 m / 2 ^ j) 1 != 0) = true
                                  · as_aux_lemma =>
                                      have Hb : Hid (HB (bmF zb len1) m j) := ⟨hj9, hbt⟩
                                      go_wp2_with fail
                                      go_quiet (fail)
                                      go_wp2_with fail
                                      go_roundg (6 - (m + 1))
                                      case measure => omega
                                      case rel =>
                                        have hd := hdr.out
                                        rw [HE.out.1] at hd
                                        exact ⟨m + 1, rv, la'', lr', by omega, rfl, by go_num, rfl, (hd _).drop HE.out.2 Hb.out⟩
                                  · as_aux_lemma =>
                                      have hbt' : (bits BinOp.and IntKind.u16 (bmF zb len1 m / 2 ^ j) 1 != 0) = false := by simpa using hbt
                                      have Hb : Hid (¬ HB (bmF zb len1) m j) := fun h => hbt h.2
                                      clear hbt
                                      have hHE := HE.out
                                      have hK := HR.out
                                      rw [hHE.1] at hK
                                      have hin := hK.mem (e := (m, nb, [(j, sb)])) (by simp)
                                      have han := hK.r4.an.at hin
                                      simp only at han
                                      obtain ⟨nb', nx, c, lr'', rfl, hnb', hsb', hlnb, hR9⟩ := hK.keep hHE.2 Hb.out HL.out.1
                                      obtain ⟨p0, p1, p2⟩ := place_cells hnb'
                                      obtain ⟨s0, s1, s2, s6⟩ := slot_cells hsb'
                                      have H9 : Aside (R8 w wr (ajF za len0) (bmF zb len1) va la (m + 1) nx la'' lr'' ∧ (last < m → nb' = nb)) := ⟨hR9, hlnb⟩
                                      clear hHE hK hin hnb' hsb' hlnb hR9 hdr HR
                                      have hg136 := guard136
                                      go_wp2_with fail
                                      go_quiet (fail)
                                      go_wp2_with fail
                                      go_region_held3 (fun w' => w'.cell? ⟨nb', 0, none⟩ = some (.pointer (pV w.heap.size m)) ∧ w'.cell? ⟨nb', 1, none⟩ = some (.pointer (some ⟨sb, 0, none⟩)) ∧ w'.cell? ⟨w.heap.size + 5, m, none⟩ = some (.pointer (pV w.heap.size m)) ∧ w'.cell? ⟨sb, 0, none⟩ = some (.pointer (some ⟨gA w.heap.size j, 0, none⟩)) ∧ w'.cell? ⟨sb, 1, none⟩ = some (.int .i64 (sN j)) ∧ w'.cell? ⟨sb, 2, none⟩ = some (.pointer none) ∧ w'.cell? ⟨w.heap.size + 11, m, none⟩ = some (.int .i64 (j : Int))) (first | go_keep | exact ⟨keepB hb p0, keepB hb p1, keepB hb hps, keepB hb s0, keepB hb s1, keepB hb s2, keepB hb haj⟩)
                                        (first | (go_at_call 10; refine (bslot_any w.heap.size j _ ?_ hj9).mono ?_; (exact hgs); rintro e w2 ⟨rfl, hb⟩))
                                      have hb' : Below wr.heap.size wr w2 := below_of_drewN (below_of_drew (by assumption))
                                      have q1 := keepB hb' han
                                      have q2 := keepB hb' p2
                                      have hN := H9.out.1.below hb'
                                      have hnb9 := H9.out.2
                                      have HN : Aside (R8 w w2 (ajF za len0) (bmF zb len1) va la (m + 1) nx la'' lr'') := hN
                                      clear hN H9
                                      by_cases hlm : last < (m : Int)
                                      · as_aux_lemma =>
                                          obtain rfl := hnb9 hlm
                                          go_wp2_with fail
                                          go_roundg (6 - (m + 1))
                                          case measure => omega
                                          case rel => exact ⟨m + 1, nx, la'', lr'', by omega, rfl, by go_num, rfl, HN.out⟩
                                      · as_aux_lemma =>
                                          clear hnb9
                                          go_wp2_with fail
                                          go_roundg (6 - (m + 1))
                                          case measure => omega
                                          case rel => exact ⟨m + 1, nx, la'', lr'', by omega, rfl, by go_num, rfl, HN.out⟩
                                · as_aux_lemma =>
                                    have H0 : Hid (ajF za len0 m < 0) := (by omega : ajF za len0 m < 0)
                                    go_wp2_with fail
                                    go_roundg (6 - (m + 1))
                                    case measure => omega
                                    case rel => exact ⟨m + 1, rv, la', lr', by omega, rfl, by go_num, rfl, HR.out.skip H0.out⟩
                              · as_aux_lemma =>
                                  obtain rfl : m = 6 := by omega
                                  obtain rfl := hR.end
                                  have hbel := hR.r4.ctx.bel
                                  clear hR
                                  go_wp2_with fail
                                  go_ret
                                  exact ⟨rfl, hbel⟩
                · have e : ((k + 1 : Nat) : Int) - 1 = (k : Int) := by omega
                  rw [e]
                  clear e
                  have hbm := hR.r4.bm.at (i := k) (by omega)
                  have k0 : (0 : Int) ≤ (k : Int) := by omega
                  have k6 : (k : Int) < 6 := by omega
                  have HR : Aside (R5 w wr (ajF za len0) (bmF zb len1) va la (k + 1) vb lb) := hR
                  clear hR
                  by_cases h0 : (bmF zb len1 k == 0) = true
                  · as_aux_lemma =>
                      have H0 : Hid (bmF zb len1 k = 0) := (by simpa using h0 : bmF zb len1 k = 0)
                      go_wp2_with fail
                      go_roundg k
                      case measure => omega
                      case rel => exact ⟨k, vb, lb, by omega, rfl, by go_num, rfl, HR.out.skip H0.out⟩
                  · as_aux_lemma =>
                      have h0' : (bmF zb len1 k == 0) = false := by simpa using h0
                      clear h0
                      go_wp2_with fail
                      go_loopg [18, 19, 20] 9 (fun g sv c jj wr => ∃ (m : Nat) (sv' : Option Addr) (sl : List (Nat × Nat)) (c' : Int), m ≤ 9 ∧ g = m ∧ jj = .int .i64 ((m : Int) - 1) ∧ sv = .pointer sv' ∧ c = .int .i32 c' ∧ R6 w wr (ajF za len0) (bmF zb len1) va la k vb lb m sv' sl)
                      case atStart => exact ⟨9, none, [], 0, by omega, rfl, rfl, rfl, rfl, R6.start HR.out⟩
                      case round =>
                        clear hbm HR
                        obtain ⟨m, sv, sl, c, hm, rfl, rfl, rfl, rfl, hR2⟩ := hrel
                        rcases gk with _ | m
                        · as_aux_lemma =>
                            have hps := hR2.r5.r4.ctx.path (i := k) (by omega)
                            have HR : Aside (R6 w wr (ajF za len0) (bmF zb len1) va la k vb lb 0 sv sl) := hR2
                            clear hR2
                            go_wp2_with fail
                            have hN := R5.add HR.out (by omega)
                            go_roundg k
                            case measure => omega
                            case rel => exact ⟨k, _, _, by omega, rfl, by go_num, rfl, hN⟩
                        · have e : ((m + 1 : Nat) : Int) - 1 = (m : Int) := by omega
                          rw [e]
                          clear e
                          have hbm := hR2.r5.r4.bm.at (i := k) (by omega)
                          have hgs := hR2.r5.r4.ctx.gs
                          have m0 : (0 : Int) ≤ (m : Int) := by omega
                          have m8 : (m : Int) ≤ 8 := by omega
                          have HR : Aside (R6 w wr (ajF za len0) (bmF zb len1) va la k vb lb (m + 1) sv sl) := hR2
                          clear hR2
                          by_cases hbt : (bits BinOp.and IntKind.u16 (bmF zb len1 k / 2 ^ m) 1 != 0) = true
                          · as_aux_lemma =>
                              go_wp2_with fail
                              refine (bslot_any w.heap.size m _ hgs (by omega)).mono ?_
                              rintro e w1 ⟨rfl, hb⟩
                              go_wp2_with fail
                              have hN := fun c => HR.out.add (by omega) hbt hb c
                              go_roundg m
                              case measure => omega
                              case rel => exact ⟨m, _, _, _, by omega, rfl, by go_num, rfl, rfl, hN _⟩
                          · as_aux_lemma =>
                              have hbt' : (bits BinOp.and IntKind.u16 (bmF zb len1 k / 2 ^ m) 1 != 0) = false := by simpa using hbt
                              have Hb : Hid (bitB (bmF zb len1 k) m = false) := hbt'
                              clear hbt
                              go_wp2_with fail
                              go_roundg m
                              case measure => omega
                              case rel => exact ⟨m, sv, sl, c, by omega, rfl, by go_num, rfl, rfl, HR.out.skip Hb.out⟩
          · have e : ((k + 1 : Nat) : Int) - 1 = (k : Int) := by omega
            rw [e]
            clear e
            have haj := hR.aj.at (i := k) (by omega)
            have hps := hR.ctx.path (i := k) (by omega)
            have hgs := hR.ctx.gs
            obtain ⟨p, hp⟩ := hR.an.cell (i := k) (by omega)
            have hpf := hR.an.free k
            have k0 : (0 : Int) ≤ (k : Int) := by omega
            have k6 : (k : Int) < 6 := by omega
            have hz := hR.size
            have HR : Aside (R4 w wr (ajF za len0) (bmF zb len1) (k + 1) va la) := hR
            clear hR
            by_cases h0 : 0 ≤ ajF za len0 k
            · as_aux_lemma =>
                obtain ⟨j, hj⟩ : ∃ j : Nat, ajF za len0 k = (j : Int) := ⟨(ajF za len0 k).toNat, by omega⟩
                have hj9 : j < 9 := by have := ajF_lt za len0 k; omega
                rw [hj] at haj
                have Hj : Hid (ajF za len0 k = (j : Int)) := hj
                have j0 : (0 : Int) ≤ (j : Int) := by omega
                clear hj h0
                go_wp2_with fail
                go_region_held3 (fun w' => w'.cell? ⟨w.heap.size + 5, k, none⟩ = some (.pointer (pV w.heap.size k)) ∧ w'.cell? ⟨w.heap.size + 11, k, none⟩ = some (.int .i64 (j : Int))) (first | go_keep | exact ⟨keepB hb hps, keepB hb haj⟩)
                  (first | (go_at_call 10; refine (bslot_any w.heap.size j _ ?_ hj9).mono ?_; (exact hgs); rintro e w1 ⟨rfl, hb⟩))
                have hb' : Below wr.heap.size wr w1 := below_of_drew (by assumption)
                have y1 := keepB hb' hp
                have y2 : w1.frozen? ⟨w.heap.size + 13, k, none⟩ = false := (hb'.frozen hz).trans hpf
                have y3 : w.heap.size + 13 < w1.heap.size := Nat.lt_of_lt_of_le hz hb'.size
                go_wp2_with fail
                have hN := HR.out.add (by omega) Hj.out hj9 hb'
                go_roundg k
                case measure => omega
                case rel => exact ⟨k, _, _, by omega, rfl, by go_num, rfl, hN⟩
            · as_aux_lemma =>
                have H0 : Hid (ajF za len0 k < 0) := (by omega : ajF za len0 k < 0)
                go_wp2_with fail
                go_roundg k
                case measure => omega
                case rel => exact ⟨k, va, la, by omega, rfl, by go_num, rfl, HR.out.skip H0.out⟩
end Go.Proofs.Ybulkaala.B
