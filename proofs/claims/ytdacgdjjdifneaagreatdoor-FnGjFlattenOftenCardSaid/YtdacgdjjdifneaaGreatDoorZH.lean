/- Part of the proof of the card in text ZF. -/
import Derived.Test.YtdacgdjjdifneaaGreatDoorZE
import Derived.WalkMore
set_option linter.all false
set_option maxHeartbeats 16000000
set_option maxRecDepth 100000
namespace Go.Proofs.YtdacgdjjdifneaaGreatDoor.PFnGjFlattenOften
open Go.RowKit Go.Proofs.YtdacgdjjdifneaaGreatDoorW.PrintWords Go.Proofs.YtdacgdjjdifneaaGreatDoorW.PrintLast Go.Proofs.YtdacgdjjdifneaaGreatDoorW.PrintMore
theorem u64_rng (x : Int) : 0 ≤ IntKind.u64.wrap x ∧ IntKind.u64.wrap x < 18446744073709551616 := by
 rw [IntKind.wrap_u64]; omega
theorem lower_nox : ∀ n : Nat, n < 256 → NumC (n : Int) → (Go.bits .or .u8 (n : Int) 32 == 120) = false := by
 have h : ∀ n : Fin 256, ((48 ≤ n.val ∧ n.val ≤ 57) ∨ n.val = 45 ∨ n.val = 43 ∨ n.val = 46 ∨ n.val = 101 ∨ n.val = 69) → (Go.bits .or .u8 ((n.val : Nat) : Int) 32 == 120) = false := by decide +kernel
 intro n hn hc; refine h ⟨n, hn⟩ ?_; unfold NumC at hc
 show (48 ≤ n ∧ n ≤ 57) ∨ n = 45 ∨ n = 43 ∨ n = 46 ∨ n = 101 ∨ n = 69
 omega
theorem nox {c : Int} (h : NumC c) : (Go.bits .or .u8 c 32 == 120) = false := by
 have h0 := h; unfold NumC at h0; obtain ⟨n, rfl⟩ : ∃ n : Nat, c = (n : Int) := ⟨c.toNat, by omega⟩
 exact lower_nox n (by omega) h
theorem results_tmp7 {fn : Func} {a b c d e f g : Tmp} (h : fn.results = #[.tmp a, .tmp b, .tmp c, .tmp d, .tmp e, .tmp f, .tmp g]) (tmps : Array Value) (P : Program) (w : World) :
  (results fn tmps).run P w = .ok (.tuple #[tmps.getD a undef, tmps.getD b undef, tmps.getD c undef, tmps.getD d undef, tmps.getD e undef, tmps.getD f undef, tmps.getD g undef]) w := by
 simp [results, h]
def RfR (s : ByteArray) (e : Ending) : Prop := ∃ (m x : Int) (neg tr ok : Bool) (i : Nat), e = .returned (.tuple #[.int .u64 m, .int .i64 x, .bool neg, .bool tr, .bool false, .int .i64 (i : Int), .bool ok]) ∧ (0 ≤ m ∧ m < 18446744073709551616) ∧ i ≤ s.size
theorem rf_two {i n : Nat} (h : i ≤ n) (hn : n ≤ 65536) : wrap64 ((i : Int) + 2) = ((i + 2 : Nat) : Int) := by rw [Go.IntWalk.wrap64_in _ (by omega)]; omega
theorem rf_calls (s : ByteArray) (hs : s.size ≤ 65536) (hc : ∀ i, i < s.size → NumC (bt s (i : Int))) (w : World) :
  Calls Tryz.prog 130 #[.string s] w fun e w' => RfR s e ∧ w' = w := by
 have HS := sd hs; have HC := sd hc; obtain ⟨w0, hw0⟩ : ∃ w0, w = w0 := ⟨w, rfl⟩
 have HW0 := sd hw0.symm; have HW := sd hw0; clear hc hs hw0
 by_cases h0 : s = ByteArray.empty
 ·have e0 : decide (s = ByteArray.empty) = true := decide_eq_true h0; clear h0; go_enter Tryz.func130, Tryz.ntmps130; go_wp2; refine wp_scope_straight ?_; go_wp2; rw [Exit.noGoto_ret]; go_wp2; (try simp only [Exit.inBlock, Exit.then]); refine bodyPost_ret (results_tmp7 rfl _ _ _) rfl ?_
  exact ⟨⟨_, _, _, _, _, 0, rfl, by decide, Nat.zero_le _⟩, rfl⟩
 have e0 : decide (s = ByteArray.empty) = false := decide_eq_false h0; have H0 := sd (size_pos h0); have e1 : (0 < s.size) = True := eq_true H0.out; clear h0; go_enter Tryz.func130, Tryz.ntmps130; go_wp2; refine wp_scope_straight ?_; go_upto_block 0 with (fail)
 go_cut [4, 7] (fun ng x wc => ∃ (neg : Bool) (i : Nat), ng = .bool neg ∧ x = .int .i64 (i : Int) ∧ Aside0 (i ≤ s.size) ∧ Aside0 (wc = w0))
 case first =>
  as_aux_lemma =>
   go_wp2
   ·go_meet
    case rel => exact ⟨false, 1, rfl, rfl, ⟨H0.out⟩, HW⟩
   ·go_meet
    case rel => exact ⟨true, 1, rfl, rfl, ⟨H0.out⟩, HW⟩
   ·go_meet
    case rel => exact ⟨false, 0, rfl, rfl, ⟨Nat.zero_le _⟩, HW⟩
 case rest =>
  clear H0 HW; obtain ⟨neg, i, rfl, rfl, HI, HW⟩ := hcut; go_upto_region 12 with (fail)
  go_cut [54] (fun t wd => t = .bool false ∧ Aside0 (wd = w0))
  case first =>
   as_aux_lemma =>
    obtain ⟨m, hm⟩ : ∃ m : Nat, m = i + 2 := ⟨_, rfl⟩
    have z2 : wrap64 ((i : Int) + 2) = (m : Int) := by rw [rf_two HI.out HS.out, hm]
    by_cases h2 : m < s.size
    ·have z3 : decide ((m : Int) < (s.size : Int)) = true := decide_eq_true (by omega); have z4 : decide (m < s.size) = true := decide_eq_true h2; obtain ⟨x1, x2, x3, x4, x5, x6, x7, x8, x9, x10⟩ := str_facts (s := s) (j := i) (by omega) HS.out; obtain ⟨j, hj⟩ : ∃ j : Nat, j = i + 1 := ⟨_, rfl⟩
     rw [← hj] at x6; obtain ⟨y1, y2, y3, y4, y5, y6, y7, y8, y9, y10⟩ := str_facts (s := s) (j := j) (by omega) HS.out; have yn := nox (HC.out j (by omega)); clear hm h2 hj; generalize bt s (i : Int) = c at *; generalize bt s (j : Int) = d at *
     by_cases h48 : c = 48
     ·have w1 : (c == 48) = true := beq_iff_eq.mpr h48; clear h48; go_wp2_with (first | (go_at_call 106; (with_reducible refine (lower_calls d _).mono ?_); rintro e0 W2 ⟨rfl, rfl⟩)); go_meet
      case rel => exact ⟨rfl, HW⟩
     ·have w1 : (c == 48) = false := beq_eq_false_iff_ne.mpr h48; clear h48; go_wp2; go_meet
      case rel => exact ⟨rfl, HW⟩
    ·have z3 : decide ((m : Int) < (s.size : Int)) = false := decide_eq_false (by omega); have z4 : decide (m < s.size) = false := decide_eq_false h2; clear hm h2; go_wp2; go_meet
     case rel => exact ⟨rfl, HW⟩
  case rest =>
   clear HW; obtain ⟨rfl, HW⟩ := hcut
   as_aux_lemma =>
    go_upto_block 1 with (fail)
    refine wp_label ?_; go_upto_block 1 with (fail)
    go_cut [2, 5, 7, 9, 13, 14, 15, 16, 17] (fun m tr x us sd sg nd nm dp wd => ∃ (m1 nd1 nm1 dp1 : Int) (tr1 sd1 sg1 : Bool) (i : Nat), m = .int .u64 m1 ∧ tr = .bool tr1 ∧ x = .int .i64 (i : Int) ∧ us = .bool false ∧ sd = .bool sd1 ∧ sg = .bool sg1 ∧ nd = .int .i64 nd1 ∧ nm = .int .i64 nm1 ∧ dp = .int .i64 dp1 ∧ Aside0 ((0 ≤ m1 ∧ m1 < 18446744073709551616) ∧ i ≤ s.size) ∧ Aside0 (wd = w0))
    case first =>
     as_aux_lemma =>
     go_wp2; go_loopw [2, 5, 7, 9, 13, 14, 15, 16, 17] (fun m tr x us sd sg nd nm dp wd => ∃ (m1 nd1 nm1 dp1 : Int) (tr1 sd1 sg1 : Bool) (i : Nat), m = .int .u64 m1 ∧ tr = .bool tr1 ∧ x = .int .i64 (i : Int) ∧ us = .bool false ∧ sd = .bool sd1 ∧ sg = .bool sg1 ∧ nd = .int .i64 nd1 ∧ nm = .int .i64 nm1 ∧ dp = .int .i64 dp1 ∧ Aside0 ((0 ≤ m1 ∧ m1 < 18446744073709551616) ∧ i ≤ s.size) ∧ Aside0 (wd = w0)) (fun _ _ x _ _ _ _ _ _ _ => s.size - (intOf x).toNat)
     case atStart => exact ⟨0, 0, 0, 0, false, false, false, i, rfl, rfl, rfl, rfl, rfl, rfl, rfl, rfl, rfl, ⟨by decide, HI.out⟩, HW⟩
     case round =>
      clear HI HW; obtain ⟨m1, nd1, nm1, dp1, tr1, sd1, sg1, i, rfl, rfl, rfl, rfl, rfl, rfl, rfl, rfl, rfl, HI, HW⟩ := hrel
      by_cases hi : i < s.size
      ·obtain ⟨x1, x2, x3, x4, x5, x6, x7, x8, x9, x10⟩ := str_facts hi HS.out; have HJ := sd hi; have HN := sd (HC.out i hi); clear hi; generalize bt s (i : Int) = c at *; have y0 : (c == 95) = false := beq_eq_false_iff_ne.mpr (by have := HN.out; unfold NumC at this; omega)
       by_cases h46 : c = 46
       ·have y1 : (c == 46) = true := beq_iff_eq.mpr h46; clear h46
        as_aux_lemma =>
         cases sd1 with
         | true =>
          go_wp2; go_meet
          case rel => exact ⟨m1, nd1, nm1, dp1, tr1, true, sg1, i, rfl, rfl, rfl, rfl, rfl, rfl, rfl, rfl, rfl, HI, HW⟩
         | false =>
          go_wp2; go_roundw
          case rel => exact ⟨_, _, _, _, _, _, _, i + 1, rfl, rfl, (by first | rfl | (rw [x6]; done)), rfl, rfl, rfl, rfl, rfl, rfl, ⟨HI.out.1, HJ.out⟩, HW⟩
          case measure => first | exact sz_meas HJ.out | (rw [x6]; exact sz_meas HJ.out)
       ·have y1 : (c == 46) = false := beq_eq_false_iff_ne.mpr h46
        by_cases h48 : 48 ≤ c
        ·have y2 : decide (48 ≤ c) = true := decide_eq_true h48
         by_cases h57 : c ≤ 57
         ·have y3 : decide (c ≤ 57) = true := decide_eq_true h57; clear h46 h48 h57
          by_cases hz : c = 48
          ·have y4 : (c == 48) = true := beq_iff_eq.mpr hz; have y5 : (c != 48) = false := bne_eq_false_iff_eq.mpr hz; clear hz
           by_cases h0 : nd1 = 0
           ·have y6 : (nd1 == 0) = true := beq_iff_eq.mpr h0; clear h0
            as_aux_lemma =>
             go_wp2; go_roundw
             case rel => exact ⟨_, _, _, _, _, _, _, i + 1, rfl, rfl, (by first | rfl | (rw [x6]; done)), rfl, rfl, rfl, rfl, rfl, rfl, ⟨HI.out.1, HJ.out⟩, HW⟩
             case measure => first | exact sz_meas HJ.out | (rw [x6]; exact sz_meas HJ.out)
           ·have y6 : (nd1 == 0) = false := beq_eq_false_iff_ne.mpr h0; clear h0
            by_cases h19 : nm1 < 19
            ·have y7 : decide (nm1 < 19) = true := decide_eq_true h19; clear h19
             as_aux_lemma =>
              go_wp2; go_roundw
              case rel => exact ⟨_, _, _, _, _, _, _, i + 1, rfl, rfl, (by first | rfl | (rw [x6]; done)), rfl, rfl, rfl, rfl, rfl, rfl, ⟨u64_rng _, HJ.out⟩, HW⟩
              case measure => first | exact sz_meas HJ.out | (rw [x6]; exact sz_meas HJ.out)
            ·have y7 : decide (nm1 < 19) = false := decide_eq_false h19; clear h19
             as_aux_lemma =>
              go_wp2; go_roundw
              case rel => exact ⟨_, _, _, _, _, _, _, i + 1, rfl, rfl, (by first | rfl | (rw [x6]; done)), rfl, rfl, rfl, rfl, rfl, rfl, ⟨HI.out.1, HJ.out⟩, HW⟩
              case measure => first | exact sz_meas HJ.out | (rw [x6]; exact sz_meas HJ.out)
          ·have y4 : (c == 48) = false := beq_eq_false_iff_ne.mpr hz; have y5 : (c != 48) = true := bne_iff_ne.mpr hz; clear hz
           by_cases h19 : nm1 < 19
           ·have y7 : decide (nm1 < 19) = true := decide_eq_true h19; clear h19
            as_aux_lemma =>
             go_wp2; go_roundw
             case rel => exact ⟨_, _, _, _, _, _, _, i + 1, rfl, rfl, (by first | rfl | (rw [x6]; done)), rfl, rfl, rfl, rfl, rfl, rfl, ⟨u64_rng _, HJ.out⟩, HW⟩
             case measure => first | exact sz_meas HJ.out | (rw [x6]; exact sz_meas HJ.out)
           ·have y7 : decide (nm1 < 19) = false := decide_eq_false h19; clear h19
            as_aux_lemma =>
             go_wp2; go_roundw
             case rel => exact ⟨_, _, _, _, _, _, _, i + 1, rfl, rfl, (by first | rfl | (rw [x6]; done)), rfl, rfl, rfl, rfl, rfl, rfl, ⟨HI.out.1, HJ.out⟩, HW⟩
             case measure => first | exact sz_meas HJ.out | (rw [x6]; exact sz_meas HJ.out)
         ·have y3 : decide (c ≤ 57) = false := decide_eq_false h57; clear h46 h48 h57
          as_aux_lemma =>
           go_wp2; go_meet
           case rel => exact ⟨m1, nd1, nm1, dp1, tr1, sd1, sg1, i, rfl, rfl, rfl, rfl, rfl, rfl, rfl, rfl, rfl, HI, HW⟩
        ·have y2 : decide (48 ≤ c) = false := decide_eq_false h48; clear h46 h48
         as_aux_lemma =>
          go_wp2; go_meet
          case rel => exact ⟨m1, nd1, nm1, dp1, tr1, sd1, sg1, i, rfl, rfl, rfl, rfl, rfl, rfl, rfl, rfl, rfl, HI, HW⟩
      ·obtain ⟨x1, x2, x3, x4⟩ := str_end hi; clear hi
       as_aux_lemma =>
        go_wp2; go_meet
        case rel => exact ⟨m1, nd1, nm1, dp1, tr1, sd1, sg1, i, rfl, rfl, rfl, rfl, rfl, rfl, rfl, rfl, rfl, HI, HW⟩
    case rest =>
     clear HI HW; obtain ⟨m1, nd1, nm1, dp1, tr1, sd1, sg1, i, rfl, rfl, rfl, rfl, rfl, rfl, rfl, rfl, rfl, HI, HW⟩ := hcut
     as_aux_lemma =>
     have HM := sd HI.out.1; have HI := sd HI.out.2
     cases sg1 with
     | false =>
      go_wp2; rw [Exit.noGoto_ret]; go_wp2; (try simp only [Exit.inBlock, Exit.then]); refine bodyPost_ret (results_tmp7 rfl _ _ _) rfl ?_
      exact ⟨⟨_, _, _, _, _, _, rfl, HM.out, HI.out⟩, HW.out.trans HW0.out⟩
     | true =>
      go_upto_if 142 with (fail)
      go_cut [17] (fun dp wd => ∃ dp1 : Int, dp = .int .i64 dp1 ∧ Aside0 (wd = w0))
      case first =>
       as_aux_lemma =>
        cases sd1 with
        | true =>
         go_wp2; go_meet
         case rel => exact ⟨_, rfl, HW⟩
        | false =>
         go_wp2; go_meet
         case rel => exact ⟨_, rfl, HW⟩
      case rest =>
       clear HW; obtain ⟨dp2, rfl, HW⟩ := hcut; go_upto_region 57 with (fail)
       by_cases hi : i < s.size
       ·obtain ⟨x1, x2, x3, x4, x5, x6, x7, x8, x9, x10⟩ := str_facts hi HS.out; have HJ := sd hi; clear hi; generalize bt s (i : Int) = c at *; go_upto_if 161 with (first | (go_at_call 106; (with_reducible refine (lower_calls c _).mono ?_); rintro e0 W2 ⟨rfl, rfl⟩))
        clear x1 x2 x3 x4 x5 x7 x8 x9 x10; go_cut [7, 9, 17] (fun x us dp wf => ∃ (i : Nat) (dp1 : Int), x = .int .i64 (i : Int) ∧ us = .bool false ∧ dp = .int .i64 dp1 ∧ Aside0 (i ≤ s.size) ∧ Aside0 (wf = w0))
        case first =>
         go_upto_region 59 with (fail)
         ·
          as_aux_lemma =>
           obtain ⟨j, hj⟩ : ∃ j : Nat, j = i + 1 := ⟨_, rfl⟩
           rw [x6, ← hj]; have HJ2 := sd (show j ≤ s.size by have := HJ.out; omega); clear x6 hj HJ HI; have HI := HJ2
           by_cases h2 : j < s.size
           ·obtain ⟨x1, x2, x3, x4, x5, x6, x7, x8, x9, x10⟩ := str_facts h2 HS.out; have HJ := sd h2; clear h2; generalize bt s (j : Int) = c2 at *; go_upto_block 4 with (fail)
            clear x1 x2 x3 x4 x5 x7 x8 x9 x10; go_cut [7, 19] (fun x es wg => ∃ (i : Nat) (es1 : Int), x = .int .i64 (i : Int) ∧ es = .int .i64 es1 ∧ Aside0 (i ≤ s.size) ∧ Aside0 (wg = w0))
            case first =>
             as_aux_lemma =>
             go_wp2
             ·go_meet
              case rel => exact ⟨j + 1, _, (by first | rfl | (rw [x6]; done)), rfl, ⟨HJ.out⟩, HW⟩
             ·go_meet
              case rel => exact ⟨j + 1, _, (by first | rfl | (rw [x6]; done)), rfl, ⟨HJ.out⟩, HW⟩
             ·go_meet
              case rel => exact ⟨j, _, rfl, rfl, HJ2, HW⟩
            case rest =>
             clear HW HJ HJ2 HI x6; obtain ⟨i, es1, rfl, rfl, HI, HW⟩ := hcut
             as_aux_lemma =>
             by_cases hi : i < s.size
             ·obtain ⟨x1, x2, x3, x4, x5, x6, x7, x8, x9, x10⟩ := str_facts hi HS.out; generalize bt s (i : Int) = c3 at *; clear hi
              by_cases h48 : c3 < 48
              ·have y1 : decide (c3 < 48) = true := decide_eq_true h48; clear h48
               as_aux_lemma =>
                go_wp2; rw [Exit.noGoto_ret]; go_wp2; (try simp only [Exit.inBlock, Exit.then]); refine bodyPost_ret (results_tmp7 rfl _ _ _) rfl ?_
                exact ⟨⟨_, _, _, _, _, _, rfl, HM.out, HI.out⟩, HW.out.trans HW0.out⟩
              ·have y1 : decide (c3 < 48) = false := decide_eq_false h48
               by_cases h57 : 57 < c3
               ·have y2 : decide (57 < c3) = true := decide_eq_true h57; clear h48 h57
                as_aux_lemma =>
                 go_wp2; rw [Exit.noGoto_ret]; go_wp2; (try simp only [Exit.inBlock, Exit.then]); refine bodyPost_ret (results_tmp7 rfl _ _ _) rfl ?_
                 exact ⟨⟨_, _, _, _, _, _, rfl, HM.out, HI.out⟩, HW.out.trans HW0.out⟩
               ·have y2 : decide (57 < c3) = false := decide_eq_false h57; clear h48 h57
                as_aux_lemma =>
                 go_upto_block 5 with (fail)
                 clear x1 x2 x3 x4 x5 x6 x7 x8 x9 x10 y1 y2; go_cut [7, 9, 20] (fun x us z wg => ∃ (i : Nat) (z1 : Int), x = .int .i64 (i : Int) ∧ us = .bool false ∧ z = .int .i64 z1 ∧ Aside0 (wg = w0) ∧ Aside0 (i ≤ s.size))
                 case first =>
                  as_aux_lemma =>
                  go_wp2; go_loopw [7, 9, 20] (fun x us z wg => ∃ (i : Nat) (z1 : Int), x = .int .i64 (i : Int) ∧ us = .bool false ∧ z = .int .i64 z1 ∧ Aside0 (wg = w0) ∧ Aside0 (i ≤ s.size)) (fun x _ _ _ => s.size - (intOf x).toNat)
                  case atStart => exact ⟨i, 0, rfl, rfl, rfl, HW, HI⟩
                  case round =>
                   clear HW HI; obtain ⟨i, z1, rfl, rfl, rfl, HW, HI⟩ := hrel
                   by_cases hi : i < s.size
                   ·obtain ⟨x1, x2, x3, x4, x5, x6, x7, x8, x9, x10⟩ := str_facts hi HS.out; have HJ := sd hi; have HN := sd (HC.out i hi); generalize bt s (i : Int) = c4 at *; clear hi; have y3 : (c4 == 95) = false := beq_eq_false_iff_ne.mpr (by have := HN.out; unfold NumC at this; omega)
                    by_cases h48 : 48 ≤ c4
                    ·have y1 : decide (48 ≤ c4) = true := decide_eq_true h48
                     by_cases h57 : c4 ≤ 57
                     ·have y2 : decide (c4 ≤ 57) = true := decide_eq_true h57; clear h48 h57
                      by_cases hz : z1 < 10000
                      ·have y4 : decide (z1 < 10000) = true := decide_eq_true hz; clear hz; go_wp2; go_roundw
                       case rel => exact ⟨i + 1, _, (by first | rfl | (rw [x6]; done)), rfl, rfl, HW, ⟨HJ.out⟩⟩
                       case measure => first | exact sz_meas HJ.out | (rw [x6]; exact sz_meas HJ.out)
                      ·have y4 : decide (z1 < 10000) = false := decide_eq_false hz; clear hz; go_wp2; go_roundw
                       case rel => exact ⟨i + 1, _, (by first | rfl | (rw [x6]; done)), rfl, rfl, HW, ⟨HJ.out⟩⟩
                       case measure => first | exact sz_meas HJ.out | (rw [x6]; exact sz_meas HJ.out)
                     ·have y2 : decide (c4 ≤ 57) = false := decide_eq_false h57; clear h48 h57; go_wp2; go_meet
                      case rel => exact ⟨i, z1, rfl, rfl, rfl, HW, HI⟩
                    ·have y1 : decide (48 ≤ c4) = false := decide_eq_false h48; clear h48; go_wp2; go_meet
                     case rel => exact ⟨i, z1, rfl, rfl, rfl, HW, HI⟩
                   ·obtain ⟨x1, x2, x3, x4⟩ := str_end hi; clear hi; go_wp2; go_meet
                    case rel => exact ⟨i, z1, rfl, rfl, rfl, HW, HI⟩
                 case rest =>
                  clear HW HI; obtain ⟨i, z1, rfl, rfl, rfl, HW, HI⟩ := hcut
                  as_aux_lemma =>
                  go_wp2; go_meet
                  case rel => exact ⟨i, _, rfl, rfl, rfl, HI, HW⟩
             ·obtain ⟨x1, x2, x3, x4⟩ := str_end hi; clear hi
              as_aux_lemma =>
               go_wp2; rw [Exit.noGoto_ret]; go_wp2; (try simp only [Exit.inBlock, Exit.then]); refine bodyPost_ret (results_tmp7 rfl _ _ _) rfl ?_
               exact ⟨⟨_, _, _, _, _, _, rfl, HM.out, HI.out⟩, HW.out.trans HW0.out⟩
           ·obtain ⟨x1, x2, x3, x4⟩ := str_end h2; clear h2
            as_aux_lemma =>
            go_wp2; rw [Exit.noGoto_ret]; go_wp2; (try simp only [Exit.inBlock, Exit.then]); refine bodyPost_ret (results_tmp7 rfl _ _ _) rfl ?_
            exact ⟨⟨_, _, _, _, _, _, rfl, HM.out, HI.out⟩, HW.out.trans HW0.out⟩
         ·go_wp2; go_meet
          case rel => exact ⟨i, dp2, rfl, rfl, rfl, HI, HW⟩
        case rest =>
         clear HW HI HJ x6; obtain ⟨i, dp3, rfl, rfl, rfl, HI, HW⟩ := hcut
         as_aux_lemma =>
          by_cases hm : m1 = 0
          ·have y1 : (m1 != 0) = false := bne_eq_false_iff_eq.mpr hm; clear hm; go_wp2; rw [Exit.noGoto_ret]; go_wp2; (try simp only [Exit.inBlock, Exit.then]); refine bodyPost_ret (results_tmp7 rfl _ _ _) rfl ?_
           exact ⟨⟨_, _, _, _, _, _, rfl, HM.out, HI.out⟩, HW.out.trans HW0.out⟩
          ·have y1 : (m1 != 0) = true := bne_iff_ne.mpr hm; clear hm; go_wp2; rw [Exit.noGoto_ret]; go_wp2; (try simp only [Exit.inBlock, Exit.then]); refine bodyPost_ret (results_tmp7 rfl _ _ _) rfl ?_
           exact ⟨⟨_, _, _, _, _, _, rfl, HM.out, HI.out⟩, HW.out.trans HW0.out⟩
       ·obtain ⟨x1, x2, x3, x4⟩ := str_end hi; clear hi
        as_aux_lemma =>
         by_cases hm : m1 = 0
         ·have y1 : (m1 != 0) = false := bne_eq_false_iff_eq.mpr hm; clear hm; go_wp2; rw [Exit.noGoto_ret]; go_wp2; (try simp only [Exit.inBlock, Exit.then]); refine bodyPost_ret (results_tmp7 rfl _ _ _) rfl ?_
          exact ⟨⟨_, _, _, _, _, _, rfl, HM.out, HI.out⟩, HW.out.trans HW0.out⟩
         ·have y1 : (m1 != 0) = true := bne_iff_ne.mpr hm; clear hm; go_wp2; rw [Exit.noGoto_ret]; go_wp2; (try simp only [Exit.inBlock, Exit.then]); refine bodyPost_ret (results_tmp7 rfl _ _ _) rfl ?_
          exact ⟨⟨_, _, _, _, _, _, rfl, HM.out, HI.out⟩, HW.out.trans HW0.out⟩
end Go.Proofs.YtdacgdjjdifneaaGreatDoor.PFnGjFlattenOften
