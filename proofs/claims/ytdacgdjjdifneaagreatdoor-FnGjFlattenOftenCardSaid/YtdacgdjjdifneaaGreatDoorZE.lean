/- Part of the proof of the card in text ZF. -/
import Derived.Test.YtdacgdjjdifneaaGreatDoorZC
import Derived.Test.YtdacgdjjdifneaaGreatDoorZD
import Derived.StillTailTactics
set_option linter.all false
set_option maxHeartbeats 16000000
set_option maxRecDepth 100000
namespace Go.Proofs.YtdacgdjjdifneaaGreatDoor.PFnGjFlattenOften
open Go.RowKit Go.Proofs.YtdacgdjjdifneaaGreatDoorW.PrintWords Go.Proofs.YtdacgdjjdifneaaGreatDoorW.PrintLast Go.Proofs.YtdacgdjjdifneaaGreatDoorW.PrintMore
structure Sd (w W : World) (b : Nat) : Prop where
 ex : ∃ (D : Nat → Int) (nd : Nat) (dp : Int) (neg tr : Bool), Kq w W b ∧ Dw W b D nd dp neg tr ∧ (nd = 0 ∨ Nrm D nd)
theorem str_facts {s : ByteArray} {j : Nat} (h : j < s.size) (hs : s.size ≤ 65536) : decide ((j : Int) < (s.size : Int)) = true ∧ decide (j < s.size) = true ∧ ((0 ≤ (j : Int)) = True) ∧ (((j : Int) < (s.size : Int)) = True) ∧ ((j < s.size) = True) ∧ wrap64 ((j : Int) + 1) = ((j + 1 : Nat) : Int) ∧ ((j : Int).toNat = j) ∧
  decide ((s.size : Int) ≤ (j : Int)) = false ∧ decide (s.size ≤ j) = false ∧ ∀ h : j < s.size, ((s[j]'h).toNat : Int) = bt s (j : Int) := by
 refine ⟨decide_eq_true (by omega), decide_eq_true h, eq_true (by omega), eq_true (by omega), eq_true h, ?_, Int.toNat_natCast j, decide_eq_false (by omega), decide_eq_false (by omega), bt_c s j⟩; rw [Go.IntWalk.wrap64_in _ (by omega)]; omega
theorem str_end {s : ByteArray} {j : Nat} (h : ¬ j < s.size) : decide ((j : Int) < (s.size : Int)) = false ∧ decide (j < s.size) = false ∧ decide ((s.size : Int) ≤ (j : Int)) = true ∧ decide (s.size ≤ j) = true := by
 refine ⟨decide_eq_false (by omega), decide_eq_false h, decide_eq_true (by omega), decide_eq_true (by omega)⟩
theorem size_pos {s : ByteArray} (h : s ≠ ByteArray.empty) : 0 < s.size := by
 refine Nat.pos_of_ne_zero fun e => h ?_; exact ByteArray.ext (Array.eq_empty_of_size_eq_zero e)
theorem nd_push {D : Nat → Int} {nd : Nat} {c : Int} (h : nd = 0 ∨ Nrm D nd) (hc : 48 ≤ c ∧ c ≤ 57) (h0 : nd = 0 → c ≠ 48) (hn : nd < 800) : Nrm (fun j => if j = nd then c else D j) (nd + 1) := by
 refine ⟨by omega, by omega, fun i hi => ?_, ?_⟩
 ·by_cases e : i = nd
  ·simp [e]; omega
  ·simp [e]
   rcases h with h | h
   ·omega
   ·exact h.dig i (by omega)
 ·by_cases e : nd = 0
  ·subst e; simp; have := h0 rfl; omega
  ·have := h.resolve_left e; simp [show ¬ (0 = nd) by omega]; exact this.lead
theorem sz_meas {s i : Nat} (h : i < s) : s - (intOf (.int .i64 ((i + 1 : Nat) : Int))).toNat < s - (intOf (.int .i64 (i : Int))).toNat := by
 show s - (((i + 1 : Nat) : Int)).toNat < s - ((i : Nat) : Int).toNat
 omega
theorem lower_calls (c : Int) (w : World) : Calls Tryz.prog 106 #[.int .u8 c] w fun e w' => e = .returned (.int .u8 (Go.bits .or .u8 c 32)) ∧ w' = w := by
 go_enter Tryz.func106, Tryz.ntmps106; go_wp2; go_ret; exact ⟨rfl, rfl⟩
theorem ds_calls (b : Nat) (s : ByteArray) (hs : s.size ≤ 65536) (hc : ∀ i, i < s.size → NumC (bt s (i : Int))) (w : World) (h : Sd w w b) :
  Calls Tryz.prog 136 #[.pointer (some ⟨b, 0, none⟩), .string s] w fun e w' => (∃ ok : Bool, e = .returned (.bool ok)) ∧ Sd w w' b := by
 have HS := sd hs; have HC := sd hc; obtain ⟨D, nd, dp, neg, tr, hk, hd, hn⟩ := h.ex; have HD := sd (And.intro hk (And.intro hd hn)); have c2 := hd.cneg; have c3 := hd.ctr; have f2 := hd.fz 802; have f3 := hd.fz 803; clear hk hd hn h hc hs
 by_cases h0 : s = ByteArray.empty
 ·have e0 : decide (s = ByteArray.empty) = true := decide_eq_true h0; clear h0; go_enter Tryz.func136, Tryz.ntmps136; go_wp2; go_ret; exact ⟨⟨_, rfl⟩, ⟨_, _, _, _, _, (HD.out.1.set _ _).set _ _, (HD.out.2.1.setNeg false).setTr false, HD.out.2.2⟩⟩
 have e0 : decide (s = ByteArray.empty) = false := decide_eq_false h0; have H0 := sd (size_pos h0); have e1 : (0 < s.size) = True := eq_true H0.out; clear h0; go_enter Tryz.func136, Tryz.ntmps136; go_upto_block 0 with (fail)
 clear c2 c3 f2 f3; go_cut [5] (fun x wc => ∃ i : Nat, x = .int .i64 (i : Int) ∧ Aside0 (i ≤ s.size) ∧ Aside0 (Sd w wc b))
 case first =>
  as_aux_lemma =>
   have c2 := ((HD.out.2.1.setNeg false).setTr false).cneg; have f2 := ((HD.out.2.1.setNeg false).setTr false).fz 802; go_wp2
   ·go_meet
    case rel => exact ⟨1, rfl, ⟨H0.out⟩, ⟨⟨_, _, _, _, _, (HD.out.1.set _ _).set _ _, (HD.out.2.1.setNeg false).setTr false, HD.out.2.2⟩⟩⟩
   ·go_meet
    case rel => exact ⟨1, rfl, ⟨H0.out⟩, ⟨⟨_, _, _, _, _, ((HD.out.1.set _ _).set _ _).set _ _, ((HD.out.2.1.setNeg false).setTr false).setNeg true, HD.out.2.2⟩⟩⟩
   ·go_meet
    case rel => exact ⟨0, rfl, ⟨Nat.zero_le _⟩, ⟨⟨_, _, _, _, _, (HD.out.1.set _ _).set _ _, (HD.out.2.1.setNeg false).setTr false, HD.out.2.2⟩⟩⟩
 case rest =>
  clear HD H0; obtain ⟨i, rfl, HI, HD⟩ := hcut; go_upto_block 1 with (fail)
  go_cut [5, 6, 7] (fun x sd sg wd => ∃ (i : Nat) (sd1 sg1 : Bool), x = .int .i64 (i : Int) ∧ sd = .bool sd1 ∧ sg = .bool sg1 ∧ Aside0 (i ≤ s.size) ∧ Aside0 (Sd w wd b))
  case first =>
   go_wp2; go_loopw [5, 6, 7] (fun x sd sg wd => ∃ (i : Nat) (sd1 sg1 : Bool), x = .int .i64 (i : Int) ∧ sd = .bool sd1 ∧ sg = .bool sg1 ∧ Aside0 (i ≤ s.size) ∧ Aside0 (Sd w wd b)) (fun x _ _ _ => s.size - (intOf x).toNat)
   case atStart => exact ⟨i, false, false, rfl, rfl, rfl, HI, HD⟩
   case round =>
    clear HI HD; obtain ⟨i, sd1, sg1, rfl, rfl, rfl, HI, HD⟩ := hrel
    by_cases hi : i < s.size
    ·obtain ⟨x1, x2, x3, x4, x5, x6, x7, x8, x9, x10⟩ := str_facts hi HS.out; have HJ := sd hi; have HN := sd (HC.out i hi); clear hi; generalize bt s (i : Int) = c at *; obtain ⟨D, nd, dp, neg, tr, hk, hd, hn⟩ := HD.out.ex; have HM := sd (And.intro hk (And.intro hd hn)); have c0 := hd.cnd; have c1 := hd.cdp; clear hk hd hn; have y0 : (c == 95) = false := beq_eq_false_iff_ne.mpr (by have := HN.out; unfold NumC at this; omega)
     by_cases h46 : c = 46
     ·have y1 : (c == 46) = true := beq_iff_eq.mpr h46
      as_aux_lemma =>
       have f1 := HM.out.2.1.fz 801
       cases sd1 with
       | true =>
        clear h46; go_wp2; go_ret; exact ⟨⟨_, rfl⟩, HD.out⟩
       | false =>
        clear h46; go_wp2; go_roundw
        case rel => exact ⟨i + 1, true, sg1, (by first | rfl | (rw [x6]; done)), rfl, rfl, ⟨HJ.out⟩, ⟨⟨_, _, _, _, _, HM.out.1.set _ _, HM.out.2.1.setDp _, HM.out.2.2⟩⟩⟩
        case measure => first | exact sz_meas HJ.out | (rw [x6]; exact sz_meas HJ.out)
     ·have y1 : (c == 46) = false := beq_eq_false_iff_ne.mpr h46
      by_cases h48 : 48 ≤ c
      ·have y2 : decide (48 ≤ c) = true := decide_eq_true h48
       by_cases h57 : c ≤ 57
       ·have y3 : decide (c ≤ 57) = true := decide_eq_true h57
        as_aux_lemma =>
         have HC2 := sd (And.intro h48 h57)
         by_cases h0 : nd = 0 ∧ c = 48
         ·obtain ⟨rfl, rfl⟩ := h0
          as_aux_lemma =>
          have f1 := HM.out.2.1.fz 801; have z0 : ((0 : Nat) : Int) = 0 := rfl; rw [z0] at c0; clear h46 h48 h57 z0; go_wp2; go_roundw
          case rel => exact ⟨i + 1, sd1, true, (by first | rfl | (rw [x6]; done)), rfl, rfl, ⟨HJ.out⟩, ⟨⟨_, _, _, _, _, HM.out.1.set _ _, HM.out.2.1.setDp _, HM.out.2.2⟩⟩⟩
          case measure => first | exact sz_meas HJ.out | (rw [x6]; exact sz_meas HJ.out)
         ·have HZ := sd h0; have y4 : ((c == 48) && ((nd : Int) == 0)) = false := by
           rw [Bool.and_eq_false_iff]
           by_cases e : c = 48
           ·exact .inr (beq_eq_false_iff_ne.mpr (by omega))
           ·exact .inl (beq_eq_false_iff_ne.mpr e)
          have HZ0 := sd (show nd = 0 → c ≠ 48 from fun e1 e2 => HZ.out ⟨e1, e2⟩)
          by_cases h8 : nd < 800
          ·obtain ⟨t1, t2, t3, t4⟩ := ls_in h8; have t5 : (nd < 800) = True := eq_true h8; have H8 := sd h8; clear h0 h8
           by_cases e : c = 48
           ·
            as_aux_lemma =>
            have y5 : (c == 48) = true := beq_iff_eq.mpr e; have y6 : ((nd : Int) == 0) = false := by rw [y5] at y4; exact y4
            have y7 : (nd == 0) = false := beq_eq_false_iff_ne.mpr (fun e0 => by rw [e0] at y6; cases y6); clear e y4 h46 h48 h57; have T0 := sd HM.out.2.1.drew; have T1 := sd (HM.out.2.1.setD nd H8.out c).drew; have c4 := T1.out.cnd; have f4 := T1.out.fz 800; have cw := T0.out.cd nd H8.out; have fw := T0.out.fz nd; have c0' := T0.out.cnd; have t6 : wrap64 ((nd : Int) + 1) = ((nd + 1 : Nat) : Int) := by rw [Go.IntWalk.wrap64_in _ (by have := H8.out; omega)]; omega
            go_wp2; go_still_tail 11, (by kernel_rfl)
            change wpList _ _ _ _ _ wr.drew
            go_wp2; go_roundw
            case rel => exact ⟨i + 1, sd1, true, (by first | rfl | (rw [x6]; done)), rfl, rfl, ⟨HJ.out⟩, ⟨⟨_, _, _, _, _, (HM.out.1.set _ _).drew.set _ _, T1.out.setNd (nd + 1), .inr (nd_push HM.out.2.2 HC2.out HZ0.out H8.out)⟩⟩⟩
            case measure => first | exact sz_meas HJ.out | (rw [x6]; exact sz_meas HJ.out)
           ·
            as_aux_lemma =>
            have y5 : (c == 48) = false := beq_eq_false_iff_ne.mpr e; clear e y4 h46 h48 h57; have T0 := sd HM.out.2.1.drew; have T1 := sd (HM.out.2.1.setD nd H8.out c).drew; have c4 := T1.out.cnd; have f4 := T1.out.fz 800; have cw := T0.out.cd nd H8.out; have fw := T0.out.fz nd; have c0' := T0.out.cnd; have t6 : wrap64 ((nd : Int) + 1) = ((nd + 1 : Nat) : Int) := by rw [Go.IntWalk.wrap64_in _ (by have := H8.out; omega)]; omega
            go_wp2; go_still_tail 11, (by kernel_rfl)
            change wpList _ _ _ _ _ wr.drew
            go_wp2; go_roundw
            case rel => exact ⟨i + 1, sd1, true, (by first | rfl | (rw [x6]; done)), rfl, rfl, ⟨HJ.out⟩, ⟨⟨_, _, _, _, _, (HM.out.1.set _ _).drew.set _ _, T1.out.setNd (nd + 1), .inr (nd_push HM.out.2.2 HC2.out HZ0.out H8.out)⟩⟩⟩
            case measure => first | exact sz_meas HJ.out | (rw [x6]; exact sz_meas HJ.out)
          ·obtain ⟨t1, t2⟩ := ls_out h8; have c3 := HM.out.2.1.ctr; have f3 := HM.out.2.1.fz 803; clear h0 h8
           by_cases e : c = 48
           ·
            as_aux_lemma =>
            have y5 : (c == 48) = true := beq_iff_eq.mpr e; have y6 : ((nd : Int) == 0) = false := by rw [y5] at y4; exact y4
            have y7 : (nd == 0) = false := beq_eq_false_iff_ne.mpr (fun e0 => by rw [e0] at y6; cases y6); have y8 : (c != 48) = false := bne_eq_false_iff_eq.mpr e; clear e y4 h46 h48 h57; go_wp2; go_roundw
            case rel => exact ⟨i + 1, sd1, true, (by first | rfl | (rw [x6]; done)), rfl, rfl, ⟨HJ.out⟩, HD⟩
            case measure => first | exact sz_meas HJ.out | (rw [x6]; exact sz_meas HJ.out)
           ·
            as_aux_lemma =>
            have y5 : (c == 48) = false := beq_eq_false_iff_ne.mpr e; have y8 : (c != 48) = true := bne_iff_ne.mpr e; clear e y4 h46 h48 h57; go_wp2; go_roundw
            case rel => exact ⟨i + 1, sd1, true, (by first | rfl | (rw [x6]; done)), rfl, rfl, ⟨HJ.out⟩, ⟨⟨_, _, _, _, _, HM.out.1.set _ _, HM.out.2.1.setTr true, HM.out.2.2⟩⟩⟩
            case measure => first | exact sz_meas HJ.out | (rw [x6]; exact sz_meas HJ.out)
       ·have y3 : decide (c ≤ 57) = false := decide_eq_false h57
        as_aux_lemma =>
         clear h46 h48 h57; go_wp2; go_meet
         case rel => exact ⟨i, sd1, sg1, rfl, rfl, rfl, HI, HD⟩
      ·have y2 : decide (48 ≤ c) = false := decide_eq_false h48
       as_aux_lemma =>
        clear h46 h48; go_wp2; go_meet
        case rel => exact ⟨i, sd1, sg1, rfl, rfl, rfl, HI, HD⟩
    ·obtain ⟨x1, x2, x3, x4⟩ := str_end hi
     as_aux_lemma =>
      clear hi; go_wp2; go_meet
      case rel => exact ⟨i, sd1, sg1, rfl, rfl, rfl, HI, HD⟩
  case rest =>
   clear HI HD; obtain ⟨i, sd1, sg1, rfl, rfl, rfl, HI, HD⟩ := hcut
   cases sg1 with
   | false =>
    go_wp2; go_ret; exact ⟨⟨_, rfl⟩, HD.out⟩
   | true =>
    go_upto_if 120 with (fail)
    go_cut [] (fun we => Aside0 (Sd w we b))
    case first =>
     as_aux_lemma =>
      cases sd1 with
      | true =>
       go_wp2; go_meet
       case rel => exact HD
      | false =>
       obtain ⟨D, nd, dp, neg, tr, hk, hd, hn⟩ := HD.out.ex; have HM := sd (And.intro hk (And.intro hd hn)); have c0 := hd.cnd; have c1 := hd.cdp; have f1 := hd.fz 801; clear hk hd hn; go_wp2; go_meet
       case rel => exact ⟨⟨_, _, _, _, _, HM.out.1.set _ _, HM.out.2.1.setDp _, HM.out.2.2⟩⟩
    case rest =>
     clear HD; have HD := hcut; clear hcut
     by_cases hi : i < s.size
     ·obtain ⟨x1, x2, x3, x4, x5, x6, x7, x8, x9, x10⟩ := str_facts hi HS.out; have HJ := sd hi; clear hi; generalize bt s (i : Int) = c at *; go_upto_if 138 with (first | (go_at_call 106; (with_reducible refine (lower_calls c _).mono ?_); rintro e0 W2 ⟨rfl, rfl⟩))
      clear x1 x2 x3 x4 x5 x7 x8 x9 x10; go_cut [5] (fun x wf => ∃ i : Nat, x = .int .i64 (i : Int) ∧ Aside0 (i ≤ s.size) ∧ Aside0 (Sd w wf b))
      case first =>
       go_upto_region 34 with (fail)
       ·
        as_aux_lemma =>
         obtain ⟨j, hj⟩ : ∃ j : Nat, j = i + 1 := ⟨_, rfl⟩
         rw [x6, ← hj]; have HJ2 := sd (show j ≤ s.size by have := HJ.out; omega); clear x6 hj HJ HI
         by_cases h2 : j < s.size
         ·obtain ⟨x1, x2, x3, x4, x5, x6, x7, x8, x9, x10⟩ := str_facts h2 HS.out; have HJ := sd h2; clear h2; generalize bt s (j : Int) = c2 at *; go_upto_block 4 with (fail)
          clear x1 x2 x3 x4 x5 x7 x8 x9 x10; go_cut [5, 8] (fun x es wg => ∃ (i : Nat) (es1 : Int), x = .int .i64 (i : Int) ∧ es = .int .i64 es1 ∧ Aside0 (i ≤ s.size) ∧ Aside0 (Sd w wg b))
          case first =>
           as_aux_lemma =>
           go_wp2
           ·go_meet
            case rel => exact ⟨j + 1, _, (by first | rfl | (rw [x6]; done)), rfl, ⟨HJ.out⟩, HD⟩
           ·go_meet
            case rel => exact ⟨j + 1, _, (by first | rfl | (rw [x6]; done)), rfl, ⟨HJ.out⟩, HD⟩
           ·go_meet
            case rel => exact ⟨j, _, rfl, rfl, HJ2, HD⟩
          case rest =>
           clear HD HJ HJ2 x6; obtain ⟨i, es1, rfl, rfl, HI, HD⟩ := hcut
           as_aux_lemma =>
           by_cases hi : i < s.size
           ·obtain ⟨x1, x2, x3, x4, x5, x6, x7, x8, x9, x10⟩ := str_facts hi HS.out; generalize bt s (i : Int) = c3 at *; clear hi
            by_cases h48 : c3 < 48
            ·have y1 : decide (c3 < 48) = true := decide_eq_true h48; clear h48
             as_aux_lemma =>
              go_wp2; go_ret; exact ⟨⟨_, rfl⟩, HD.out⟩
            ·have y1 : decide (c3 < 48) = false := decide_eq_false h48
             by_cases h57 : 57 < c3
             ·have y2 : decide (57 < c3) = true := decide_eq_true h57; clear h48 h57
              as_aux_lemma =>
               go_wp2; go_ret; exact ⟨⟨_, rfl⟩, HD.out⟩
             ·have y2 : decide (57 < c3) = false := decide_eq_false h57; clear h48 h57
              as_aux_lemma =>
               go_upto_block 5 with (fail)
               clear x1 x2 x3 x4 x5 x6 x7 x8 x9 x10 y1 y2; go_cut [5, 9] (fun x z wg => ∃ (i : Nat) (z1 : Int), x = .int .i64 (i : Int) ∧ z = .int .i64 z1 ∧ Aside0 (Sd w wg b) ∧ Aside0 (i ≤ s.size))
               case first =>
                as_aux_lemma =>
                go_wp2; go_loopw [5, 9] (fun x z wg => ∃ (i : Nat) (z1 : Int), x = .int .i64 (i : Int) ∧ z = .int .i64 z1 ∧ Aside0 (Sd w wg b) ∧ Aside0 (i ≤ s.size)) (fun x _ _ => s.size - (intOf x).toNat)
                case atStart => exact ⟨i, 0, rfl, rfl, HD, HI⟩
                case round =>
                 clear HD HI; obtain ⟨i, z1, rfl, rfl, HD, HI⟩ := hrel
                 by_cases hi : i < s.size
                 ·obtain ⟨x1, x2, x3, x4, x5, x6, x7, x8, x9, x10⟩ := str_facts hi HS.out; have HJ := sd hi; have HN := sd (HC.out i hi); generalize bt s (i : Int) = c4 at *; clear hi; have y3 : (c4 == 95) = false := beq_eq_false_iff_ne.mpr (by have := HN.out; unfold NumC at this; omega)
                  by_cases h48 : 48 ≤ c4
                  ·have y1 : decide (48 ≤ c4) = true := decide_eq_true h48
                   by_cases h57 : c4 ≤ 57
                   ·have y2 : decide (c4 ≤ 57) = true := decide_eq_true h57; clear h48 h57
                    by_cases hz : z1 < 10000
                    ·have y4 : decide (z1 < 10000) = true := decide_eq_true hz; clear hz; go_wp2; go_roundw
                     case rel => exact ⟨i + 1, _, (by first | rfl | (rw [x6]; done)), rfl, HD, ⟨HJ.out⟩⟩
                     case measure => first | exact sz_meas HJ.out | (rw [x6]; exact sz_meas HJ.out)
                    ·have y4 : decide (z1 < 10000) = false := decide_eq_false hz; clear hz; go_wp2; go_roundw
                     case rel => exact ⟨i + 1, _, (by first | rfl | (rw [x6]; done)), rfl, HD, ⟨HJ.out⟩⟩
                     case measure => first | exact sz_meas HJ.out | (rw [x6]; exact sz_meas HJ.out)
                   ·have y2 : decide (c4 ≤ 57) = false := decide_eq_false h57; clear h48 h57; go_wp2; go_meet
                    case rel => exact ⟨i, z1, rfl, rfl, HD, HI⟩
                  ·have y1 : decide (48 ≤ c4) = false := decide_eq_false h48; clear h48; go_wp2; go_meet
                   case rel => exact ⟨i, z1, rfl, rfl, HD, HI⟩
                 ·obtain ⟨x1, x2, x3, x4⟩ := str_end hi; clear hi; go_wp2; go_meet
                  case rel => exact ⟨i, z1, rfl, rfl, HD, HI⟩
               case rest =>
                clear HD HI; obtain ⟨i, z1, rfl, rfl, HD, HI⟩ := hcut
                as_aux_lemma =>
                obtain ⟨D, nd, dp, neg, tr, hk, hd, hn⟩ := HD.out.ex; have HM := sd (And.intro hk (And.intro hd hn)); have c1 := hd.cdp; have f1 := hd.fz 801; clear hk hd hn; go_wp2; go_meet
                case rel => exact ⟨i, rfl, HI, ⟨⟨_, _, _, _, _, HM.out.1.set _ _, HM.out.2.1.setDp _, HM.out.2.2⟩⟩⟩
           ·obtain ⟨x1, x2, x3, x4⟩ := str_end hi; clear hi
            as_aux_lemma =>
             go_wp2; go_ret; exact ⟨⟨_, rfl⟩, HD.out⟩
         ·obtain ⟨x1, x2, x3, x4⟩ := str_end h2; clear h2
          as_aux_lemma =>
          go_wp2; go_ret; exact ⟨⟨_, rfl⟩, HD.out⟩
       ·go_wp2; go_meet
        case rel => exact ⟨i, rfl, HI, HD⟩
      case rest =>
       clear HD HI HJ x6; obtain ⟨i, rfl, HI, HD⟩ := hcut
       as_aux_lemma =>
        by_cases he : i = s.size
        ·have y1 : ((i : Int) != (s.size : Int)) = false := bne_eq_false_iff_eq.mpr (by omega); have y2 : (i != s.size) = false := bne_eq_false_iff_eq.mpr he; clear he; go_wp2; go_ret; exact ⟨⟨_, rfl⟩, HD.out⟩
        ·have y1 : ((i : Int) != (s.size : Int)) = true := bne_iff_ne.mpr (by omega); have y2 : (i != s.size) = true := bne_iff_ne.mpr he; clear he; go_wp2; go_ret; exact ⟨⟨_, rfl⟩, HD.out⟩
     ·obtain ⟨x1, x2, x3, x4⟩ := str_end hi
      as_aux_lemma =>
       have he : i = s.size := by have := HI.out; omega
       have y1 : ((i : Int) != (s.size : Int)) = false := bne_eq_false_iff_eq.mpr (by omega); have y2 : (i != s.size) = false := bne_eq_false_iff_eq.mpr he; clear he hi; go_wp2; go_ret; exact ⟨⟨_, rfl⟩, HD.out⟩
end Go.Proofs.YtdacgdjjdifneaaGreatDoor.PFnGjFlattenOften
