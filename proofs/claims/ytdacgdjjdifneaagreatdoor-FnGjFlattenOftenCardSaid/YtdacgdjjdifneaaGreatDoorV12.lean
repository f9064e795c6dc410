/- Walks of functions that the law calls, printed and rewritten by program. -/
import Derived.Test.YtdacgdjjdifneaaGreatDoorV0
set_option linter.all false
set_option maxHeartbeats 16000000
set_option maxRecDepth 100000
namespace Go.Proofs.YtdacgdjjdifneaaGreatDoor.PFnGjFlattenOften
open Go.RowKit Go.Proofs.YtdacgdjjdifneaaGreatDoorW.PrintWords Go.Proofs.YtdacgdjjdifneaaGreatDoorW.PrintLast Go.Proofs.YtdacgdjjdifneaaGreatDoorW.PrintMore
attribute [local go_sem] max2_int min2_int max_two min_two max_three min_three max_four min_four
mutual
def gjson_parseString.l0 : Nat → ByteArray → Int → Int → Option (Int × ByteArray × Bool × Bool)
 | 0, _, _, _ => none
 | k + 1, x0, x1, x8 => if x1 < (x0.size : Int) then (if 0 ≤ x1 then (if (bt x0 x1) > 92 then (gjson_parseString.l0 k x0 (wrap64 (x1 + 1)) x8) else (if (bt x0 x1) = 34 then (if 0 ≤ (wrap64 (x8 - 1)) then (if (wrap64 (x8 - 1)) ≤ (wrap64 (x1 + 1)) then (if (wrap64 (x1 + 1)) ≤ (x0.size : Int) then (some (wrap64 (x1 + 1), x0.extract ((wrap64 (x8 - 1)) : Int).toNat ((wrap64 (x1 + 1)) : Int).toNat, false, true)) else (none)) else (none)) else (none)) else (if (bt x0 x1) = 92 then (gjson_parseString.l1 k x0 (wrap64 (x1 + 1)) x8) else (gjson_parseString.l0 k x0 (wrap64 (x1 + 1)) x8)))) else (none)) else (if 0 ≤ (wrap64 (x8 - 1)) then (if (wrap64 (x8 - 1)) ≤ (x0.size : Int) then (some (x1, x0.extract ((wrap64 (x8 - 1)) : Int).toNat x0.size, false, false)) else (none)) else (none))
def gjson_parseString.l1 : Nat → ByteArray → Int → Int → Option (Int × ByteArray × Bool × Bool)
 | 0, _, _, _ => none
 | k + 1, x0, x1, x8 => if x1 < (x0.size : Int) then (if 0 ≤ x1 then (if (bt x0 x1) > 92 then (gjson_parseString.l1 k x0 (wrap64 (x1 + 1)) x8) else (if (bt x0 x1) = 34 then (if 0 ≤ (wrap64 (x1 - 1)) then (if (wrap64 (x1 - 1)) < (x0.size : Int) then (if (bt x0 (wrap64 (x1 - 1))) = 92 then (gjson_parseString.l2 k x0 x1 x8 0 (wrap64 (x1 - 2))) else (if 0 ≤ (wrap64 (x8 - 1)) then (if (wrap64 (x8 - 1)) ≤ (wrap64 (x1 + 1)) then (if (wrap64 (x1 + 1)) ≤ (x0.size : Int) then (some (wrap64 (x1 + 1), x0.extract ((wrap64 (x8 - 1)) : Int).toNat ((wrap64 (x1 + 1)) : Int).toNat, true, true)) else (none)) else (none)) else (none))) else (none)) else (none)) else (gjson_parseString.l1 k x0 (wrap64 (x1 + 1)) x8))) else (none)) else (if 0 ≤ (wrap64 (x8 - 1)) then (if (wrap64 (x8 - 1)) ≤ (x0.size : Int) then (some (x1, x0.extract ((wrap64 (x8 - 1)) : Int).toNat x0.size, false, false)) else (none)) else (none))
def gjson_parseString.l2 : Nat → ByteArray → Int → Int → Int → Int → Option (Int × ByteArray × Bool × Bool)
 | 0, _, _, _, _, _ => none
 | k + 1, x0, x1, x8, x9, x10 => if x10 > 0 then (if 0 ≤ x10 then (if x10 < (x0.size : Int) then (if (bt x0 x10) = 92 then (gjson_parseString.l2 k x0 x1 x8 (wrap64 (x9 + 1)) (wrap64 (x10 - 1))) else (if (Int.tmod x9 2) = 0 then (gjson_parseString.l1 k x0 (wrap64 (x1 + 1)) x8) else (if 0 ≤ (wrap64 (x8 - 1)) then (if (wrap64 (x8 - 1)) ≤ (wrap64 (x1 + 1)) then (if (wrap64 (x1 + 1)) ≤ (x0.size : Int) then (some (wrap64 (x1 + 1), x0.extract ((wrap64 (x8 - 1)) : Int).toNat ((wrap64 (x1 + 1)) : Int).toNat, true, true)) else (none)) else (none)) else (none)))) else (none)) else (none)) else (if (Int.tmod x9 2) = 0 then (gjson_parseString.l1 k x0 (wrap64 (x1 + 1)) x8) else (if 0 ≤ (wrap64 (x8 - 1)) then (if (wrap64 (x8 - 1)) ≤ (wrap64 (x1 + 1)) then (if (wrap64 (x1 + 1)) ≤ (x0.size : Int) then (some (wrap64 (x1 + 1), x0.extract ((wrap64 (x8 - 1)) : Int).toNat ((wrap64 (x1 + 1)) : Int).toNat, true, true)) else (none)) else (none)) else (none)))
end
def gjson_parseString.f (k : Nat) (a0 : ByteArray) (a1 : Int) : Option (Int × ByteArray × Bool × Bool) := gjson_parseString.l0 k a0 a1 a1
theorem gjson_parseString.calls (k : Nat) (a0 : ByteArray) (a1 : Int) (r1 : Int) (r2 : ByteArray) (r3 : Bool) (r4 : Bool) (w : World) (h : gjson_parseString.f k a0 a1 = some (r1, r2, r3, r4)) :
  Calls Tryz.prog 52 #[.string a0, .int .i64 a1] w fun e w' => e = .returned (.tuple #[.int .i64 r1, .string r2, .bool r3, .bool r4]) ∧ Drawn0 w w' := by
 have H : (gjson_parseString.l0 k a0 a1 a1) = some (r1, r2, r3, r4) := h; clear h; have H' := sd H; clear H; go_enter Tryz.func52, Tryz.ntmps52; go_wp2
 repeat (go_quiet (fail); try go_wp2)
 (try simp only [Act.put, List.setIfInBounds_toArray, List.set_cons_zero, List.set_cons_succ]); go_loopg [1] k (fun kq v1 w' => ∃ (x1_1 : Int), v1 = .int .i64 x1_1 ∧ Aside0 (gjson_parseString.l0 kq a0 x1_1 a1 = some (r1, r2, r3, r4)) ∧ Aside0 (kq ≤ k) ∧ Drawn0 w w')
 case atStart => exact ⟨(a1), tF, H', ⟨Nat.le_refl _⟩, tD⟩
 case round =>
  clear H'; obtain ⟨x1_1, rfl, HA, HK1, ⟨m1, rfl⟩⟩ := hrel
  cases gk with
  | zero => exact absurd HA.out (by simp [gjson_parseString.l0])
  | succ k1 =>
   have H := HA.out; clear HA; simp only [gjson_parseString.l0] at H
   by_cases c3 : x1_1 < (a0.size : Int)
   ·rw [if_pos c3] at H; have c3b0 : decide (x1_1 < (a0.size : Int)) = true := decide_eq_true c3; clear c3
    by_cases c4 : 0 ≤ x1_1
    ·rw [if_pos c4] at H; have c4b0 : decide (0 ≤ x1_1) = true := decide_eq_true c4; clear c4
     by_cases c6 : (bt a0 x1_1) > 92
     ·rw [if_pos c6] at H; have c6b0 : decide (92 < (bt a0 x1_1)) = true := decide_eq_true c6; clear c6; have H' := sd H; clear H; have p5 : 0 ≤ (x1_1 : Int) := tX; have q5 : x1_1 < (a0.size : Int) := tX; have hx5 := bt_at a0 x1_1; replace p5 := eq_true p5; replace q5 := eq_true q5; go_wp2
      repeat (go_quiet (fail); try go_wp2)
      go_roundg k1
      case measure => have := HK1.out; omega
      case rel => exact ⟨(wrap64 (x1_1 + 1)), tF, H', ⟨by have := HK1.out; omega⟩, tD⟩
     ·rw [if_neg c6] at H; have c6b0 : decide (92 < (bt a0 x1_1)) = false := decide_eq_false c6; clear c6
      by_cases c8 : (bt a0 x1_1) = 34
      ·rw [if_pos c8] at H; have c8b0 : ((bt a0 x1_1) == 34) = true := beq_iff_eq.mpr c8; have c8b1 : ((bt a0 x1_1) != 34) = false := bne_eq_false_iff_eq.mpr c8; clear c8; obtain ⟨ji9, hji9⟩ : ∃ j_ : Int, (wrap64 (a1 - 1)) = j_ := ⟨_, rfl⟩
       replace H : (if 0 ≤ (ji9) then (if (ji9) ≤ (wrap64 (x1_1 + 1)) then (if (wrap64 (x1_1 + 1)) ≤ (a0.size : Int) then (some (wrap64 (x1_1 + 1), a0.extract ((ji9) : Int).toNat ((wrap64 (x1_1 + 1)) : Int).toNat, false, true)) else (none)) else (none)) else (none)) = some (r1, r2, r3, r4) := by first | (rw [hji9] at H; exact H) | (simp only [hji9] at H ⊢; exact H)
       have hji9w : (IntKind.i64.wrap (a1 - 1)) = ji9 := (i64_w _).trans hji9
       by_cases c10 : 0 ≤ (ji9)
       ·rw [if_pos c10] at H; have c10b0 := eq_true c10; have c10b1 : decide (0 ≤ (ji9)) = true := decide_eq_true c10; clear c10
        by_cases c11 : (ji9) ≤ (wrap64 (x1_1 + 1))
        ·rw [if_pos c11] at H; have c11b0 := eq_true c11; have c11b1 : decide ((ji9) ≤ (wrap64 (x1_1 + 1))) = true := decide_eq_true c11
         by_cases c12 : (wrap64 (x1_1 + 1)) ≤ (a0.size : Int)
         ·rw [if_pos c12] at H; have c12b0 := eq_true c12; have c12b1 : decide ((wrap64 (x1_1 + 1)) ≤ (a0.size : Int)) = true := decide_eq_true c12; simp only [Option.some.injEq, Prod.mk.injEq] at H; obtain ⟨rfl, rfl, rfl, rfl⟩ := H; have p5 : 0 ≤ (x1_1 : Int) := tX; have q5 : x1_1 < (a0.size : Int) := tX; have hx5 := bt_at a0 x1_1; replace p5 := eq_true p5; replace q5 := eq_true q5; have p7 : 0 ≤ (x1_1 : Int) := tX; have q7 : x1_1 < (a0.size : Int) := tX; have hx7 := bt_at a0 x1_1; replace p7 := eq_true p7; replace q7 := eq_true q7; go_wp2
          repeat (go_quiet (fail); try go_wp2)
          refine bodyPost_ret (results_list (rs := [.tmp 4, .tmp 5, .tmp 6, .tmp 7]) rfl (by simp) (.tmp (.tmp (.tmp (.tmp .nil))))) rfl ?_; exact ⟨by first | rfl | (simp; done) | (simp only [← hji9] <;> (first | rfl | simp)) | (simp [*]; done), tD⟩
         ·rw [if_neg c12] at H; exact absurd H (by simp)
        ·rw [if_neg c11] at H; exact absurd H (by simp)
       ·rw [if_neg c10] at H; exact absurd H (by simp)
      ·rw [if_neg c8] at H; have c8b0 : ((bt a0 x1_1) == 34) = false := beq_eq_false_iff_ne.mpr c8; have c8b1 : ((bt a0 x1_1) != 34) = true := bne_iff_ne.mpr c8
       by_cases c14 : (bt a0 x1_1) = 92
       ·rw [if_pos c14] at H; have c14b0 : ((bt a0 x1_1) == 92) = true := beq_iff_eq.mpr c14; have c14b1 : ((bt a0 x1_1) != 92) = false := bne_eq_false_iff_eq.mpr c14; clear c14; have H' := sd H; clear H; have p5 : 0 ≤ (x1_1 : Int) := tX; have q5 : x1_1 < (a0.size : Int) := tX; have hx5 := bt_at a0 x1_1; replace p5 := eq_true p5; replace q5 := eq_true q5; have p7 : 0 ≤ (x1_1 : Int) := tX; have q7 : x1_1 < (a0.size : Int) := tX; have hx7 := bt_at a0 x1_1; replace p7 := eq_true p7; replace q7 := eq_true q7; have p13 : 0 ≤ (x1_1 : Int) := tX; have q13 : x1_1 < (a0.size : Int) := tX; have hx13 := bt_at a0 x1_1; replace p13 := eq_true p13; replace q13 := eq_true q13; go_wp2
        repeat (go_quiet (fail); try go_wp2)
        (try simp only [Act.put, List.setIfInBounds_toArray, List.set_cons_zero, List.set_cons_succ]); go_loopg [1] k1 (fun kq v1 w' => ∃ (x1_2 : Int), v1 = .int .i64 x1_2 ∧ Aside0 (gjson_parseString.l1 kq a0 x1_2 a1 = some (r1, r2, r3, r4)) ∧ Aside0 (kq ≤ k1) ∧ Drawn0 w w')
        case atStart => exact ⟨(wrap64 (x1_1 + 1)), tF, H', ⟨Nat.le_refl _⟩, tD⟩
        case round =>
         clear H'; obtain ⟨x1_2, rfl, HA, HK2, ⟨m2, rfl⟩⟩ := hrel
         cases gk with
         | zero => exact absurd HA.out (by simp [gjson_parseString.l1])
         | succ k2 =>
          have H := HA.out; clear HA; simp only [gjson_parseString.l1] at H
          by_cases c15 : x1_2 < (a0.size : Int)
          ·rw [if_pos c15] at H; have c15b0 : decide (x1_2 < (a0.size : Int)) = true := decide_eq_true c15; clear c15
           by_cases c16 : 0 ≤ x1_2
           ·rw [if_pos c16] at H; have c16b0 : decide (0 ≤ x1_2) = true := decide_eq_true c16; clear c16
            by_cases c18 : (bt a0 x1_2) > 92
            ·rw [if_pos c18] at H; have c18b0 : decide (92 < (bt a0 x1_2)) = true := decide_eq_true c18; clear c18; have H' := sd H; clear H; have p17 : 0 ≤ (x1_2 : Int) := tX; have q17 : x1_2 < (a0.size : Int) := tX; have hx17 := bt_at a0 x1_2; replace p17 := eq_true p17; replace q17 := eq_true q17; go_wp2
             repeat (go_quiet (fail); try go_wp2)
             go_roundg k2
             case measure => have := HK1.out; have := HK2.out; omega
             case rel => exact ⟨(wrap64 (x1_2 + 1)), tF, H', ⟨by have := HK1.out; have := HK2.out; omega⟩, tD⟩
            ·rw [if_neg c18] at H; have c18b0 : decide (92 < (bt a0 x1_2)) = false := decide_eq_false c18; clear c18
             by_cases c20 : (bt a0 x1_2) = 34
             ·rw [if_pos c20] at H; have c20b0 : ((bt a0 x1_2) == 34) = true := beq_iff_eq.mpr c20; have c20b1 : ((bt a0 x1_2) != 34) = false := bne_eq_false_iff_eq.mpr c20; clear c20; obtain ⟨ji21, hji21⟩ : ∃ j_ : Int, (wrap64 (x1_2 - 1)) = j_ := ⟨_, rfl⟩
              replace H : (if 0 ≤ (ji21) then (if (ji21) < (a0.size : Int) then (if (bt a0 (ji21)) = 92 then (gjson_parseString.l2 k2 a0 x1_2 a1 0 (wrap64 (x1_2 - 2))) else (if 0 ≤ (wrap64 (a1 - 1)) then (if (wrap64 (a1 - 1)) ≤ (wrap64 (x1_2 + 1)) then (if (wrap64 (x1_2 + 1)) ≤ (a0.size : Int) then (some (wrap64 (x1_2 + 1), a0.extract ((wrap64 (a1 - 1)) : Int).toNat ((wrap64 (x1_2 + 1)) : Int).toNat, true, true)) else (none)) else (none)) else (none))) else (none)) else (none)) = some (r1, r2, r3, r4) := by first | (rw [hji21] at H; exact H) | (simp only [hji21] at H ⊢; exact H)
              have hji21w : (IntKind.i64.wrap (x1_2 - 1)) = ji21 := (i64_w _).trans hji21
              by_cases c22 : 0 ≤ (ji21)
              ·rw [if_pos c22] at H; have c22b0 : decide (0 ≤ (ji21)) = true := decide_eq_true c22; clear c22
               by_cases c23 : (ji21) < (a0.size : Int)
               ·rw [if_pos c23] at H; have c23b0 : decide ((ji21) < (a0.size : Int)) = true := decide_eq_true c23; clear c23
                by_cases c25 : (bt a0 (ji21)) = 92
                ·rw [if_pos c25] at H; have c25b0 : ((bt a0 (ji21)) == 92) = true := beq_iff_eq.mpr c25; have c25b1 : ((bt a0 (ji21)) != 92) = false := bne_eq_false_iff_eq.mpr c25; clear c25; have H' := sd H; clear H; have p17 : 0 ≤ (x1_2 : Int) := tX; have q17 : x1_2 < (a0.size : Int) := tX; have hx17 := bt_at a0 x1_2; replace p17 := eq_true p17; replace q17 := eq_true q17; have p19 : 0 ≤ (x1_2 : Int) := tX; have q19 : x1_2 < (a0.size : Int) := tX; have hx19 := bt_at a0 x1_2; replace p19 := eq_true p19; replace q19 := eq_true q19; have p24 : 0 ≤ ((ji21) : Int) := tX; have q24 : (ji21) < (a0.size : Int) := tX; have hx24 := bt_at a0 (ji21); replace p24 := eq_true p24; replace q24 := eq_true q24; go_wp2
                 repeat (go_quiet (fail); try go_wp2)
                 (try simp only [Act.put, List.setIfInBounds_toArray, List.set_cons_zero, List.set_cons_succ]); go_loopg [9, 10] k2 (fun kq v9 v10 w' => ∃ (x9_3 : Int) (x10_3 : Int), v9 = .int .i64 x9_3 ∧ v10 = .int .i64 x10_3 ∧ Aside0 (gjson_parseString.l2 kq a0 x1_2 a1 x9_3 x10_3 = some (r1, r2, r3, r4)) ∧ Aside0 (kq ≤ k2) ∧ Drawn0 w w')
                 case atStart => exact ⟨(0), (wrap64 (x1_2 - 2)), tF, tF, H', ⟨Nat.le_refl _⟩, tD⟩
                 case round =>
                  clear H'; obtain ⟨x9_3, x10_3, rfl, rfl, HA, HK3, ⟨m3, rfl⟩⟩ := hrel
                  cases gk with
                  | zero => exact absurd HA.out (by simp [gjson_parseString.l2])
                  | succ k3 =>
                   have H := HA.out; clear HA; simp only [gjson_parseString.l2] at H
                   by_cases c26 : x10_3 > 0
                   ·rw [if_pos c26] at H; have c26b0 : decide (0 < x10_3) = true := decide_eq_true c26; clear c26
                    by_cases c27 : 0 ≤ x10_3
                    ·rw [if_pos c27] at H; have c27b0 : decide (0 ≤ x10_3) = true := decide_eq_true c27; clear c27
                     by_cases c28 : x10_3 < (a0.size : Int)
                     ·rw [if_pos c28] at H; have c28b0 : decide (x10_3 < (a0.size : Int)) = true := decide_eq_true c28; clear c28
                      by_cases c30 : (bt a0 x10_3) = 92
                      ·rw [if_pos c30] at H; have c30b0 : ((bt a0 x10_3) == 92) = true := beq_iff_eq.mpr c30; have c30b1 : ((bt a0 x10_3) != 92) = false := bne_eq_false_iff_eq.mpr c30; clear c30; have H' := sd H; clear H; have p29 : 0 ≤ (x10_3 : Int) := tX; have q29 : x10_3 < (a0.size : Int) := tX; have hx29 := bt_at a0 x10_3; replace p29 := eq_true p29; replace q29 := eq_true q29; go_wp2
                       repeat (go_quiet (fail); try go_wp2)
                       go_roundg k3
                       case measure => have := HK1.out; have := HK2.out; have := HK3.out; omega
                       case rel => exact ⟨(wrap64 (x9_3 + 1)), (wrap64 (x10_3 - 1)), tF, tF, H', ⟨by have := HK1.out; have := HK2.out; have := HK3.out; omega⟩, tD⟩
                      ·rw [if_neg c30] at H; have c30b0 : ((bt a0 x10_3) == 92) = false := beq_eq_false_iff_ne.mpr c30; have c30b1 : ((bt a0 x10_3) != 92) = true := bne_iff_ne.mpr c30
                       by_cases c31 : (Int.tmod x9_3 2) = 0
                       ·rw [if_pos c31] at H; have c31b0 : ((Int.tmod x9_3 2) == 0) = true := beq_iff_eq.mpr c31; have c31b1 : ((Int.tmod x9_3 2) != 0) = false := bne_eq_false_iff_eq.mpr c31; clear c31; have H' := sd H; clear H; have p29 : 0 ≤ (x10_3 : Int) := tX; have q29 : x10_3 < (a0.size : Int) := tX; have hx29 := bt_at a0 x10_3; replace p29 := eq_true p29; replace q29 := eq_true q29; go_wp2
                        repeat (go_quiet (fail); try go_wp2)
                        go_roundg k3
                        case measure => have := HK1.out; have := HK2.out; have := HK3.out; omega
                        case rel => exact ⟨(wrap64 (x1_2 + 1)), tF, H', ⟨by have := HK1.out; have := HK2.out; have := HK3.out; omega⟩, tD⟩
                       ·rw [if_neg c31] at H; have c31b0 : ((Int.tmod x9_3 2) == 0) = false := beq_eq_false_iff_ne.mpr c31; have c31b1 : ((Int.tmod x9_3 2) != 0) = true := bne_iff_ne.mpr c31; obtain ⟨ji32, hji32⟩ : ∃ j_ : Int, (wrap64 (a1 - 1)) = j_ := ⟨_, rfl⟩
                        replace H : (if 0 ≤ (ji32) then (if (ji32) ≤ (wrap64 (x1_2 + 1)) then (if (wrap64 (x1_2 + 1)) ≤ (a0.size : Int) then (some (wrap64 (x1_2 + 1), a0.extract ((ji32) : Int).toNat ((wrap64 (x1_2 + 1)) : Int).toNat, true, true)) else (none)) else (none)) else (none)) = some (r1, r2, r3, r4) := by first | (rw [hji32] at H; exact H) | (simp only [hji32] at H ⊢; exact H)
                        have hji32w : (IntKind.i64.wrap (a1 - 1)) = ji32 := (i64_w _).trans hji32
                        by_cases c33 : 0 ≤ (ji32)
                        ·rw [if_pos c33] at H; have c33b0 := eq_true c33; have c33b1 : decide (0 ≤ (ji32)) = true := decide_eq_true c33; clear c33
                         by_cases c34 : (ji32) ≤ (wrap64 (x1_2 + 1))
                         ·rw [if_pos c34] at H; have c34b0 := eq_true c34; have c34b1 : decide ((ji32) ≤ (wrap64 (x1_2 + 1))) = true := decide_eq_true c34
                          by_cases c35 : (wrap64 (x1_2 + 1)) ≤ (a0.size : Int)
                          ·rw [if_pos c35] at H; have c35b0 := eq_true c35; have c35b1 : decide ((wrap64 (x1_2 + 1)) ≤ (a0.size : Int)) = true := decide_eq_true c35; simp only [Option.some.injEq, Prod.mk.injEq] at H; obtain ⟨rfl, rfl, rfl, rfl⟩ := H; have p29 : 0 ≤ (x10_3 : Int) := tX; have q29 : x10_3 < (a0.size : Int) := tX; have hx29 := bt_at a0 x10_3; replace p29 := eq_true p29; replace q29 := eq_true q29; go_wp2
                           repeat (go_quiet (fail); try go_wp2)
                           refine bodyPost_ret (results_list (rs := [.tmp 4, .tmp 5, .tmp 6, .tmp 7]) rfl (by simp) (.tmp (.tmp (.tmp (.tmp .nil))))) rfl ?_; exact ⟨by first | rfl | (simp; done) | (simp only [← hji21, ← hji32] <;> (first | rfl | simp)) | (simp [*]; done), tD⟩
                          ·rw [if_neg c35] at H; exact absurd H (by simp)
                         ·rw [if_neg c34] at H; exact absurd H (by simp)
                        ·rw [if_neg c33] at H; exact absurd H (by simp)
                     ·rw [if_neg c28] at H; exact absurd H (by simp)
                    ·rw [if_neg c27] at H; exact absurd H (by simp)
                   ·rw [if_neg c26] at H; have c26b0 : decide (0 < x10_3) = false := decide_eq_false c26; clear c26
                    by_cases c36 : (Int.tmod x9_3 2) = 0
                    ·rw [if_pos c36] at H; have c36b0 : ((Int.tmod x9_3 2) == 0) = true := beq_iff_eq.mpr c36; have c36b1 : ((Int.tmod x9_3 2) != 0) = false := bne_eq_false_iff_eq.mpr c36; clear c36; have H' := sd H; clear H; go_wp2
                     repeat (go_quiet (fail); try go_wp2)
                     go_roundg k3
                     case measure => have := HK1.out; have := HK2.out; have := HK3.out; omega
                     case rel => exact ⟨(wrap64 (x1_2 + 1)), tF, H', ⟨by have := HK1.out; have := HK2.out; have := HK3.out; omega⟩, tD⟩
                    ·rw [if_neg c36] at H; have c36b0 : ((Int.tmod x9_3 2) == 0) = false := beq_eq_false_iff_ne.mpr c36; have c36b1 : ((Int.tmod x9_3 2) != 0) = true := bne_iff_ne.mpr c36; obtain ⟨ji37, hji37⟩ : ∃ j_ : Int, (wrap64 (a1 - 1)) = j_ := ⟨_, rfl⟩
                     replace H : (if 0 ≤ (ji37) then (if (ji37) ≤ (wrap64 (x1_2 + 1)) then (if (wrap64 (x1_2 + 1)) ≤ (a0.size : Int) then (some (wrap64 (x1_2 + 1), a0.extract ((ji37) : Int).toNat ((wrap64 (x1_2 + 1)) : Int).toNat, true, true)) else (none)) else (none)) else (none)) = some (r1, r2, r3, r4) := by first | (rw [hji37] at H; exact H) | (simp only [hji37] at H ⊢; exact H)
                     have hji37w : (IntKind.i64.wrap (a1 - 1)) = ji37 := (i64_w _).trans hji37
                     by_cases c38 : 0 ≤ (ji37)
                     ·rw [if_pos c38] at H; have c38b0 := eq_true c38; have c38b1 : decide (0 ≤ (ji37)) = true := decide_eq_true c38; clear c38
                      by_cases c39 : (ji37) ≤ (wrap64 (x1_2 + 1))
                      ·rw [if_pos c39] at H; have c39b0 := eq_true c39; have c39b1 : decide ((ji37) ≤ (wrap64 (x1_2 + 1))) = true := decide_eq_true c39
                       by_cases c40 : (wrap64 (x1_2 + 1)) ≤ (a0.size : Int)
                       ·rw [if_pos c40] at H; have c40b0 := eq_true c40; have c40b1 : decide ((wrap64 (x1_2 + 1)) ≤ (a0.size : Int)) = true := decide_eq_true c40; simp only [Option.some.injEq, Prod.mk.injEq] at H; obtain ⟨rfl, rfl, rfl, rfl⟩ := H; go_wp2
                        repeat (go_quiet (fail); try go_wp2)
                        refine bodyPost_ret (results_list (rs := [.tmp 4, .tmp 5, .tmp 6, .tmp 7]) rfl (by simp) (.tmp (.tmp (.tmp (.tmp .nil))))) rfl ?_; exact ⟨by first | rfl | (simp; done) | (simp only [← hji21, ← hji37] <;> (first | rfl | simp)) | (simp [*]; done), tD⟩
                       ·rw [if_neg c40] at H; exact absurd H (by simp)
                      ·rw [if_neg c39] at H; exact absurd H (by simp)
                     ·rw [if_neg c38] at H; exact absurd H (by simp)
                ·rw [if_neg c25] at H; have c25b0 : ((bt a0 (ji21)) == 92) = false := beq_eq_false_iff_ne.mpr c25; have c25b1 : ((bt a0 (ji21)) != 92) = true := bne_iff_ne.mpr c25; obtain ⟨ji41, hji41⟩ : ∃ j_ : Int, (wrap64 (a1 - 1)) = j_ := ⟨_, rfl⟩
                 replace H : (if 0 ≤ (ji41) then (if (ji41) ≤ (wrap64 (x1_2 + 1)) then (if (wrap64 (x1_2 + 1)) ≤ (a0.size : Int) then (some (wrap64 (x1_2 + 1), a0.extract ((ji41) : Int).toNat ((wrap64 (x1_2 + 1)) : Int).toNat, true, true)) else (none)) else (none)) else (none)) = some (r1, r2, r3, r4) := by first | (rw [hji41] at H; exact H) | (simp only [hji41] at H ⊢; exact H)
                 have hji41w : (IntKind.i64.wrap (a1 - 1)) = ji41 := (i64_w _).trans hji41
                 by_cases c42 : 0 ≤ (ji41)
                 ·rw [if_pos c42] at H; have c42b0 := eq_true c42; have c42b1 : decide (0 ≤ (ji41)) = true := decide_eq_true c42; clear c42
                  by_cases c43 : (ji41) ≤ (wrap64 (x1_2 + 1))
                  ·rw [if_pos c43] at H; have c43b0 := eq_true c43; have c43b1 : decide ((ji41) ≤ (wrap64 (x1_2 + 1))) = true := decide_eq_true c43
                   by_cases c44 : (wrap64 (x1_2 + 1)) ≤ (a0.size : Int)
                   ·rw [if_pos c44] at H; have c44b0 := eq_true c44; have c44b1 : decide ((wrap64 (x1_2 + 1)) ≤ (a0.size : Int)) = true := decide_eq_true c44; simp only [Option.some.injEq, Prod.mk.injEq] at H; obtain ⟨rfl, rfl, rfl, rfl⟩ := H; have p17 : 0 ≤ (x1_2 : Int) := tX; have q17 : x1_2 < (a0.size : Int) := tX; have hx17 := bt_at a0 x1_2; replace p17 := eq_true p17; replace q17 := eq_true q17; have p19 : 0 ≤ (x1_2 : Int) := tX; have q19 : x1_2 < (a0.size : Int) := tX; have hx19 := bt_at a0 x1_2; replace p19 := eq_true p19; replace q19 := eq_true q19; have p24 : 0 ≤ ((ji21) : Int) := tX; have q24 : (ji21) < (a0.size : Int) := tX; have hx24 := bt_at a0 (ji21); replace p24 := eq_true p24; replace q24 := eq_true q24; go_wp2
                    repeat (go_quiet (fail); try go_wp2)
                    refine bodyPost_ret (results_list (rs := [.tmp 4, .tmp 5, .tmp 6, .tmp 7]) rfl (by simp) (.tmp (.tmp (.tmp (.tmp .nil))))) rfl ?_; exact ⟨by first | rfl | (simp; done) | (simp only [← hji21, ← hji41] <;> (first | rfl | simp)) | (simp [*]; done), tD⟩
                   ·rw [if_neg c44] at H; exact absurd H (by simp)
                  ·rw [if_neg c43] at H; exact absurd H (by simp)
                 ·rw [if_neg c42] at H; exact absurd H (by simp)
               ·rw [if_neg c23] at H; exact absurd H (by simp)
              ·rw [if_neg c22] at H; exact absurd H (by simp)
             ·rw [if_neg c20] at H; have c20b0 : ((bt a0 x1_2) == 34) = false := beq_eq_false_iff_ne.mpr c20; have c20b1 : ((bt a0 x1_2) != 34) = true := bne_iff_ne.mpr c20; have H' := sd H; clear H; have p17 : 0 ≤ (x1_2 : Int) := tX; have q17 : x1_2 < (a0.size : Int) := tX; have hx17 := bt_at a0 x1_2; replace p17 := eq_true p17; replace q17 := eq_true q17; have p19 : 0 ≤ (x1_2 : Int) := tX; have q19 : x1_2 < (a0.size : Int) := tX; have hx19 := bt_at a0 x1_2; replace p19 := eq_true p19; replace q19 := eq_true q19; go_wp2
              repeat (go_quiet (fail); try go_wp2)
              go_roundg k2
              case measure => have := HK1.out; have := HK2.out; omega
              case rel => exact ⟨(wrap64 (x1_2 + 1)), tF, H', ⟨by have := HK1.out; have := HK2.out; omega⟩, tD⟩
           ·rw [if_neg c16] at H; exact absurd H (by simp)
          ·rw [if_neg c15] at H; have c15b0 : decide (x1_2 < (a0.size : Int)) = false := decide_eq_false c15; clear c15; obtain ⟨ji45, hji45⟩ : ∃ j_ : Int, (wrap64 (a1 - 1)) = j_ := ⟨_, rfl⟩
           replace H : (if 0 ≤ (ji45) then (if (ji45) ≤ (a0.size : Int) then (some (x1_2, a0.extract ((ji45) : Int).toNat a0.size, false, false)) else (none)) else (none)) = some (r1, r2, r3, r4) := by first | (rw [hji45] at H; exact H) | (simp only [hji45] at H ⊢; exact H)
           have hji45w : (IntKind.i64.wrap (a1 - 1)) = ji45 := (i64_w _).trans hji45
           by_cases c46 : 0 ≤ (ji45)
           ·rw [if_pos c46] at H; have c46b0 := eq_true c46; have c46b1 : decide (0 ≤ (ji45)) = true := decide_eq_true c46; clear c46
            by_cases c47 : (ji45) ≤ (a0.size : Int)
            ·rw [if_pos c47] at H; have c47b0 := eq_true c47; have c47b1 : decide ((ji45) ≤ (a0.size : Int)) = true := decide_eq_true c47; clear c47; simp only [Option.some.injEq, Prod.mk.injEq] at H; obtain ⟨rfl, rfl, rfl, rfl⟩ := H; go_wp2
             repeat (go_quiet (fail); try go_wp2)
             refine bodyPost_ret (results_list (rs := [.tmp 4, .tmp 5, .tmp 6, .tmp 7]) rfl (by simp) (.tmp (.tmp (.tmp (.tmp .nil))))) rfl ?_; exact ⟨by first | rfl | (simp; done) | (simp only [← hji45] <;> (first | rfl | simp)) | (simp [*]; done), tD⟩
            ·rw [if_neg c47] at H; exact absurd H (by simp)
           ·rw [if_neg c46] at H; exact absurd H (by simp)
       ·rw [if_neg c14] at H; have c14b0 : ((bt a0 x1_1) == 92) = false := beq_eq_false_iff_ne.mpr c14; have c14b1 : ((bt a0 x1_1) != 92) = true := bne_iff_ne.mpr c14; have H' := sd H; clear H; have p5 : 0 ≤ (x1_1 : Int) := tX; have q5 : x1_1 < (a0.size : Int) := tX; have hx5 := bt_at a0 x1_1; replace p5 := eq_true p5; replace q5 := eq_true q5; have p7 : 0 ≤ (x1_1 : Int) := tX; have q7 : x1_1 < (a0.size : Int) := tX; have hx7 := bt_at a0 x1_1; replace p7 := eq_true p7; replace q7 := eq_true q7; have p13 : 0 ≤ (x1_1 : Int) := tX; have q13 : x1_1 < (a0.size : Int) := tX; have hx13 := bt_at a0 x1_1; replace p13 := eq_true p13; replace q13 := eq_true q13; go_wp2
        repeat (go_quiet (fail); try go_wp2)
        go_roundg k1
        case measure => have := HK1.out; omega
        case rel => exact ⟨(wrap64 (x1_1 + 1)), tF, H', ⟨by have := HK1.out; omega⟩, tD⟩
    ·rw [if_neg c4] at H; exact absurd H (by simp)
   ·rw [if_neg c3] at H; have c3b0 : decide (x1_1 < (a0.size : Int)) = false := decide_eq_false c3; clear c3; obtain ⟨ji48, hji48⟩ : ∃ j_ : Int, (wrap64 (a1 - 1)) = j_ := ⟨_, rfl⟩
    replace H : (if 0 ≤ (ji48) then (if (ji48) ≤ (a0.size : Int) then (some (x1_1, a0.extract ((ji48) : Int).toNat a0.size, false, false)) else (none)) else (none)) = some (r1, r2, r3, r4) := by first | (rw [hji48] at H; exact H) | (simp only [hji48] at H ⊢; exact H)
    have hji48w : (IntKind.i64.wrap (a1 - 1)) = ji48 := (i64_w _).trans hji48
    by_cases c49 : 0 ≤ (ji48)
    ·rw [if_pos c49] at H; have c49b0 := eq_true c49; have c49b1 : decide (0 ≤ (ji48)) = true := decide_eq_true c49; clear c49
     by_cases c50 : (ji48) ≤ (a0.size : Int)
     ·rw [if_pos c50] at H; have c50b0 := eq_true c50; have c50b1 : decide ((ji48) ≤ (a0.size : Int)) = true := decide_eq_true c50; clear c50; simp only [Option.some.injEq, Prod.mk.injEq] at H; obtain ⟨rfl, rfl, rfl, rfl⟩ := H; go_wp2
      repeat (go_quiet (fail); try go_wp2)
      refine bodyPost_ret (results_list (rs := [.tmp 4, .tmp 5, .tmp 6, .tmp 7]) rfl (by simp) (.tmp (.tmp (.tmp (.tmp .nil))))) rfl ?_; exact ⟨by first | rfl | (simp; done) | (simp only [← hji48] <;> (first | rfl | simp)) | (simp [*]; done), tD⟩
     ·rw [if_neg c50] at H; exact absurd H (by simp)
    ·rw [if_neg c49] at H; exact absurd H (by simp)
def gjson_parseLiteral.l0 : Nat → ByteArray → Int → Int → Option (Int × ByteArray)
 | 0, _, _, _ => none
 | k + 1, x0, x1, x6 => if x1 < (x0.size : Int) then (if 0 ≤ x1 then (if (bt x0 x1) < 97 then (if 0 ≤ x6 then (if x6 ≤ x1 then (if x1 ≤ (x0.size : Int) then (some (x1, x0.extract (x6 : Int).toNat (x1 : Int).toNat)) else (none)) else (none)) else (none)) else (if (bt x0 x1) > 122 then (if 0 ≤ x6 then (if x6 ≤ x1 then (if x1 ≤ (x0.size : Int) then (some (x1, x0.extract (x6 : Int).toNat (x1 : Int).toNat)) else (none)) else (none)) else (none)) else (gjson_parseLiteral.l0 k x0 (wrap64 (x1 + 1)) x6))) else (none)) else (if 0 ≤ x6 then (if x6 ≤ (x0.size : Int) then (some (x1, x0.extract (x6 : Int).toNat x0.size)) else (none)) else (none))
def gjson_parseLiteral.f (k : Nat) (a0 : ByteArray) (a1 : Int) : Option (Int × ByteArray) := gjson_parseLiteral.l0 k a0 (wrap64 (a1 + 1)) a1
theorem gjson_parseLiteral.calls (k : Nat) (a0 : ByteArray) (a1 : Int) (r1 : Int) (r2 : ByteArray) (w : World) (h : gjson_parseLiteral.f k a0 a1 = some (r1, r2)) :
  Calls Tryz.prog 68 #[.string a0, .int .i64 a1] w fun e w' => e = .returned (.tuple #[.int .i64 r1, .string r2]) ∧ Drawn0 w w' := by
 have H : (gjson_parseLiteral.l0 k a0 (wrap64 (a1 + 1)) a1) = some (r1, r2) := h; clear h; have H' := sd H; clear H; go_enter Tryz.func68, Tryz.ntmps68; go_wp2
 repeat (go_quiet (fail); try go_wp2)
 (try simp only [Act.put, List.setIfInBounds_toArray, List.set_cons_zero, List.set_cons_succ]); go_loopg [1] k (fun kq v1 w' => ∃ (x1_1 : Int), v1 = .int .i64 x1_1 ∧ Aside0 (gjson_parseLiteral.l0 kq a0 x1_1 a1 = some (r1, r2)) ∧ Aside0 (kq ≤ k) ∧ Drawn0 w w')
 case atStart => exact ⟨(wrap64 (a1 + 1)), tF, H', ⟨Nat.le_refl _⟩, tD⟩
 case round =>
  clear H'; obtain ⟨x1_1, rfl, HA, HK1, ⟨m1, rfl⟩⟩ := hrel
  cases gk with
  | zero => exact absurd HA.out (by simp [gjson_parseLiteral.l0])
  | succ k1 =>
   have H := HA.out; clear HA; simp only [gjson_parseLiteral.l0] at H
   by_cases c3 : x1_1 < (a0.size : Int)
   ·rw [if_pos c3] at H; have c3b0 : decide (x1_1 < (a0.size : Int)) = true := decide_eq_true c3; clear c3
    by_cases c4 : 0 ≤ x1_1
    ·rw [if_pos c4] at H; have c4b0 : decide (0 ≤ x1_1) = true := decide_eq_true c4; clear c4
     by_cases c6 : (bt a0 x1_1) < 97
     ·rw [if_pos c6] at H; have c6b0 : decide ((bt a0 x1_1) < 97) = true := decide_eq_true c6; clear c6
      by_cases c7 : 0 ≤ a1
      ·rw [if_pos c7] at H; have c7b0 := eq_true c7; have c7b1 : decide (0 ≤ a1) = true := decide_eq_true c7; clear c7
       by_cases c8 : a1 ≤ x1_1
       ·rw [if_pos c8] at H; have c8b0 := eq_true c8; have c8b1 : decide (a1 ≤ x1_1) = true := decide_eq_true c8; clear c8
        by_cases c9 : x1_1 ≤ (a0.size : Int)
        ·rw [if_pos c9] at H; have c9b0 := eq_true c9; have c9b1 : decide (x1_1 ≤ (a0.size : Int)) = true := decide_eq_true c9; clear c9; simp only [Option.some.injEq, Prod.mk.injEq] at H; obtain ⟨rfl, rfl⟩ := H; have p5 : 0 ≤ (x1_1 : Int) := tX; have q5 : x1_1 < (a0.size : Int) := tX; have hx5 := bt_at a0 x1_1; replace p5 := eq_true p5; replace q5 := eq_true q5; go_wp2
         repeat (go_quiet (fail); try go_wp2)
         go_ret2; exact ⟨tF, tD⟩
        ·rw [if_neg c9] at H; exact absurd H (by simp)
       ·rw [if_neg c8] at H; exact absurd H (by simp)
      ·rw [if_neg c7] at H; exact absurd H (by simp)
     ·rw [if_neg c6] at H; have c6b0 : decide ((bt a0 x1_1) < 97) = false := decide_eq_false c6; clear c6
      by_cases c11 : (bt a0 x1_1) > 122
      ·rw [if_pos c11] at H; have c11b0 : decide (122 < (bt a0 x1_1)) = true := decide_eq_true c11; clear c11
       by_cases c12 : 0 ≤ a1
       ·rw [if_pos c12] at H; have c12b0 := eq_true c12; have c12b1 : decide (0 ≤ a1) = true := decide_eq_true c12; clear c12
        by_cases c13 : a1 ≤ x1_1
        ·rw [if_pos c13] at H; have c13b0 := eq_true c13; have c13b1 : decide (a1 ≤ x1_1) = true := decide_eq_true c13; clear c13
         by_cases c14 : x1_1 ≤ (a0.size : Int)
         ·rw [if_pos c14] at H; have c14b0 := eq_true c14; have c14b1 : decide (x1_1 ≤ (a0.size : Int)) = true := decide_eq_true c14; clear c14; simp only [Option.some.injEq, Prod.mk.injEq] at H; obtain ⟨rfl, rfl⟩ := H; have p5 : 0 ≤ (x1_1 : Int) := tX; have q5 : x1_1 < (a0.size : Int) := tX; have hx5 := bt_at a0 x1_1; replace p5 := eq_true p5; replace q5 := eq_true q5; have p10 : 0 ≤ (x1_1 : Int) := tX; have q10 : x1_1 < (a0.size : Int) := tX; have hx10 := bt_at a0 x1_1; replace p10 := eq_true p10; replace q10 := eq_true q10; go_wp2
          repeat (go_quiet (fail); try go_wp2)
          go_ret2; exact ⟨tF, tD⟩
         ·rw [if_neg c14] at H; exact absurd H (by simp)
        ·rw [if_neg c13] at H; exact absurd H (by simp)
       ·rw [if_neg c12] at H; exact absurd H (by simp)
      ·rw [if_neg c11] at H; have c11b0 : decide (122 < (bt a0 x1_1)) = false := decide_eq_false c11; clear c11; have H' := sd H; clear H; have p5 : 0 ≤ (x1_1 : Int) := tX; have q5 : x1_1 < (a0.size : Int) := tX; have hx5 := bt_at a0 x1_1; replace p5 := eq_true p5; replace q5 := eq_true q5; have p10 : 0 ≤ (x1_1 : Int) := tX; have q10 : x1_1 < (a0.size : Int) := tX; have hx10 := bt_at a0 x1_1; replace p10 := eq_true p10; replace q10 := eq_true q10; go_wp2
       repeat (go_quiet (fail); try go_wp2)
       go_roundg k1
       case measure => have := HK1.out; omega
       case rel => exact ⟨(wrap64 (x1_1 + 1)), tF, H', ⟨by have := HK1.out; omega⟩, tD⟩
    ·rw [if_neg c4] at H; exact absurd H (by simp)
   ·rw [if_neg c3] at H; have c3b0 : decide (x1_1 < (a0.size : Int)) = false := decide_eq_false c3; clear c3
    by_cases c15 : 0 ≤ a1
    ·rw [if_pos c15] at H; have c15b0 := eq_true c15; have c15b1 : decide (0 ≤ a1) = true := decide_eq_true c15; clear c15
     by_cases c16 : a1 ≤ (a0.size : Int)
     ·rw [if_pos c16] at H; have c16b0 := eq_true c16; have c16b1 : decide (a1 ≤ (a0.size : Int)) = true := decide_eq_true c16; clear c16; simp only [Option.some.injEq, Prod.mk.injEq] at H; obtain ⟨rfl, rfl⟩ := H; go_wp2
      repeat (go_quiet (fail); try go_wp2)
      go_ret2; exact ⟨tF, tD⟩
     ·rw [if_neg c16] at H; exact absurd H (by simp)
    ·rw [if_neg c15] at H; exact absurd H (by simp)
end Go.Proofs.YtdacgdjjdifneaaGreatDoor.PFnGjFlattenOften
