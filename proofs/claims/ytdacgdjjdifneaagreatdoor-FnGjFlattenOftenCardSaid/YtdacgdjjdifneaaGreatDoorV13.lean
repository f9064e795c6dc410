/- Walks of functions that the law calls, printed and rewritten by program. -/
import Derived.Test.YtdacgdjjdifneaaGreatDoorV0
set_option linter.all false
set_option maxHeartbeats 16000000
set_option maxRecDepth 100000
namespace Go.Proofs.YtdacgdjjdifneaaGreatDoor.PFnGjFlattenOften
open Go.RowKit Go.Proofs.YtdacgdjjdifneaaGreatDoorW.PrintWords Go.Proofs.YtdacgdjjdifneaaGreatDoorW.PrintLast Go.Proofs.YtdacgdjjdifneaaGreatDoorW.PrintMore
attribute [local go_sem] max2_int min2_int max_two min_two max_three min_three max_four min_four
def gjson_parseNumber.l0 : Nat → ByteArray → Int → Int → Option (Int × ByteArray)
 | 0, _, _, _ => none
 | k + 1, x0, x1, x6 => if x1 < (x0.size : Int) then (if 0 ≤ x1 then (if (bt x0 x1) ≤ 32 then (if 0 ≤ x6 then (if x6 ≤ x1 then (if x1 ≤ (x0.size : Int) then (some (x1, x0.extract (x6 : Int).toNat (x1 : Int).toNat)) else (none)) else (none)) else (none)) else (if (bt x0 x1) = 44 then (if 0 ≤ x6 then (if x6 ≤ x1 then (if x1 ≤ (x0.size : Int) then (some (x1, x0.extract (x6 : Int).toNat (x1 : Int).toNat)) else (none)) else (none)) else (none)) else (if (bt x0 x1) = 93 then (if 0 ≤ x6 then (if x6 ≤ x1 then (if x1 ≤ (x0.size : Int) then (some (x1, x0.extract (x6 : Int).toNat (x1 : Int).toNat)) else (none)) else (none)) else (none)) else (if (bt x0 x1) = 125 then (if 0 ≤ x6 then (if x6 ≤ x1 then (if x1 ≤ (x0.size : Int) then (some (x1, x0.extract (x6 : Int).toNat (x1 : Int).toNat)) else (none)) else (none)) else (none)) else (gjson_parseNumber.l0 k x0 (wrap64 (x1 + 1)) x6))))) else (none)) else (if 0 ≤ x6 then (if x6 ≤ (x0.size : Int) then (some (x1, x0.extract (x6 : Int).toNat x0.size)) else (none)) else (none))
def gjson_parseNumber.f (k : Nat) (a0 : ByteArray) (a1 : Int) : Option (Int × ByteArray) := gjson_parseNumber.l0 k a0 (wrap64 (a1 + 1)) a1
theorem gjson_parseNumber.calls (k : Nat) (a0 : ByteArray) (a1 : Int) (r1 : Int) (r2 : ByteArray) (w : World) (h : gjson_parseNumber.f k a0 a1 = some (r1, r2)) :
  Calls Tryz.prog 69 #[.string a0, .int .i64 a1] w fun e w' => e = .returned (.tuple #[.int .i64 r1, .string r2]) ∧ Drawn0 w w' := by
 have H : (gjson_parseNumber.l0 k a0 (wrap64 (a1 + 1)) a1) = some (r1, r2) := h; clear h; have H' := sd H; clear H; go_enter Tryz.func69, Tryz.ntmps69; go_wp2
 repeat (go_quiet (fail); try go_wp2)
 (try simp only [Act.put, List.setIfInBounds_toArray, List.set_cons_zero, List.set_cons_succ]); go_loopg [1] k (fun kq v1 w' => ∃ (x1_1 : Int), v1 = .int .i64 x1_1 ∧ Aside0 (gjson_parseNumber.l0 kq a0 x1_1 a1 = some (r1, r2)) ∧ Aside0 (kq ≤ k) ∧ Drawn0 w w')
 case atStart => exact ⟨(wrap64 (a1 + 1)), tF, H', ⟨Nat.le_refl _⟩, tD⟩
 case round =>
  clear H'; obtain ⟨x1_1, rfl, HA, HK1, ⟨m1, rfl⟩⟩ := hrel
  cases gk with
  | zero => exact absurd HA.out (by simp [gjson_parseNumber.l0])
  | succ k1 =>
   have H := HA.out; clear HA; simp only [gjson_parseNumber.l0] at H
   by_cases c3 : x1_1 < (a0.size : Int)
   ·rw [if_pos c3] at H; have c3b0 : decide (x1_1 < (a0.size : Int)) = true := decide_eq_true c3; clear c3
    by_cases c4 : 0 ≤ x1_1
    ·rw [if_pos c4] at H; have c4b0 : decide (0 ≤ x1_1) = true := decide_eq_true c4; clear c4
     by_cases c6 : (bt a0 x1_1) ≤ 32
     ·rw [if_pos c6] at H; have c6b0 : decide ((bt a0 x1_1) ≤ 32) = true := decide_eq_true c6; clear c6
      by_cases c7 : 0 ≤ a1
      ·rw [if_pos c7] at H; have c7b0 := eq_true c7; have c7b1 : decide (0 ≤ a1) = true := decide_eq_true c7; clear c7
       by_cases c8 : a1 ≤ x1_1
       ·rw [if_pos c8] at H; have c8b0 := eq_true c8; have c8b1 : decide (a1 ≤ x1_1) = true := decide_eq_true c8; clear c8
        by_cases c9 : x1_1 ≤ (a0.size : Int)
        ·rw [if_pos c9] at H; have c9b0 := eq_true c9; have c9b1 : decide (x1_1 ≤ (a0.size : Int)) = true := decide_eq_true c9; clear c9; simp only [Option.some.injEq, Prod.mk.injEq] at H; obtain ⟨rfl, rfl⟩ := H; have p5 : 0 ≤ (x1_1 : Int) := tX; have q5 : x1_1 < (a0.size : Int) := tX; have hx5 := bt_at a0 x1_1; replace p5 := eq_true p5; replace q5 := eq_true q5; go_wp2
         repeat (go_quiet (fail); try go_wp2)
         go_ret2; exact ⟨tF, tD⟩
        ·rw [if_neg c9] at H; exact absurd H (by simp)
       ·rw [if_neg c8] at H; exact absurd H (by simp)
      ·rw [if_neg c7] at H; exact absurd H (by simp)
     ·rw [if_neg c6] at H; have c6b0 : decide ((bt a0 x1_1) ≤ 32) = false := decide_eq_false c6; clear c6
      by_cases c11 : (bt a0 x1_1) = 44
      ·rw [if_pos c11] at H; have c11b0 : ((bt a0 x1_1) == 44) = true := beq_iff_eq.mpr c11; have c11b1 : ((bt a0 x1_1) != 44) = false := bne_eq_false_iff_eq.mpr c11; clear c11
       by_cases c12 : 0 ≤ a1
       ·rw [if_pos c12] at H; have c12b0 := eq_true c12; have c12b1 : decide (0 ≤ a1) = true := decide_eq_true c12; clear c12
        by_cases c13 : a1 ≤ x1_1
        ·rw [if_pos c13] at H; have c13b0 := eq_true c13; have c13b1 : decide (a1 ≤ x1_1) = true := decide_eq_true c13; clear c13
         by_cases c14 : x1_1 ≤ (a0.size : Int)
         ·rw [if_pos c14] at H; have c14b0 := eq_true c14; have c14b1 : decide (x1_1 ≤ (a0.size : Int)) = true := decide_eq_true c14; clear c14; simp only [Option.some.injEq, Prod.mk.injEq] at H; obtain ⟨rfl, rfl⟩ := H; have p5 : 0 ≤ (x1_1 : Int) := tX; have q5 : x1_1 < (a0.size : Int) := tX; have hx5 := bt_at a0 x1_1; replace p5 := eq_true p5; replace q5 := eq_true q5; have p10 : 0 ≤ (x1_1 : Int) := tX; have q10 : x1_1 < (a0.size : Int) := tX; have hx10 := bt_at a0 x1_1; replace p10 := eq_true p10; replace q10 := eq_true q10; go_wp2
          repeat (go_quiet (fail); try go_wp2)
          go_ret2; exact ⟨tF, tD⟩
         ·rw [if_neg c14] at H; exact absurd H (by simp)
        ·rw [if_neg c13] at H; exact absurd H (by simp)
       ·rw [if_neg c12] at H; exact absurd H (by simp)
      ·rw [if_neg c11] at H; have c11b0 : ((bt a0 x1_1) == 44) = false := beq_eq_false_iff_ne.mpr c11; have c11b1 : ((bt a0 x1_1) != 44) = true := bne_iff_ne.mpr c11
       by_cases c16 : (bt a0 x1_1) = 93
       ·rw [if_pos c16] at H; have c16b0 : ((bt a0 x1_1) == 93) = true := beq_iff_eq.mpr c16; have c16b1 : ((bt a0 x1_1) != 93) = false := bne_eq_false_iff_eq.mpr c16; clear c16
        by_cases c17 : 0 ≤ a1
        ·rw [if_pos c17] at H; have c17b0 := eq_true c17; have c17b1 : decide (0 ≤ a1) = true := decide_eq_true c17; clear c17
         by_cases c18 : a1 ≤ x1_1
         ·rw [if_pos c18] at H; have c18b0 := eq_true c18; have c18b1 : decide (a1 ≤ x1_1) = true := decide_eq_true c18; clear c18
          by_cases c19 : x1_1 ≤ (a0.size : Int)
          ·rw [if_pos c19] at H; have c19b0 := eq_true c19; have c19b1 : decide (x1_1 ≤ (a0.size : Int)) = true := decide_eq_true c19; clear c19; simp only [Option.some.injEq, Prod.mk.injEq] at H; obtain ⟨rfl, rfl⟩ := H; have p5 : 0 ≤ (x1_1 : Int) := tX; have q5 : x1_1 < (a0.size : Int) := tX; have hx5 := bt_at a0 x1_1; replace p5 := eq_true p5; replace q5 := eq_true q5; have p10 : 0 ≤ (x1_1 : Int) := tX; have q10 : x1_1 < (a0.size : Int) := tX; have hx10 := bt_at a0 x1_1; replace p10 := eq_true p10; replace q10 := eq_true q10; have p15 : 0 ≤ (x1_1 : Int) := tX; have q15 : x1_1 < (a0.size : Int) := tX; have hx15 := bt_at a0 x1_1; replace p15 := eq_true p15; replace q15 := eq_true q15; go_wp2
           repeat (go_quiet (fail); try go_wp2)
           go_ret2; exact ⟨tF, tD⟩
          ·rw [if_neg c19] at H; exact absurd H (by simp)
         ·rw [if_neg c18] at H; exact absurd H (by simp)
        ·rw [if_neg c17] at H; exact absurd H (by simp)
       ·rw [if_neg c16] at H; have c16b0 : ((bt a0 x1_1) == 93) = false := beq_eq_false_iff_ne.mpr c16; have c16b1 : ((bt a0 x1_1) != 93) = true := bne_iff_ne.mpr c16
        by_cases c21 : (bt a0 x1_1) = 125
        ·rw [if_pos c21] at H; have c21b0 : ((bt a0 x1_1) == 125) = true := beq_iff_eq.mpr c21; have c21b1 : ((bt a0 x1_1) != 125) = false := bne_eq_false_iff_eq.mpr c21; clear c21
         by_cases c22 : 0 ≤ a1
         ·rw [if_pos c22] at H; have c22b0 := eq_true c22; have c22b1 : decide (0 ≤ a1) = true := decide_eq_true c22; clear c22
          by_cases c23 : a1 ≤ x1_1
          ·rw [if_pos c23] at H; have c23b0 := eq_true c23; have c23b1 : decide (a1 ≤ x1_1) = true := decide_eq_true c23; clear c23
           by_cases c24 : x1_1 ≤ (a0.size : Int)
           ·rw [if_pos c24] at H; have c24b0 := eq_true c24; have c24b1 : decide (x1_1 ≤ (a0.size : Int)) = true := decide_eq_true c24; clear c24; simp only [Option.some.injEq, Prod.mk.injEq] at H; obtain ⟨rfl, rfl⟩ := H; have p5 : 0 ≤ (x1_1 : Int) := tX; have q5 : x1_1 < (a0.size : Int) := tX; have hx5 := bt_at a0 x1_1; replace p5 := eq_true p5; replace q5 := eq_true q5; have p10 : 0 ≤ (x1_1 : Int) := tX; have q10 : x1_1 < (a0.size : Int) := tX; have hx10 := bt_at a0 x1_1; replace p10 := eq_true p10; replace q10 := eq_true q10; have p15 : 0 ≤ (x1_1 : Int) := tX; have q15 : x1_1 < (a0.size : Int) := tX; have hx15 := bt_at a0 x1_1; replace p15 := eq_true p15; replace q15 := eq_true q15; have p20 : 0 ≤ (x1_1 : Int) := tX; have q20 : x1_1 < (a0.size : Int) := tX; have hx20 := bt_at a0 x1_1; replace p20 := eq_true p20; replace q20 := eq_true q20; go_wp2
            repeat (go_quiet (fail); try go_wp2)
            go_ret2; exact ⟨tF, tD⟩
           ·rw [if_neg c24] at H; exact absurd H (by simp)
          ·rw [if_neg c23] at H; exact absurd H (by simp)
         ·rw [if_neg c22] at H; exact absurd H (by simp)
        ·rw [if_neg c21] at H; have c21b0 : ((bt a0 x1_1) == 125) = false := beq_eq_false_iff_ne.mpr c21; have c21b1 : ((bt a0 x1_1) != 125) = true := bne_iff_ne.mpr c21; have H' := sd H; clear H; have p5 : 0 ≤ (x1_1 : Int) := tX; have q5 : x1_1 < (a0.size : Int) := tX; have hx5 := bt_at a0 x1_1; replace p5 := eq_true p5; replace q5 := eq_true q5; have p10 : 0 ≤ (x1_1 : Int) := tX; have q10 : x1_1 < (a0.size : Int) := tX; have hx10 := bt_at a0 x1_1; replace p10 := eq_true p10; replace q10 := eq_true q10; have p15 : 0 ≤ (x1_1 : Int) := tX; have q15 : x1_1 < (a0.size : Int) := tX; have hx15 := bt_at a0 x1_1; replace p15 := eq_true p15; replace q15 := eq_true q15; have p20 : 0 ≤ (x1_1 : Int) := tX; have q20 : x1_1 < (a0.size : Int) := tX; have hx20 := bt_at a0 x1_1; replace p20 := eq_true p20; replace q20 := eq_true q20; go_wp2
         repeat (go_quiet (fail); try go_wp2)
         go_roundg k1
         case measure => have := HK1.out; omega
         case rel => exact ⟨(wrap64 (x1_1 + 1)), tF, H', ⟨by have := HK1.out; omega⟩, tD⟩
    ·rw [if_neg c4] at H; exact absurd H (by simp)
   ·rw [if_neg c3] at H; have c3b0 : decide (x1_1 < (a0.size : Int)) = false := decide_eq_false c3; clear c3
    by_cases c25 : 0 ≤ a1
    ·rw [if_pos c25] at H; have c25b0 := eq_true c25; have c25b1 : decide (0 ≤ a1) = true := decide_eq_true c25; clear c25
     by_cases c26 : a1 ≤ (a0.size : Int)
     ·rw [if_pos c26] at H; have c26b0 := eq_true c26; have c26b1 : decide (a1 ≤ (a0.size : Int)) = true := decide_eq_true c26; clear c26; simp only [Option.some.injEq, Prod.mk.injEq] at H; obtain ⟨rfl, rfl⟩ := H; go_wp2
      repeat (go_quiet (fail); try go_wp2)
      go_ret2; exact ⟨tF, tD⟩
     ·rw [if_neg c26] at H; exact absurd H (by simp)
    ·rw [if_neg c25] at H; exact absurd H (by simp)
def gjson_bytesString.f (l0 : List Int) : Option (ByteArray) := some (strOfNums l0)
theorem gjson_bytesString.calls (A0 : Option Addr) (c0 : Nat) (l0 : List Int) (r : ByteArray) (w : World) (hr0 : Kd.C (Kd.int .u8) w A0 l0.length l0) (hc0 : l0.length ≤ c0) (h : gjson_bytesString.f l0 = some r) :
  Calls Tryz.prog 44 #[.slice A0 l0.length c0] w fun e w' => e = .returned (.string r) ∧ Drawn0 w w' := by
 have HR0 := sd hr0; have HC0 := sd hc0; clear hr0 hc0; have H : (some (strOfNums l0)) = some r := h; clear h; obtain rfl := Option.some.inj H; have hcv2 := Kd.C_string (P := Tryz.prog) (A := A0) (c := c0) Tryz.underlying69 Tryz.underlying5 Tryz.underlying9 HR0.out; go_enter Tryz.func44, Tryz.ntmps44; go_wp2; go_ret; exact ⟨tF, tD⟩
end Go.Proofs.YtdacgdjjdifneaaGreatDoor.PFnGjFlattenOften
