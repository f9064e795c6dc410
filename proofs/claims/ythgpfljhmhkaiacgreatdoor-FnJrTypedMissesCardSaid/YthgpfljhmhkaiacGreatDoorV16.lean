/- Walks of the functions that the law calls, printed by program and rewritten. -/
import Derived.Test.YthgpfljhmhkaiacGreatDoorV0
set_option linter.all false
namespace Go.Proofs.YthgpfljhmhkaiacGreatDoor.PFnJrTypedMisses
open Go.RowKit Go.Proofs.YthgpfljhmhkaiacGreatDoorW.PrintWords Go.Proofs.YthgpfljhmhkaiacGreatDoorW.PrintLast Go.Proofs.YthgpfljhmhkaiacGreatDoorW.PrintMore
attribute [local go_sem] max2_int min2_int max_two min_two max_three min_three max_four min_four
/-! ### jsonparser_tokenEnd: function 89 -/
def jsonparser_tokenEnd.l0 : Nat → List Int → List Int → Int → Int → Option (Int)
 | 0, _, _, _, _ => none
 | k + 1, x0, x5, x6, x7 => if x7 < x6 then (if 0 ≤ x7 then (if x7 < (x5.length : Int) then (if (rd x5 x7) = 32 then (some x7) else (if (rd x5 x7) = 10 then (some x7) else (if (rd x5 x7) = 13 then (some x7) else (if (rd x5 x7) = 9 then (some x7) else (if (rd x5 x7) = 44 then (some x7) else (if (rd x5 x7) = 125 then (some x7) else (if (rd x5 x7) = 93 then (some x7) else (jsonparser_tokenEnd.l0 k x0 x5 x6 (wrap64 (x7 + 1)))))))))) else (none)) else (none)) else (some (x0.length : Int))
def jsonparser_tokenEnd.f (k : Nat) (l0 : List Int) : Option (Int) := jsonparser_tokenEnd.l0 k l0 l0 (l0.length : Int) 0
theorem tl16_0 {P : Prop} (h : P := by
 obtain rfl := Option.some.inj H
 have a0 : 0 ≤ (x7_1 : Int) := of_decide_eq_true (by first | (with_reducible assumption) | assumption)
 have a1 : x7_1 < (l0.length : Int) := of_decide_eq_true (by first | (with_reducible assumption) | assumption)
 obtain ⟨ad541, e9001, a2⟩ := Kd.at_int HR0.out x7_1 a0 a1
 cases e9001
 replace a0 := eq_true a0
 replace a1 := eq_true a1
 go_wp2
 go_ret
 exact ⟨by first | rfl | (simp; done) | (simp [*]; done), by repeat (first | exact Drawn0.refl _ | apply Drawn0.step)⟩) : P := h
set_option maxHeartbeats 8000000 in
set_option maxRecDepth 100000 in
theorem jsonparser_tokenEnd.calls (k : Nat) (A0 : Option Addr) (c0 : Nat) (l0 : List Int) (r : Int) (w : World) (hr0 : Kd.C (Kd.int .u8) w A0 l0.length l0) (hc0 : l0.length ≤ c0) (h : jsonparser_tokenEnd.f k l0 = some r) :
  Calls Tryz.prog 89 #[.slice A0 l0.length c0] w fun e w' => e = .returned (.int .i64 r) ∧ Drawn0 w w' := by
 have HR0 := sd hr0
 have HC0 := sd hc0
 clear hr0 hc0
 have H : (jsonparser_tokenEnd.l0 k l0 l0 (l0.length : Int) 0) = some r := h
 clear h
 have H' := sd H
 clear H
 go_enter Tryz.func89, Tryz.ntmps89
 go_wp2
 (try simp only [Act.put, List.setIfInBounds_toArray, List.set_cons_zero, List.set_cons_succ])
 go_loopg [7] k (fun kq v7 w' => ∃ (x7_1 : Int), v7 = .int .i64 x7_1 ∧ Aside0 (jsonparser_tokenEnd.l0 kq l0 l0 (l0.length : Int) x7_1 = some r) ∧ Aside0 (kq ≤ k) ∧ Drawn0 w w')
 case atStart => exact ⟨(0), tF, H', ⟨Nat.le_refl _⟩, by repeat (first | exact Drawn0.refl _ | apply Drawn0.step)⟩
 case round =>
  clear H'
  obtain ⟨x7_1, rfl, HA, HK1, ⟨m1, rfl⟩⟩ := hrel
  cases gk with
  | zero => exact absurd HA.out (by simp [jsonparser_tokenEnd.l0])
  | succ k1 =>
   have H := HA.out
   clear HA
   simp only [jsonparser_tokenEnd.l0] at H
   by_cases c2 : x7_1 < (l0.length : Int)
   ·rw [if_pos c2] at H
    have c2b0 : decide (x7_1 < (l0.length : Int)) = true := decide_eq_true c2
    clear c2
    by_cases c3 : 0 ≤ x7_1
    ·rw [if_pos c3] at H
     have c3b0 : decide (0 ≤ x7_1) = true := decide_eq_true c3
     clear c3
     by_cases c4 : x7_1 < (l0.length : Int)
     ·rw [if_pos c4] at H
      have c4b0 : decide (x7_1 < (l0.length : Int)) = true := decide_eq_true c4
      clear c4
      by_cases c5 : (rd l0 x7_1) = 32
      ·rw [if_pos c5] at H
       have c5b0 : ((rd l0 x7_1) == 32) = true := beq_iff_eq.mpr c5
       have c5b1 : ((rd l0 x7_1) != 32) = false := bne_eq_false_iff_eq.mpr c5
       clear c5
       exact tl16_0
      ·rw [if_neg c5] at H
       have c5b0 : ((rd l0 x7_1) == 32) = false := beq_eq_false_iff_ne.mpr c5
       have c5b1 : ((rd l0 x7_1) != 32) = true := bne_iff_ne.mpr c5
       by_cases c6 : (rd l0 x7_1) = 10
       ·rw [if_pos c6] at H
        have c6b0 : ((rd l0 x7_1) == 10) = true := beq_iff_eq.mpr c6
        have c6b1 : ((rd l0 x7_1) != 10) = false := bne_eq_false_iff_eq.mpr c6
        clear c6
        exact tl16_0
       ·rw [if_neg c6] at H
        have c6b0 : ((rd l0 x7_1) == 10) = false := beq_eq_false_iff_ne.mpr c6
        have c6b1 : ((rd l0 x7_1) != 10) = true := bne_iff_ne.mpr c6
        by_cases c7 : (rd l0 x7_1) = 13
        ·rw [if_pos c7] at H
         have c7b0 : ((rd l0 x7_1) == 13) = true := beq_iff_eq.mpr c7
         have c7b1 : ((rd l0 x7_1) != 13) = false := bne_eq_false_iff_eq.mpr c7
         clear c7
         exact tl16_0
        ·rw [if_neg c7] at H
         have c7b0 : ((rd l0 x7_1) == 13) = false := beq_eq_false_iff_ne.mpr c7
         have c7b1 : ((rd l0 x7_1) != 13) = true := bne_iff_ne.mpr c7
         by_cases c8 : (rd l0 x7_1) = 9
         ·rw [if_pos c8] at H
          have c8b0 : ((rd l0 x7_1) == 9) = true := beq_iff_eq.mpr c8
          have c8b1 : ((rd l0 x7_1) != 9) = false := bne_eq_false_iff_eq.mpr c8
          clear c8
          exact tl16_0
         ·rw [if_neg c8] at H
          have c8b0 : ((rd l0 x7_1) == 9) = false := beq_eq_false_iff_ne.mpr c8
          have c8b1 : ((rd l0 x7_1) != 9) = true := bne_iff_ne.mpr c8
          by_cases c9 : (rd l0 x7_1) = 44
          ·rw [if_pos c9] at H
           have c9b0 : ((rd l0 x7_1) == 44) = true := beq_iff_eq.mpr c9
           have c9b1 : ((rd l0 x7_1) != 44) = false := bne_eq_false_iff_eq.mpr c9
           clear c9
           exact tl16_0
          ·rw [if_neg c9] at H
           have c9b0 : ((rd l0 x7_1) == 44) = false := beq_eq_false_iff_ne.mpr c9
           have c9b1 : ((rd l0 x7_1) != 44) = true := bne_iff_ne.mpr c9
           by_cases c10 : (rd l0 x7_1) = 125
           ·rw [if_pos c10] at H
            have c10b0 : ((rd l0 x7_1) == 125) = true := beq_iff_eq.mpr c10
            have c10b1 : ((rd l0 x7_1) != 125) = false := bne_eq_false_iff_eq.mpr c10
            clear c10
            exact tl16_0
           ·rw [if_neg c10] at H
            have c10b0 : ((rd l0 x7_1) == 125) = false := beq_eq_false_iff_ne.mpr c10
            have c10b1 : ((rd l0 x7_1) != 125) = true := bne_iff_ne.mpr c10
            by_cases c11 : (rd l0 x7_1) = 93
            ·rw [if_pos c11] at H
             have c11b0 : ((rd l0 x7_1) == 93) = true := beq_iff_eq.mpr c11
             have c11b1 : ((rd l0 x7_1) != 93) = false := bne_eq_false_iff_eq.mpr c11
             clear c11
             exact tl16_0
            ·rw [if_neg c11] at H
             have c11b0 : ((rd l0 x7_1) == 93) = false := beq_eq_false_iff_ne.mpr c11
             have c11b1 : ((rd l0 x7_1) != 93) = true := bne_iff_ne.mpr c11
             have H' := sd H
             clear H
             have a0 : 0 ≤ (x7_1 : Int) := of_decide_eq_true (by first | (with_reducible assumption) | assumption)
             have a1 : x7_1 < (l0.length : Int) := of_decide_eq_true (by first | (with_reducible assumption) | assumption)
             obtain ⟨ad541, e541, a2⟩ := Kd.at_int HR0.out x7_1 a0 a1
             cases e541
             replace a0 := eq_true a0
             replace a1 := eq_true a1
             go_wp2
             go_roundg k1
             case measure => have := HK1.out; omega
             case rel => exact ⟨(wrap64 (x7_1 + 1)), tF, H', ⟨by have := HK1.out; omega⟩, by repeat (first | exact Drawn0.refl _ | apply Drawn0.step)⟩
     ·rw [if_neg c4] at H
      exact absurd H (by simp)
    ·rw [if_neg c3] at H
     exact absurd H (by simp)
   ·rw [if_neg c2] at H
    have c2b0 : decide (x7_1 < (l0.length : Int)) = false := decide_eq_false c2
    clear c2
    obtain rfl := Option.some.inj H
    go_wp2
    go_ret
    exact ⟨by first | rfl | (simp; done) | (simp [*]; done), by repeat (first | exact Drawn0.refl _ | apply Drawn0.step)⟩
end Go.Proofs.YthgpfljhmhkaiacGreatDoor.PFnJrTypedMisses
