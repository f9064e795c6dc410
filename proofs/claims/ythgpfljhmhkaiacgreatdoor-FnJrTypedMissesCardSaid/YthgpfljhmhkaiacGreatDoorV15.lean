/- Walks of the functions that the law calls, printed by program and rewritten. -/
import Derived.Test.YthgpfljhmhkaiacGreatDoorV0
import Derived.Test.YthgpfljhmhkaiacGreatDoorV12
set_option linter.all false
namespace Go.Proofs.YthgpfljhmhkaiacGreatDoor.PFnJrTypedMisses
open Go.RowKit Go.Proofs.YthgpfljhmhkaiacGreatDoorW.PrintWords Go.Proofs.YthgpfljhmhkaiacGreatDoorW.PrintLast Go.Proofs.YthgpfljhmhkaiacGreatDoorW.PrintMore
attribute [local go_sem] max2_int min2_int max_two min_two max_three min_three max_four min_four
/-! ### jsonparser_blockEndConfig: function 81 -/
mutual
def jsonparser_blockEndConfig.l0 : Nat → List Int → Int → Int → Int → Int → Int → Bool → Bool → Int → Option (Int)
 | 0, _, _, _, _, _, _, _, _, _ => none
 | k + 1, x1, x2, x3, x9, x10, x11, a1, a4, a5 => if x10 < x11 then (jsonparser_blockEndConfig.l1 k x1 x2 x3 x9 x10 x11 a1 a4 a5) else (some (-1))
def jsonparser_blockEndConfig.j2 : Nat → List Int → Int → Int → Int → Int → Int → Bool → Bool → Int → Option (Int)
 | 0, _, _, _, _, _, _, _, _, _ => none
 | k + 1, x1, x2, x3, x9, x10, x11, a1, a4, a5 => if x10 ≥ x11 then (some (-1)) else (if 0 ≤ x10 then (if x10 < (x1.length : Int) then (if (rd x1 x10) = 34 then (jsonparser_blockEndConfig.j3 k x1 x2 x3 x9 x10 x11 (rd x1 x10) ((rd x1 x10) == 34) a1 a4 a5) else (jsonparser_blockEndConfig.j3 k x1 x2 x3 x9 x10 x11 (rd x1 x10) ((rd x1 x10) == 39) a1 a4 a5)) else (none)) else (none))
def jsonparser_blockEndConfig.j3 : Nat → List Int → Int → Int → Int → Int → Int → Int → Bool → Bool → Bool → Int → Option (Int)
 | 0, _, _, _, _, _, _, _, _, _, _, _ => none
 | k + 1, x1, x2, x3, x9, x10, x11, x52, x53, a1, a4, a5 => if x53 = true then (if 0 ≤ x10 then (if x10 < (x1.length : Int) then (if (rd x1 x10) = 39 then (jsonparser_blockEndConfig.j4 k x1 x2 x3 x9 x10 x11 (rd x1 x10) (!a1) a1 a4 a5) else (jsonparser_blockEndConfig.j4 k x1 x2 x3 x9 x10 x11 (rd x1 x10) false a1 a4 a5)) else (none)) else (none)) else (if x52 = x2 then (jsonparser_blockEndConfig.l0 k x1 x2 x3 (wrap64 (x9 + 1)) (wrap64 (x10 + 1)) x11 a1 a4 a5) else (if x52 = x3 then (if (wrap64 (x9 - 1)) = 0 then (some (wrap64 (x10 + 1))) else (jsonparser_blockEndConfig.l0 k x1 x2 x3 (wrap64 (x9 - 1)) (wrap64 (x10 + 1)) x11 a1 a4 a5)) else (jsonparser_blockEndConfig.l0 k x1 x2 x3 x9 (wrap64 (x10 + 1)) x11 a1 a4 a5)))
def jsonparser_blockEndConfig.j4 : Nat → List Int → Int → Int → Int → Int → Int → Int → Bool → Bool → Bool → Int → Option (Int)
 | 0, _, _, _, _, _, _, _, _, _, _, _ => none
 | k + 1, x1, x2, x3, x9, x10, x11, x13, x66, a1, a4, a5 => if x66 = true then (jsonparser_blockEndConfig.l0 k x1 x2 x3 x9 (wrap64 (x10 + 1)) x11 a1 a4 a5) else (if 0 ≤ (wrap64 (x10 + 1)) then (if (wrap64 (x10 + 1)) ≤ (x1.length : Int) then ((jsonparser_stringEndConfig.f k a1 a4 a5 (x1.drop ((wrap64 (x10 + 1)) : Int).toNat) x13).bind fun b1 => (if b1.1 = (-1) then (some (-1)) else (jsonparser_blockEndConfig.l0 k x1 x2 x3 x9 (wrap64 ((wrap64 (x10 + b1.1)) + 1)) x11 a1 a4 a5))) else (none)) else (none))
def jsonparser_blockEndConfig.l1 : Nat → List Int → Int → Int → Int → Int → Int → Bool → Bool → Int → Option (Int)
 | 0, _, _, _, _, _, _, _, _, _ => none
 | k + 1, x1, x2, x3, x9, x10, x11, a1, a4, a5 => if x10 < x11 then (if 0 ≤ x10 then (if x10 < (x1.length : Int) then (if (rd x1 x10) ≤ 32 then (jsonparser_blockEndConfig.l1 k x1 x2 x3 x9 (wrap64 (x10 + 1)) x11 a1 a4 a5) else (if (rd x1 x10) > 92 then (if (rd x1 x10) = x2 then (jsonparser_blockEndConfig.j2 k x1 x2 x3 x9 x10 x11 a1 a4 a5) else (if (rd x1 x10) = x3 then (jsonparser_blockEndConfig.j2 k x1 x2 x3 x9 x10 x11 a1 a4 a5) else (jsonparser_blockEndConfig.l1 k x1 x2 x3 x9 (wrap64 (x10 + 1)) x11 a1 a4 a5))) else (jsonparser_blockEndConfig.j2 k x1 x2 x3 x9 x10 x11 a1 a4 a5))) else (none)) else (none)) else (jsonparser_blockEndConfig.j2 k x1 x2 x3 x9 x10 x11 a1 a4 a5)
end
def jsonparser_blockEndConfig.f (k : Nat) (a0_0 : Bool) (a0_1 : Bool) (a0_2 : Int) (l1 : List Int) (a2 : Int) (a3 : Int) : Option (Int) := jsonparser_blockEndConfig.l0 k l1 a2 a3 0 0 (l1.length : Int) a0_0 a0_1 a0_2
def jsonparser_blockEndConfig.T17 : Bool × List (List Nat × List Nat) := (true, [([], []), ([], []), ([], []), ([2], [2]), ([1, 3], [1, 3]), ([], []), ([0, 4, 5], [0, 4, 5]), ([6], [6]), ([7], [7]), ([7], [7]), ([8, 6, 0, 1, 2, 3, 4, 5, 6, 7, 8], [8]), ([9, 10, 0, 1, 2, 3, 4, 5, 6, 7, 8, 9, 10], [9])])
def jsonparser_blockEndConfig.B17 : List Nat := [0, 0, 0, 4, 14, 0, 63, 127, 255, 255, 511, 2047]
theorem jsonparser_blockEndConfig.tab17 : rtab .any (opsOf Tryz.f81 17) = jsonparser_blockEndConfig.T17 := by kernel_rfl
theorem jsonparser_blockEndConfig.bits17 : waitsOk jsonparser_blockEndConfig.T17.2 jsonparser_blockEndConfig.B17 = true := by kernel_rfl
set_option maxHeartbeats 8000000 in
set_option maxRecDepth 100000 in
theorem jsonparser_blockEndConfig.calls (k : Nat) (a0_0 : Bool) (a0_1 : Bool) (a0_2 : Int) (A1 : Option Addr) (c1 : Nat) (l1 : List Int) (a2 : Int) (a3 : Int) (r : Int) (w : World) (hr1 : Kd.C (Kd.int .u8) w A1 l1.length l1) (hc1 : l1.length ≤ c1) (h : jsonparser_blockEndConfig.f k a0_0 a0_1 a0_2 l1 a2 a3 = some r) :
  Calls Tryz.prog 81 #[.agg #[.bool a0_0, .bool a0_1, .int .i64 a0_2], .slice A1 l1.length c1, .int .u8 a2, .int .u8 a3] w fun e w' => e = .returned (.int .i64 r) ∧ Below w.heap.size w w' := by
 have hu85 := Tryz.underlying85
 have HR1 := sd hr1
 have HC1 := sd hc1
 clear hr1 hc1
 have HB := sd (Below.refl w.heap.size w)
 have H : (jsonparser_blockEndConfig.l0 k l1 a2 a3 0 0 (l1.length : Int) a0_0 a0_1 a0_2) = some r := h
 clear h
 have H' := sd H
 clear H
 go_enter Tryz.func81, Tryz.ntmps81
 go_wp2_with (first | ((with_reducible refine gate_dst (N := 4) rfl ?_); refine box_event (by rfl) (N := 4) (by rfl) (cs := #[.bool a0_0, .bool a0_1, .int .i64 a0_2]) (t := 85) tS ?_; intro a7 hg w5 hbox hb; have a0 := sd (hbox); have c3 := sd (leB hg tB); have c4 := sd (leB hg tB); have HB := sd (below_step tB hb); clear hb hbox hg))
 (try simp only [Act.put, List.setIfInBounds_toArray, List.set_cons_zero, List.set_cons_succ])
 go_loopg [9, 10] k (fun kq v9 v10 w' => ∃ (x9_1 : Int) (x10_1 : Int), v9 = .int .i64 x9_1 ∧ v10 = .int .i64 x10_1 ∧ Aside0 (jsonparser_blockEndConfig.l0 kq l1 a2 a3 x9_1 x10_1 (l1.length : Int) a0_0 a0_1 a0_2 = some r) ∧ Aside0 (kq ≤ k) ∧ Aside0 (w'.heap[a7]? = some (.cells #[.bool a0_0, .bool a0_1, .int .i64 a0_2] 85 (0, 0))) ∧ Aside0 (Below w.heap.size w w'))
 case atStart => exact ⟨(0), (0), tF, tF, H', ⟨Nat.le_refl _⟩, ⟨tL⟩, ⟨tB⟩⟩
 case round =>
  clear H'
  obtain ⟨x9_1, x10_1, rfl, rfl, HA, HK1, a0, HB⟩ := hrel
  cases gk with
  | zero => exact absurd HA.out (by simp [jsonparser_blockEndConfig.l0])
  | succ k1 =>
   have H := HA.out
   clear HA
   simp only [jsonparser_blockEndConfig.l0] at H
   by_cases c6 : x10_1 < (l1.length : Int)
   ·rw [if_pos c6] at H
    have c6b0 : decide (x10_1 < (l1.length : Int)) = true := decide_eq_true c6
    clear c6
    have HC7 := sd H
    clear H
    go_upto_block 2 with (fail)
    go_cut [10] (fun v10 wc => ∃ (kq : Nat) (x10_6 : Int), v10 = .int .i64 x10_6 ∧ Aside0 (jsonparser_blockEndConfig.j2 kq l1 a2 a3 x9_1 x10_6 (l1.length : Int) a0_0 a0_1 a0_2 = some r) ∧ Aside0 (kq ≤ k1) ∧ Aside0 (wc.heap[a7]? = some (.cells #[.bool a0_0, .bool a0_1, .int .i64 a0_2] 85 (0, 0))) ∧ Aside0 (Below w.heap.size w wc))
    case first =>
     have H := HC7.out
     clear HC7
     have H' := sd H
     clear H
     go_wp2
     (try simp only [Act.put, List.setIfInBounds_toArray, List.set_cons_zero, List.set_cons_succ])
     go_loopg [10] k1 (fun kq v10 w' => ∃ (x10_2 : Int), v10 = .int .i64 x10_2 ∧ Aside0 (jsonparser_blockEndConfig.l1 kq l1 a2 a3 x9_1 x10_2 (l1.length : Int) a0_0 a0_1 a0_2 = some r) ∧ Aside0 (kq ≤ k1) ∧ Aside0 (w'.heap[a7]? = some (.cells #[.bool a0_0, .bool a0_1, .int .i64 a0_2] 85 (0, 0))) ∧ Aside0 (Below w.heap.size w w'))
     case atStart => exact ⟨(x10_1), tF, H', ⟨Nat.le_refl _⟩, ⟨tL⟩, ⟨tB⟩⟩
     case round =>
      clear H'
      obtain ⟨x10_2, rfl, HA, HK2, a0, HB⟩ := hrel
      cases gk with
      | zero => exact absurd HA.out (by simp [jsonparser_blockEndConfig.l1])
      | succ k2 =>
       have H := HA.out
       clear HA
       simp only [jsonparser_blockEndConfig.l1] at H
       by_cases c8 : x10_2 < (l1.length : Int)
       ·rw [if_pos c8] at H
        have c8b0 : decide (x10_2 < (l1.length : Int)) = true := decide_eq_true c8
        clear c8
        (first | rw [c8b0] | (simp only [i64_w, i32_w]; rw [c8b0]) | skip)
        by_cases c9 : 0 ≤ x10_2
        ·rw [if_pos c9] at H
         have c9b0 : decide (0 ≤ x10_2) = true := decide_eq_true c9
         clear c9
         by_cases c10 : x10_2 < (l1.length : Int)
         ·rw [if_pos c10] at H
          have c10b0 : decide (x10_2 < (l1.length : Int)) = true := decide_eq_true c10
          clear c10
          by_cases c11 : (rd l1 x10_2) ≤ 32
          ·rw [if_pos c11] at H
           have c11b0 : decide ((rd l1 x10_2) ≤ 32) = true := decide_eq_true c11
           clear c11
           have H' := sd H
           clear H
           have a8 : 0 ≤ (x10_2 : Int) := of_decide_eq_true (by first | (with_reducible assumption) | assumption)
           have a9 : x10_2 < (l1.length : Int) := of_decide_eq_true (by first | (with_reducible assumption) | assumption)
           obtain ⟨ad531, e531, a6⟩ := Kd.at_int HR1.out x10_2 a8 a9
           cases e531
           replace a6 := (HB.out.cell (World.block_lt_of_cell? w _ a6)).trans a6
           replace a8 := eq_true a8
           replace a9 := eq_true a9
           go_wp2
           go_roundg k2
           case measure => have := HK1.out; have := HK2.out; omega
           case rel => exact ⟨(wrap64 (x10_2 + 1)), tF, H', ⟨by have := HK1.out; have := HK2.out; omega⟩, ⟨tL⟩, ⟨tB⟩⟩
          ·rw [if_neg c11] at H
           have c11b0 : decide ((rd l1 x10_2) ≤ 32) = false := decide_eq_false c11
           clear c11
           by_cases c12 : (rd l1 x10_2) > 92
           ·rw [if_pos c12] at H
            have c12b0 : decide (92 < (rd l1 x10_2)) = true := decide_eq_true c12
            clear c12
            by_cases c13 : (rd l1 x10_2) = a2
            ·rw [if_pos c13] at H
             have c13b0 : ((rd l1 x10_2) == a2) = true := beq_iff_eq.mpr c13
             have c13b1 : ((rd l1 x10_2) != a2) = false := bne_eq_false_iff_eq.mpr c13
             clear c13
             have H' := sd H
             clear H
             have a8 : 0 ≤ (x10_2 : Int) := of_decide_eq_true (by first | (with_reducible assumption) | assumption)
             have a9 : x10_2 < (l1.length : Int) := of_decide_eq_true (by first | (with_reducible assumption) | assumption)
             obtain ⟨ad531, e531, a6⟩ := Kd.at_int HR1.out x10_2 a8 a9
             cases e531
             replace a6 := (HB.out.cell (World.block_lt_of_cell? w _ a6)).trans a6
             replace a8 := eq_true a8
             replace a9 := eq_true a9
             go_wp2
             go_meet
             case rel => exact ⟨_, (x10_2), tF, H', ⟨by have := HK1.out; have := HK2.out; first | omega | exact Nat.le_refl _⟩, ⟨tL⟩, ⟨tB⟩⟩
            ·rw [if_neg c13] at H
             have c13b0 : ((rd l1 x10_2) == a2) = false := beq_eq_false_iff_ne.mpr c13
             have c13b1 : ((rd l1 x10_2) != a2) = true := bne_iff_ne.mpr c13
             by_cases c14 : (rd l1 x10_2) = a3
             ·rw [if_pos c14] at H
              have c14b0 : ((rd l1 x10_2) == a3) = true := beq_iff_eq.mpr c14
              have c14b1 : ((rd l1 x10_2) != a3) = false := bne_eq_false_iff_eq.mpr c14
              clear c14
              have H' := sd H
              clear H
              have a8 : 0 ≤ (x10_2 : Int) := of_decide_eq_true (by first | (with_reducible assumption) | assumption)
              have a9 : x10_2 < (l1.length : Int) := of_decide_eq_true (by first | (with_reducible assumption) | assumption)
              obtain ⟨ad531, e531, a6⟩ := Kd.at_int HR1.out x10_2 a8 a9
              cases e531
              replace a6 := (HB.out.cell (World.block_lt_of_cell? w _ a6)).trans a6
              replace a8 := eq_true a8
              replace a9 := eq_true a9
              go_wp2
              go_meet
              case rel => exact ⟨_, (x10_2), tF, H', ⟨by have := HK1.out; have := HK2.out; first | omega | exact Nat.le_refl _⟩, ⟨tL⟩, ⟨tB⟩⟩
             ·rw [if_neg c14] at H
              have c14b0 : ((rd l1 x10_2) == a3) = false := beq_eq_false_iff_ne.mpr c14
              have c14b1 : ((rd l1 x10_2) != a3) = true := bne_iff_ne.mpr c14
              have H' := sd H
              clear H
              have a8 : 0 ≤ (x10_2 : Int) := of_decide_eq_true (by first | (with_reducible assumption) | assumption)
              have a9 : x10_2 < (l1.length : Int) := of_decide_eq_true (by first | (with_reducible assumption) | assumption)
              obtain ⟨ad531, e531, a6⟩ := Kd.at_int HR1.out x10_2 a8 a9
              cases e531
              replace a6 := (HB.out.cell (World.block_lt_of_cell? w _ a6)).trans a6
              replace a8 := eq_true a8
              replace a9 := eq_true a9
              go_wp2
              go_roundg k2
              case measure => have := HK1.out; have := HK2.out; omega
              case rel => exact ⟨(wrap64 (x10_2 + 1)), tF, H', ⟨by have := HK1.out; have := HK2.out; omega⟩, ⟨tL⟩, ⟨tB⟩⟩
           ·rw [if_neg c12] at H
            have c12b0 : decide (92 < (rd l1 x10_2)) = false := decide_eq_false c12
            clear c12
            have H' := sd H
            clear H
            have a8 : 0 ≤ (x10_2 : Int) := of_decide_eq_true (by first | (with_reducible assumption) | assumption)
            have a9 : x10_2 < (l1.length : Int) := of_decide_eq_true (by first | (with_reducible assumption) | assumption)
            obtain ⟨ad531, e531, a6⟩ := Kd.at_int HR1.out x10_2 a8 a9
            cases e531
            replace a6 := (HB.out.cell (World.block_lt_of_cell? w _ a6)).trans a6
            replace a8 := eq_true a8
            replace a9 := eq_true a9
            go_wp2
            go_meet
            case rel => exact ⟨_, (x10_2), tF, H', ⟨by have := HK1.out; have := HK2.out; first | omega | exact Nat.le_refl _⟩, ⟨tL⟩, ⟨tB⟩⟩
         ·rw [if_neg c10] at H
          exact absurd H (by simp)
        ·rw [if_neg c9] at H
         exact absurd H (by simp)
       ·rw [if_neg c8] at H
        have c8b0 : decide (x10_2 < (l1.length : Int)) = false := decide_eq_false c8
        clear c8
        (first | rw [c8b0] | (simp only [i64_w, i32_w]; rw [c8b0]) | skip)
        have H' := sd H
        clear H
        go_wp2
        go_meet
        case rel => exact ⟨_, (x10_2), tF, H', ⟨by have := HK1.out; have := HK2.out; first | omega | exact Nat.le_refl _⟩, ⟨tL⟩, ⟨tB⟩⟩
    case rest =>
     clear HC7
     obtain ⟨kq, x10_6, rfl, HA, HJ6, a0, HB⟩ := hcut
     cases kq with
     | zero => exact absurd HA.out (by simp [jsonparser_blockEndConfig.j2])
     | succ kj6 =>
      have H := HA.out
      clear HA
      simp only [jsonparser_blockEndConfig.j2] at H
      by_cases c15 : x10_6 ≥ (l1.length : Int)
      ·rw [if_pos c15] at H
       have c15b0 : decide ((l1.length : Int) ≤ x10_6) = true := decide_eq_true c15
       clear c15
       obtain rfl := Option.some.inj H
       go_wp2
       go_ret
       exact ⟨tE, tB⟩
      ·rw [if_neg c15] at H
       have c15b0 : decide ((l1.length : Int) ≤ x10_6) = false := decide_eq_false c15
       clear c15
       by_cases c16 : 0 ≤ x10_6
       ·rw [if_pos c16] at H
        have c16b0 : decide (0 ≤ x10_6) = true := decide_eq_true c16
        clear c16
        by_cases c17 : x10_6 < (l1.length : Int)
        ·rw [if_pos c17] at H
         have c17b0 : decide (x10_6 < (l1.length : Int)) = true := decide_eq_true c17
         clear c17
         have HC18 := sd H
         clear H
         have b6 : 0 ≤ (x10_6 : Int) := of_decide_eq_true (by first | (with_reducible assumption) | assumption)
         have b7 : x10_6 < (l1.length : Int) := of_decide_eq_true (by first | (with_reducible assumption) | assumption)
         obtain ⟨ad532, e532, b3⟩ := Kd.at_int HR1.out x10_6 b6 b7
         cases e532
         replace b3 := (HB.out.cell (World.block_lt_of_cell? w _ b3)).trans b3
         replace b6 := eq_true b6
         replace b7 := eq_true b7
         go_upto_if 53 with (fail)
         go_cut [53] (fun v53 wc => ∃ (kq : Nat) (x53_17 : Bool), v53 = .bool x53_17 ∧ Aside0 (jsonparser_blockEndConfig.j3 kq l1 a2 a3 x9_1 x10_6 (l1.length : Int) (rd l1 x10_6) x53_17 a0_0 a0_1 a0_2 = some r) ∧ Aside0 (kq ≤ kj6) ∧ Aside0 (wc.heap[a7]? = some (.cells #[.bool a0_0, .bool a0_1, .int .i64 a0_2] 85 (0, 0))) ∧ Aside0 (Below w.heap.size w wc))
         case first =>
          have H := HC18.out
          clear HC18
          by_cases c19 : (rd l1 x10_6) = 34
          ·rw [if_pos c19] at H
           have c19b0 : ((rd l1 x10_6) == 34) = true := beq_iff_eq.mpr c19
           have c19b1 : ((rd l1 x10_6) != 34) = false := bne_eq_false_iff_eq.mpr c19
           clear c19
           (first | rw [c19b0] | (simp only [i64_w, i32_w]; rw [c19b0]) | skip)
           have H' := sd H
           clear H
           go_wp2
           go_meet
           case rel => exact ⟨_, (((rd l1 x10_6) == 34)), tF, H', ⟨by have := HK1.out; have := HJ6.out; first | omega | exact Nat.le_refl _⟩, ⟨tL⟩, ⟨tB⟩⟩
          ·rw [if_neg c19] at H
           have c19b0 : ((rd l1 x10_6) == 34) = false := beq_eq_false_iff_ne.mpr c19
           have c19b1 : ((rd l1 x10_6) != 34) = true := bne_iff_ne.mpr c19
           (first | rw [c19b0] | (simp only [i64_w, i32_w]; rw [c19b0]) | skip)
           have H' := sd H
           clear H
           go_wp2
           go_meet
           case rel => exact ⟨_, (((rd l1 x10_6) == 39)), tF, H', ⟨by have := HK1.out; have := HJ6.out; first | omega | exact Nat.le_refl _⟩, ⟨tL⟩, ⟨tB⟩⟩
         case rest =>
          clear HC18
          obtain ⟨kq, x53_17, rfl, HA, HJ17, a0, HB⟩ := hcut
          cases kq with
          | zero => exact absurd HA.out (by simp [jsonparser_blockEndConfig.j3])
          | succ kj17 =>
           have H := HA.out
           clear HA
           simp only [jsonparser_blockEndConfig.j3] at H
           by_cases c20 : x53_17 = true
           ·subst c20
            rw [if_pos rfl] at H
            by_cases c21 : 0 ≤ x10_6
            ·rw [if_pos c21] at H
             have c21b0 : decide (0 ≤ x10_6) = true := decide_eq_true c21
             clear c21
             by_cases c22 : x10_6 < (l1.length : Int)
             ·rw [if_pos c22] at H
              have c22b0 : decide (x10_6 < (l1.length : Int)) = true := decide_eq_true c22
              clear c22
              have HC23 := sd H
              clear H
              have b8 : 0 ≤ (x10_6 : Int) := of_decide_eq_true (by first | (with_reducible assumption) | assumption)
              have b9 : x10_6 < (l1.length : Int) := of_decide_eq_true (by first | (with_reducible assumption) | assumption)
              obtain ⟨ad533, e533, b4⟩ := Kd.at_int HR1.out x10_6 b8 b9
              obtain rfl : ad532 = ad533 := (by injection e533)
              replace b4 := (HB.out.cell (World.block_lt_of_cell? w _ b4)).trans b4
              replace b8 := eq_true b8
              replace b9 := eq_true b9
              go_upto_region 16 with (fail)
              go_cut [66] (fun v66 wc => ∃ (kq : Nat) (x66_22 : Bool), v66 = .bool x66_22 ∧ Aside0 (jsonparser_blockEndConfig.j4 kq l1 a2 a3 x9_1 x10_6 (l1.length : Int) (rd l1 x10_6) x66_22 a0_0 a0_1 a0_2 = some r) ∧ Aside0 (kq ≤ kj17) ∧ Aside0 (wc.heap[a7]? = some (.cells #[.bool a0_0, .bool a0_1, .int .i64 a0_2] 85 (0, 0))) ∧ Aside0 (Below w.heap.size w wc))
              case first =>
               have H := HC23.out
               clear HC23
               by_cases c24 : (rd l1 x10_6) = 39
               ·rw [if_pos c24] at H
                have c24b0 : ((rd l1 x10_6) == 39) = true := beq_iff_eq.mpr c24
                have c24b1 : ((rd l1 x10_6) != 39) = false := bne_eq_false_iff_eq.mpr c24
                clear c24
                (first | rw [c24b0] | (simp only [i64_w, i32_w]; rw [c24b0]) | skip)
                have H' := sd H
                clear H
                have hcz25_0 : wc.cell? ⟨a7, 0, none⟩ = some (.bool a0_0) := (blk_cell a0.out 0).trans rfl
                have hcz25_1 : wc.cell? ⟨a7, 1, none⟩ = some (.bool a0_1) := (blk_cell a0.out 1).trans rfl
                have hcz25_2 : wc.cell? ⟨a7, 2, none⟩ = some (.int .i64 a0_2) := (blk_cell a0.out 2).trans rfl
                have hfz25_0 := blk_frozen a0.out 0
                have hfz25_1 := blk_frozen a0.out 1
                have hfz25_2 := blk_frozen a0.out 2
                go_wp2
                go_meet
                case rel => exact ⟨_, (!a0_0), tF, H', ⟨by have := HK1.out; have := HJ6.out; have := HJ17.out; first | omega | exact Nat.le_refl _⟩, ⟨tL⟩, ⟨tB⟩⟩
               ·rw [if_neg c24] at H
                have c24b0 : ((rd l1 x10_6) == 39) = false := beq_eq_false_iff_ne.mpr c24
                have c24b1 : ((rd l1 x10_6) != 39) = true := bne_iff_ne.mpr c24
                (first | rw [c24b0] | (simp only [i64_w, i32_w]; rw [c24b0]) | skip)
                have H' := sd H
                clear H
                go_wp2
                go_meet
                case rel => exact ⟨_, (false), tF, H', ⟨by have := HK1.out; have := HJ6.out; have := HJ17.out; first | omega | exact Nat.le_refl _⟩, ⟨tL⟩, ⟨tB⟩⟩
              case rest =>
               clear HC23
               obtain ⟨kq, x66_22, rfl, HA, HJ22, a0, HB⟩ := hcut
               cases kq with
               | zero => exact absurd HA.out (by simp [jsonparser_blockEndConfig.j4])
               | succ kj22 =>
                have H := HA.out
                clear HA
                simp only [jsonparser_blockEndConfig.j4] at H
                by_cases c26 : x66_22 = true
                ·subst c26
                 rw [if_pos rfl] at H
                 have H' := sd H
                 clear H
                 go_wp2
                 go_roundg kj22
                 case measure => have := HK1.out; have := HJ6.out; have := HJ17.out; have := HJ22.out; omega
                 case rel => exact ⟨(x9_1), (wrap64 (x10_6 + 1)), tF, tF, H', ⟨by have := HK1.out; have := HJ6.out; have := HJ17.out; have := HJ22.out; omega⟩, ⟨tL⟩, ⟨tB⟩⟩
                ·replace c26 := Bool.eq_false_iff.mpr c26
                 subst c26
                 rw [if_neg (show ¬ (false = true) by decide)] at H
                 obtain ⟨ji27, hji27⟩ : ∃ j_ : Int, (wrap64 (x10_6 + 1)) = j_ := ⟨_, rfl⟩
                 replace H : (if 0 ≤ (ji27) then (if (ji27) ≤ (l1.length : Int) then ((jsonparser_stringEndConfig.f kj22 a0_0 a0_1 a0_2 (l1.drop ((ji27) : Int).toNat) (rd l1 x10_6)).bind fun b1 => (if b1.1 = (-1) then (some (-1)) else (jsonparser_blockEndConfig.l0 kj22 l1 a2 a3 x9_1 (wrap64 ((wrap64 (x10_6 + b1.1)) + 1)) (l1.length : Int) a0_0 a0_1 a0_2))) else (none)) else (none)) = some r := by first | (rw [hji27] at H; exact H) | (simp only [hji27] at H ⊢; exact H)
                 have hji27w : (IntKind.i64.wrap (x10_6 + 1)) = ji27 := (i64_w _).trans hji27
                 by_cases c28 : 0 ≤ (ji27)
                 ·rw [if_pos c28] at H
                  have c28b0 := eq_true c28
                  have c28b1 : decide (0 ≤ (ji27)) = true := decide_eq_true c28
                  clear c28
                  by_cases c29 : (ji27) ≤ (l1.length : Int)
                  ·rw [if_pos c29] at H
                   have c29b0 := eq_true c29
                   have c29b1 : decide ((ji27) ≤ (l1.length : Int)) = true := decide_eq_true c29
                   clear c29
                   replace H := Option.bind_eq_some_iff.mp H
                   obtain ⟨⟨b0, c0⟩, c2, H⟩ := H
                   try dsimp only at H
                   have A30 := sd c2
                   clear c2
                   by_cases c31 : b0 = (-1)
                   ·rw [if_pos c31] at H
                    have c31b0 : (b0 == (-1)) = true := beq_iff_eq.mpr c31
                    have c31b1 : (b0 != (-1)) = false := bne_eq_false_iff_eq.mpr c31
                    clear c31
                    obtain rfl := Option.some.inj H
                    try go_wp2
                    have n0_ := sd (blk_drew a0.out)
                    have n1_ := sd (below_drew1 HB.out)
                    clear a0
                    clear HB
                    have a0 := n0_
                    have HB := n1_
                    clear n0_ n1_
                    obtain ⟨i033, hi033, _, hsz33, _⟩ := info_parts info5
                    obtain ⟨A33, hcut33, hA33, hC33⟩ := print_drop_of (P := Tryz.prog) (Value.int .u8) 0 44 5 .i64 Tryz.underlying44 hi033 hsz33 (some ad532) c1 l1 (ji27) tX tX HC1.out
                    have b2 := sd (Kd.C_of_reads (h1 := fun _ => rfl) (hA33 _ (Kd.reads_of_C HR1.out)))
                    have b5 := sd hC33
                    clear hA33 hC33 hi033 hsz33
                    refine start_ (n := 12) (S := fun w' => w'.cell? ⟨a7, 0, none⟩ = some (.bool a0_0) ∧ w'.cell? ⟨a7, 1, none⟩ = some (.bool a0_1) ∧ w'.cell? ⟨a7, 2, none⟩ = some (.int .i64 a0_2)) (ds := []) #[false, false, false, false, false, false, false, false, false, false, false, false] (by kernel_rfl) rfl rfl ⟨(blk_cell a0.out 0).trans rfl, (blk_cell a0.out 1).trans rfl, (blk_cell a0.out 2).trans rfl⟩ (fun hHeld => ?_); refine with_tabW jsonparser_blockEndConfig.tab17 jsonparser_blockEndConfig.bits17 (fun HT_ HW_ => ?_)
                    generalize wc.drew = w32 at a0 HB b2 hHeld ⊢
                    refine pure_ (i := 1) (N := some 69) (v := ?_) (a' := ?_) #[false, true, false, false, false, false, false, false, false, false, false, false] rfl rfl (any_of HT_.out (by kernel_rfl)) (fun _ _ _ h => h) (Or.inl ⟨by rfl, ?_⟩) ?_ ?_
                    rotate_left
                    ·intro w'
                     go_simp
                     with_reducible rfl
                    rotate_left
                    ·simp only [Act.put, List.setIfInBounds_toArray, List.set_cons_zero, List.set_cons_succ, i64_w, i32_w]
                     rfl
                    refine pure_ (i := 2) (N := some 70) (v := ?_) (a' := ?_) #[false, true, true, false, false, false, false, false, false, false, false, false] rfl rfl (any_of HT_.out (by kernel_rfl)) (fun _ _ _ h => h) (Or.inl ⟨by rfl, ?_⟩) ?_ ?_
                    rotate_left
                    ·intro w'
                     go_simp
                     with_reducible rfl
                    rotate_left
                    ·simp only [Act.put, List.setIfInBounds_toArray, List.set_cons_zero, List.set_cons_succ, i64_w, i32_w]
                     rfl
                    refine pure_ (i := 3) (N := some 71) (v := ?_) (a' := ?_) #[false, true, true, true, false, false, false, false, false, false, false, false] rfl rfl (any_of HT_.out (by kernel_rfl)) (fun _ _ _ h => h) (Or.inl ⟨by rfl, ?_⟩) ?_ ?_
                    rotate_left
                    ·intro w'
                     go_simp
                     with_reducible rfl
                    rotate_left
                    ·simp only [Act.put, List.setIfInBounds_toArray, List.set_cons_zero, List.set_cons_succ, i64_w, i32_w]
                     rfl
                    refine pure_ (i := 4) (N := some 72) (v := ?_) (a' := ?_) #[false, true, true, true, true, false, false, false, false, false, false, false] rfl rfl (any_of HT_.out (by kernel_rfl)) (fun _ _ _ h => h) (Or.inl ⟨by rfl, ?_⟩) ?_ ?_
                    rotate_left
                    ·intro w'
                     go_simp
                     with_reducible rfl
                    rotate_left
                    ·simp only [Act.put, List.setIfInBounds_toArray, List.set_cons_zero, List.set_cons_succ, i64_w, i32_w]
                     rfl
                    refine pure_ (i := 5) (N := some 73) (v := ?_) (a' := ?_) #[false, true, true, true, true, true, false, false, false, false, false, false] rfl rfl (any_of HT_.out (by kernel_rfl)) (fun _ _ _ h => h) (Or.inl ⟨by rfl, ?_⟩) ?_ ?_
                    rotate_left
                    ·intro w'
                     go_simp
                     with_reducible rfl
                    rotate_left
                    ·simp only [Act.put, List.setIfInBounds_toArray, List.set_cons_zero, List.set_cons_succ, i64_w, i32_w]
                     rfl
                    refine take_ (i := 0) (N := some 68) (v := ?_) (a' := ?_) #[true, true, true, true, true, true, false, false, false, false, false, false] rfl rfl (take_ofW HT_.out HW_.out (by kernel_rfl)) (fun _ _ _ h => h) (Or.inl ⟨by rfl, ?_⟩) hHeld ?_ ?_
                    rotate_left
                    ·rintro w' ⟨s0, s1, s2⟩
                     go_simp
                     with_reducible rfl
                    rotate_left
                    ·simp only [Act.put, List.setIfInBounds_toArray, List.set_cons_zero, List.set_cons_succ, i64_w, i32_w]
                     rfl
                    refine one_ (i := 6) (N := some 74) #[true, true, true, true, true, true, true, false, false, false, false, false] rfl rfl (one_of HT_.out (by kernel_rfl)) (by decide) (fun K hK => ?_)
                    refine goes_ Tryz.func62 (by kernel_rfl) rfl #[.agg #[.bool a0_0, .bool a0_1, .int .i64 a0_2], .slice A33 (l1.drop ((ji27) : Int).toNat).length (c1 - (ji27).toNat), .int .u8 (rd l1 x10_6)] (by rfl) rfl rfl (by (try simp only [List.map_toArray, List.map_cons, List.map_nil]); first | done | (rw [show (l1.drop ((ji27) : Int).toNat).length = (l1.length - (ji27).toNat) from List.length_drop] <;> rfl) | (simp only [hji27]; rfl) | rfl | (simp only [List.length_drop, List.length_take]; rfl)) ?_
                    with_reducible refine (jsonparser_stringEndConfig.calls kj22 a0_0 a0_1 a0_2 _ _ (l1.drop ((ji27) : Int).toNat) (rd l1 x10_6) b0 c0 _ ?side1 ?side2 A30.out).mono ?_
                    (case side1 => repeat (first | exact (Kd.C_below b2.out HB.out) | (with_reducible refine Kd.C_alloc ?_ _) | (with_reducible refine Kd.C_drewN ?_ _) | (with_reducible refine Kd.C_drew ?_)))
                    (case side2 => exact b5.out)
                    rintro e w34 ⟨rfl, hb⟩
                    refine ⟨_, rfl, ?_⟩
                    have n0_ := sd (blk_below (g := a7) tL hb)
                    have n1_ := sd (below_step tB hb)
                    clear a0
                    clear HB
                    have a0 := n0_
                    have HB := n1_
                    clear n0_ n1_
                    (try clear hb)
                    (try clear hb2)
                    (try clear hk)
                    (try clear hi)
                    refine hK.out _ _ ⟨(blk_cell a0.out 0).trans rfl, (blk_cell a0.out 1).trans rfl, (blk_cell a0.out 2).trans rfl⟩ (fun hHeld => ?_)
                    clear hK K
                    refine norm_ (a' := ?_) ?_ ?_
                    rotate_left
                    ·show Act.put _ (some 74) _ = _
                     simp only [Act.put, List.setIfInBounds_toArray, List.set_cons_zero, List.set_cons_succ, i64_w, i32_w]
                     rfl
                    refine pure_ (i := 7) (N := some 67) (v := ?_) (a' := ?_) #[true, true, true, true, true, true, true, true, false, false, false, false] rfl rfl (any_of HT_.out (by kernel_rfl)) (fun _ _ _ h => h) (Or.inl ⟨by rfl, ?_⟩) ?_ ?_
                    rotate_left
                    ·intro w'
                     go_simp
                     with_reducible rfl
                    rotate_left
                    ·simp only [Act.put, List.setIfInBounds_toArray, List.set_cons_zero, List.set_cons_succ, i64_w, i32_w]
                     rfl
                    refine pure_ (i := 8) (N := some 75) (v := ?_) (a' := ?_) #[true, true, true, true, true, true, true, true, true, false, false, false] rfl rfl (any_of HT_.out (by kernel_rfl)) (fun _ _ _ h => h) (Or.inl ⟨by rfl, ?_⟩) ?_ ?_
                    rotate_left
                    ·intro w'
                     go_simp
                     with_reducible rfl
                    rotate_left
                    ·simp only [Act.put, List.setIfInBounds_toArray, List.set_cons_zero, List.set_cons_succ, i64_w, i32_w]
                     rfl
                    refine pure_ (i := 9) (N := some 76) (v := ?_) (a' := ?_) #[true, true, true, true, true, true, true, true, true, true, false, false] rfl rfl (any_of HT_.out (by kernel_rfl)) (fun _ _ _ h => h) (Or.inl ⟨by rfl, ?_⟩) ?_ ?_
                    rotate_left
                    ·intro w'
                     go_simp
                     with_reducible rfl
                    rotate_left
                    ·simp only [Act.put, List.setIfInBounds_toArray, List.set_cons_zero, List.set_cons_succ, i64_w, i32_w]
                     rfl
                    refine pure_ (i := 10) (N := some 14) (v := ?_) (a' := ?_) #[true, true, true, true, true, true, true, true, true, true, true, false] rfl rfl (any_of HT_.out (by kernel_rfl)) (fun _ _ _ h => h) (Or.inl ⟨by rfl, ?_⟩) ?_ ?_
                    rotate_left
                    ·intro w'
                     go_simp
                     with_reducible rfl
                    rotate_left
                    ·simp only [Act.put, List.setIfInBounds_toArray, List.set_cons_zero, List.set_cons_succ, i64_w, i32_w]
                     rfl
                    refine pure_ (i := 11) (N := some 15) (v := ?_) (a' := ?_) #[true, true, true, true, true, true, true, true, true, true, true, true] rfl rfl (any_of HT_.out (by kernel_rfl)) (fun _ _ _ h => h) (Or.inl ⟨by rfl, ?_⟩) ?_ ?_
                    rotate_left
                    ·intro w'
                     go_simp
                     with_reducible rfl
                    rotate_left
                    ·simp only [Act.put, List.setIfInBounds_toArray, List.set_cons_zero, List.set_cons_succ, i64_w, i32_w]
                     rfl
                    refine done_ (done_of HT_.out (by kernel_rfl)) ?_
                    try go_wp2
                    go_ret
                    exact ⟨by first | rfl | (simp [errW_none, errW_some] <;> rfl) | (simp only [← hji27]; first | rfl | (simp [errW_none, errW_some] <;> rfl)) | (simp [*, errW_none, errW_some] <;> rfl), tB⟩
                   ·rw [if_neg c31] at H
                    have c31b0 : (b0 == (-1)) = false := beq_eq_false_iff_ne.mpr c31
                    have c31b1 : (b0 != (-1)) = true := bne_iff_ne.mpr c31
                    have H' := sd H
                    clear H
                    try go_wp2
                    have n0_ := sd (blk_drew a0.out)
                    have n1_ := sd (below_drew1 HB.out)
                    clear a0
                    clear HB
                    have a0 := n0_
                    have HB := n1_
                    clear n0_ n1_
                    obtain ⟨i036, hi036, _, hsz36, _⟩ := info_parts info5
                    obtain ⟨A36, hcut36, hA36, hC36⟩ := print_drop_of (P := Tryz.prog) (Value.int .u8) 0 44 5 .i64 Tryz.underlying44 hi036 hsz36 (some ad532) c1 l1 (ji27) tX tX HC1.out
                    have b2 := sd (Kd.C_of_reads (h1 := fun _ => rfl) (hA36 _ (Kd.reads_of_C HR1.out)))
                    have b5 := sd hC36
                    clear hA36 hC36 hi036 hsz36
                    refine start_ (n := 12) (S := fun w' => w'.cell? ⟨a7, 0, none⟩ = some (.bool a0_0) ∧ w'.cell? ⟨a7, 1, none⟩ = some (.bool a0_1) ∧ w'.cell? ⟨a7, 2, none⟩ = some (.int .i64 a0_2)) (ds := []) #[false, false, false, false, false, false, false, false, false, false, false, false] (by kernel_rfl) rfl rfl ⟨(blk_cell a0.out 0).trans rfl, (blk_cell a0.out 1).trans rfl, (blk_cell a0.out 2).trans rfl⟩ (fun hHeld => ?_); refine with_tabW jsonparser_blockEndConfig.tab17 jsonparser_blockEndConfig.bits17 (fun HT_ HW_ => ?_)
                    generalize wc.drew = w35 at a0 HB b2 hHeld ⊢
                    refine pure_ (i := 1) (N := some 69) (v := ?_) (a' := ?_) #[false, true, false, false, false, false, false, false, false, false, false, false] rfl rfl (any_of HT_.out (by kernel_rfl)) (fun _ _ _ h => h) (Or.inl ⟨by rfl, ?_⟩) ?_ ?_
                    rotate_left
                    ·intro w'
                     go_simp
                     with_reducible rfl
                    rotate_left
                    ·simp only [Act.put, List.setIfInBounds_toArray, List.set_cons_zero, List.set_cons_succ, i64_w, i32_w]
                     rfl
                    refine pure_ (i := 2) (N := some 70) (v := ?_) (a' := ?_) #[false, true, true, false, false, false, false, false, false, false, false, false] rfl rfl (any_of HT_.out (by kernel_rfl)) (fun _ _ _ h => h) (Or.inl ⟨by rfl, ?_⟩) ?_ ?_
                    rotate_left
                    ·intro w'
                     go_simp
                     with_reducible rfl
                    rotate_left
                    ·simp only [Act.put, List.setIfInBounds_toArray, List.set_cons_zero, List.set_cons_succ, i64_w, i32_w]
                     rfl
                    refine pure_ (i := 3) (N := some 71) (v := ?_) (a' := ?_) #[false, true, true, true, false, false, false, false, false, false, false, false] rfl rfl (any_of HT_.out (by kernel_rfl)) (fun _ _ _ h => h) (Or.inl ⟨by rfl, ?_⟩) ?_ ?_
                    rotate_left
                    ·intro w'
                     go_simp
                     with_reducible rfl
                    rotate_left
                    ·simp only [Act.put, List.setIfInBounds_toArray, List.set_cons_zero, List.set_cons_succ, i64_w, i32_w]
                     rfl
                    refine pure_ (i := 4) (N := some 72) (v := ?_) (a' := ?_) #[false, true, true, true, true, false, false, false, false, false, false, false] rfl rfl (any_of HT_.out (by kernel_rfl)) (fun _ _ _ h => h) (Or.inl ⟨by rfl, ?_⟩) ?_ ?_
                    rotate_left
                    ·intro w'
                     go_simp
                     with_reducible rfl
                    rotate_left
                    ·simp only [Act.put, List.setIfInBounds_toArray, List.set_cons_zero, List.set_cons_succ, i64_w, i32_w]
                     rfl
                    refine pure_ (i := 5) (N := some 73) (v := ?_) (a' := ?_) #[false, true, true, true, true, true, false, false, false, false, false, false] rfl rfl (any_of HT_.out (by kernel_rfl)) (fun _ _ _ h => h) (Or.inl ⟨by rfl, ?_⟩) ?_ ?_
                    rotate_left
                    ·intro w'
                     go_simp
                     with_reducible rfl
                    rotate_left
                    ·simp only [Act.put, List.setIfInBounds_toArray, List.set_cons_zero, List.set_cons_succ, i64_w, i32_w]
                     rfl
                    refine take_ (i := 0) (N := some 68) (v := ?_) (a' := ?_) #[true, true, true, true, true, true, false, false, false, false, false, false] rfl rfl (take_ofW HT_.out HW_.out (by kernel_rfl)) (fun _ _ _ h => h) (Or.inl ⟨by rfl, ?_⟩) hHeld ?_ ?_
                    rotate_left
                    ·rintro w' ⟨s0, s1, s2⟩
                     go_simp
                     with_reducible rfl
                    rotate_left
                    ·simp only [Act.put, List.setIfInBounds_toArray, List.set_cons_zero, List.set_cons_succ, i64_w, i32_w]
                     rfl
                    refine one_ (i := 6) (N := some 74) #[true, true, true, true, true, true, true, false, false, false, false, false] rfl rfl (one_of HT_.out (by kernel_rfl)) (by decide) (fun K hK => ?_)
                    refine goes_ Tryz.func62 (by kernel_rfl) rfl #[.agg #[.bool a0_0, .bool a0_1, .int .i64 a0_2], .slice A36 (l1.drop ((ji27) : Int).toNat).length (c1 - (ji27).toNat), .int .u8 (rd l1 x10_6)] (by rfl) rfl rfl (by (try simp only [List.map_toArray, List.map_cons, List.map_nil]); first | done | (rw [show (l1.drop ((ji27) : Int).toNat).length = (l1.length - (ji27).toNat) from List.length_drop] <;> rfl) | (simp only [hji27]; rfl) | rfl | (simp only [List.length_drop, List.length_take]; rfl)) ?_
                    with_reducible refine (jsonparser_stringEndConfig.calls kj22 a0_0 a0_1 a0_2 _ _ (l1.drop ((ji27) : Int).toNat) (rd l1 x10_6) b0 c0 _ ?side1 ?side2 A30.out).mono ?_
                    (case side1 => repeat (first | exact (Kd.C_below b2.out HB.out) | (with_reducible refine Kd.C_alloc ?_ _) | (with_reducible refine Kd.C_drewN ?_ _) | (with_reducible refine Kd.C_drew ?_)))
                    (case side2 => exact b5.out)
                    rintro e w37 ⟨rfl, hb⟩
                    refine ⟨_, rfl, ?_⟩
                    have n0_ := sd (blk_below (g := a7) tL hb)
                    have n1_ := sd (below_step tB hb)
                    clear a0
                    clear HB
                    have a0 := n0_
                    have HB := n1_
                    clear n0_ n1_
                    (try clear hb)
                    (try clear hb2)
                    (try clear hk)
                    (try clear hi)
                    refine hK.out _ _ ⟨(blk_cell a0.out 0).trans rfl, (blk_cell a0.out 1).trans rfl, (blk_cell a0.out 2).trans rfl⟩ (fun hHeld => ?_)
                    clear hK K
                    refine norm_ (a' := ?_) ?_ ?_
                    rotate_left
                    ·show Act.put _ (some 74) _ = _
                     simp only [Act.put, List.setIfInBounds_toArray, List.set_cons_zero, List.set_cons_succ, i64_w, i32_w]
                     rfl
                    refine pure_ (i := 7) (N := some 67) (v := ?_) (a' := ?_) #[true, true, true, true, true, true, true, true, false, false, false, false] rfl rfl (any_of HT_.out (by kernel_rfl)) (fun _ _ _ h => h) (Or.inl ⟨by rfl, ?_⟩) ?_ ?_
                    rotate_left
                    ·intro w'
                     go_simp
                     with_reducible rfl
                    rotate_left
                    ·simp only [Act.put, List.setIfInBounds_toArray, List.set_cons_zero, List.set_cons_succ, i64_w, i32_w]
                     rfl
                    refine pure_ (i := 8) (N := some 75) (v := ?_) (a' := ?_) #[true, true, true, true, true, true, true, true, true, false, false, false] rfl rfl (any_of HT_.out (by kernel_rfl)) (fun _ _ _ h => h) (Or.inl ⟨by rfl, ?_⟩) ?_ ?_
                    rotate_left
                    ·intro w'
                     go_simp
                     with_reducible rfl
                    rotate_left
                    ·simp only [Act.put, List.setIfInBounds_toArray, List.set_cons_zero, List.set_cons_succ, i64_w, i32_w]
                     rfl
                    refine pure_ (i := 9) (N := some 76) (v := ?_) (a' := ?_) #[true, true, true, true, true, true, true, true, true, true, false, false] rfl rfl (any_of HT_.out (by kernel_rfl)) (fun _ _ _ h => h) (Or.inl ⟨by rfl, ?_⟩) ?_ ?_
                    rotate_left
                    ·intro w'
                     go_simp
                     with_reducible rfl
                    rotate_left
                    ·simp only [Act.put, List.setIfInBounds_toArray, List.set_cons_zero, List.set_cons_succ, i64_w, i32_w]
                     rfl
                    refine pure_ (i := 10) (N := some 14) (v := ?_) (a' := ?_) #[true, true, true, true, true, true, true, true, true, true, true, false] rfl rfl (any_of HT_.out (by kernel_rfl)) (fun _ _ _ h => h) (Or.inl ⟨by rfl, ?_⟩) ?_ ?_
                    rotate_left
                    ·intro w'
                     go_simp
                     with_reducible rfl
                    rotate_left
                    ·simp only [Act.put, List.setIfInBounds_toArray, List.set_cons_zero, List.set_cons_succ, i64_w, i32_w]
                     rfl
                    refine pure_ (i := 11) (N := some 15) (v := ?_) (a' := ?_) #[true, true, true, true, true, true, true, true, true, true, true, true] rfl rfl (any_of HT_.out (by kernel_rfl)) (fun _ _ _ h => h) (Or.inl ⟨by rfl, ?_⟩) ?_ ?_
                    rotate_left
                    ·intro w'
                     go_simp
                     with_reducible rfl
                    rotate_left
                    ·simp only [Act.put, List.setIfInBounds_toArray, List.set_cons_zero, List.set_cons_succ, i64_w, i32_w]
                     rfl
                    refine done_ (done_of HT_.out (by kernel_rfl)) ?_
                    try go_wp2
                    go_roundg kj22
                    case measure => have := HK1.out; have := HJ6.out; have := HJ17.out; have := HJ22.out; omega
                    case rel => exact ⟨(x9_1), (wrap64 ((wrap64 (x10_6 + b0)) + 1)), tF, tF, H', ⟨by have := HK1.out; have := HJ6.out; have := HJ17.out; have := HJ22.out; omega⟩, ⟨tL⟩, ⟨tB⟩⟩
                  ·rw [if_neg c29] at H
                   exact absurd H (by simp)
                 ·rw [if_neg c28] at H
                  exact absurd H (by simp)
             ·rw [if_neg c22] at H
              exact absurd H (by simp)
            ·rw [if_neg c21] at H
             exact absurd H (by simp)
           ·replace c20 := Bool.eq_false_iff.mpr c20
            subst c20
            rw [if_neg (show ¬ (false = true) by decide)] at H
            by_cases c38 : (rd l1 x10_6) = a2
            ·rw [if_pos c38] at H
             have c38b0 : ((rd l1 x10_6) == a2) = true := beq_iff_eq.mpr c38
             have c38b1 : ((rd l1 x10_6) != a2) = false := bne_eq_false_iff_eq.mpr c38
             clear c38
             have H' := sd H
             clear H
             go_wp2
             go_roundg kj17
             case measure => have := HK1.out; have := HJ6.out; have := HJ17.out; omega
             case rel => exact ⟨(wrap64 (x9_1 + 1)), (wrap64 (x10_6 + 1)), tF, tF, H', ⟨by have := HK1.out; have := HJ6.out; have := HJ17.out; omega⟩, ⟨tL⟩, ⟨tB⟩⟩
            ·rw [if_neg c38] at H
             have c38b0 : ((rd l1 x10_6) == a2) = false := beq_eq_false_iff_ne.mpr c38
             have c38b1 : ((rd l1 x10_6) != a2) = true := bne_iff_ne.mpr c38
             by_cases c39 : (rd l1 x10_6) = a3
             ·rw [if_pos c39] at H
              have c39b0 : ((rd l1 x10_6) == a3) = true := beq_iff_eq.mpr c39
              have c39b1 : ((rd l1 x10_6) != a3) = false := bne_eq_false_iff_eq.mpr c39
              clear c39
              by_cases c40 : (wrap64 (x9_1 - 1)) = 0
              ·rw [if_pos c40] at H
               have c40b0 : ((wrap64 (x9_1 - 1)) == 0) = true := beq_iff_eq.mpr c40
               have c40b1 : ((wrap64 (x9_1 - 1)) != 0) = false := bne_eq_false_iff_eq.mpr c40
               clear c40
               obtain rfl := Option.some.inj H
               go_wp2
               go_ret
               exact ⟨tE, tB⟩
              ·rw [if_neg c40] at H
               have c40b0 : ((wrap64 (x9_1 - 1)) == 0) = false := beq_eq_false_iff_ne.mpr c40
               have c40b1 : ((wrap64 (x9_1 - 1)) != 0) = true := bne_iff_ne.mpr c40
               have H' := sd H
               clear H
               go_wp2
               go_roundg kj17
               case measure => have := HK1.out; have := HJ6.out; have := HJ17.out; omega
               case rel => exact ⟨(wrap64 (x9_1 - 1)), (wrap64 (x10_6 + 1)), tF, tF, H', ⟨by have := HK1.out; have := HJ6.out; have := HJ17.out; omega⟩, ⟨tL⟩, ⟨tB⟩⟩
             ·rw [if_neg c39] at H
              have c39b0 : ((rd l1 x10_6) == a3) = false := beq_eq_false_iff_ne.mpr c39
              have c39b1 : ((rd l1 x10_6) != a3) = true := bne_iff_ne.mpr c39
              have H' := sd H
              clear H
              go_wp2
              go_roundg kj17
              case measure => have := HK1.out; have := HJ6.out; have := HJ17.out; omega
              case rel => exact ⟨(x9_1), (wrap64 (x10_6 + 1)), tF, tF, H', ⟨by have := HK1.out; have := HJ6.out; have := HJ17.out; omega⟩, ⟨tL⟩, ⟨tB⟩⟩
        ·rw [if_neg c17] at H
         exact absurd H (by simp)
       ·rw [if_neg c16] at H
        exact absurd H (by simp)
   ·rw [if_neg c6] at H
    have c6b0 : decide (x10_1 < (l1.length : Int)) = false := decide_eq_false c6
    clear c6
    obtain rfl := Option.some.inj H
    go_wp2
    go_ret
    exact ⟨tE, tB⟩
end Go.Proofs.YthgpfljhmhkaiacGreatDoor.PFnJrTypedMisses
