/- Walks of the functions that the law calls, printed by program and rewritten. -/
import Derived.Test.YtaihmpdhaikfkaaGreatDoorV0
import Derived.Test.YtaihmpdhaikfkaaGreatDoorV8
import Derived.Test.YtaihmpdhaikfkaaGreatDoorV9
import Derived.Test.YtaihmpdhaikfkaaGreatDoorV11
import Derived.Test.YtaihmpdhaikfkaaGreatDoorV12
set_option linter.all false
namespace Go.Proofs.YtaihmpdhaikfkaaGreatDoor.PFnFjFloat
open Go.RowKit Go.Proofs.YtaihmpdhaikfkaaGreatDoorW.PrintWords Go.Proofs.YtaihmpdhaikfkaaGreatDoorW.PrintLast Go.Proofs.YtaihmpdhaikfkaaGreatDoorW.PrintMore
attribute [local go_sem] max2_int min2_int max_two min_two max_three min_three max_four min_four
/-! ### spec_nearest: function 25 -/
def spec_nearest.l0 : Nat → Int → Int → Bool → ByteArray → Int → Option (Int)
 | 0, _, _, _, _, _ => none
 | k + 1, x3, x4, a8, a9, b0 => if (IntKind.u64.wrap (x4 - x3)) > 1 then ((spec_binary.f (IntKind.u64.wrap (x3 + (IntKind.u64.wrap (Int.tdiv (IntKind.u64.wrap (x4 - x3)) 2))))).bind fun b6 => ((spec_scaled.f k b6.1 b6.2 a8 a9 b0).bind fun b1 => (if b1 ≤ 0 then (spec_nearest.l0 k (IntKind.u64.wrap (x3 + (IntKind.u64.wrap (Int.tdiv (IntKind.u64.wrap (x4 - x3)) 2)))) x4 a8 a9 b0) else (spec_nearest.l0 k x3 (IntKind.u64.wrap (x3 + (IntKind.u64.wrap (Int.tdiv (IntKind.u64.wrap (x4 - x3)) 2)))) a8 a9 b0)))) else ((spec_binary.f x3).bind fun b5 => ((spec_scaled.f k (IntKind.u64.wrap ((IntKind.u64.wrap (2 * b5.1)) + 1)) (wrap64 (b5.2 - 1)) a8 a9 b0).bind fun a4 => (if a4 < 0 then (some (IntKind.u64.wrap (x3 + 1))) else (if a4 = 0 then (if (Int.tmod b5.1 2) = 1 then (some (IntKind.u64.wrap (x3 + 1))) else (some x3)) else (some x3)))))
def spec_nearest.f (k : Nat) (a0_0 : Bool) (a0_1 : ByteArray) (a0_2 : Int) : Option (Int) := spec_nearest.l0 k 0 9218868437227405312 a0_0 a0_1 a0_2
set_option maxHeartbeats 8000000 in
set_option maxRecDepth 100000 in
theorem spec_nearest.calls (k : Nat) (a0_0 : Bool) (a0_1 : ByteArray) (a0_2 : Int) (r : Int) (w : World) (h : spec_nearest.f k a0_0 a0_1 a0_2 = some r) :
  Calls Tryz.prog 25 #[.agg #[.bool a0_0, .string a0_1, .int .i64 a0_2]] w fun e w' => e = .returned (.int .u64 r) ∧ Below w.heap.size w w' := by
 have hu34 := Tryz.underlying34
 have HB := sd (Below.refl w.heap.size w)
 have H : (spec_nearest.l0 k 0 9218868437227405312 a0_0 a0_1 a0_2) = some r := h
 clear h
 have H' := sd H
 clear H
 go_enter Tryz.func25, Tryz.ntmps25
 go_wp2_with (first | ((with_reducible refine gate_dst (N := 1) rfl ?_); refine box_event (by rfl) (N := 1) (by rfl) (cs := #[.bool a0_0, .string a0_1, .int .i64 a0_2]) (t := 34) tS ?_; intro a2 hg w2 hbox hb; have a1 := sd (hbox); have c1 := sd (leB hg tB); have c2 := sd (leB hg tB); have HB := sd (below_step tB hb); clear hb hbox hg))
 (try simp only [Act.put, List.setIfInBounds_toArray, List.set_cons_zero, List.set_cons_succ])
 go_loopg [3, 4] k (fun kq v3 v4 w' => ∃ (x3_1 : Int) (x4_1 : Int), v3 = .int .u64 x3_1 ∧ v4 = .int .u64 x4_1 ∧ Aside0 (spec_nearest.l0 kq x3_1 x4_1 a0_0 a0_1 a0_2 = some r) ∧ Aside0 (kq ≤ k) ∧ Aside0 (w'.heap[a2]? = some (.cells #[.bool a0_0, .string a0_1, .int .i64 a0_2] 34 (0, 0))) ∧ Aside0 (Below w.heap.size w w'))
 case atStart => exact ⟨(0), (9218868437227405312), tF, tF, H', ⟨Nat.le_refl _⟩, ⟨tL⟩, ⟨tB⟩⟩
 case round =>
  clear H'
  obtain ⟨x3_1, x4_1, rfl, rfl, HA, HK1, a1, HB⟩ := hrel
  cases gk with
  | zero => exact absurd HA.out (by simp [spec_nearest.l0])
  | succ k1 =>
   have H := HA.out
   clear HA
   simp only [spec_nearest.l0] at H
   by_cases c3 : (IntKind.u64.wrap (x4_1 - x3_1)) > 1
   ·rw [if_pos c3] at H
    have c3b0 : decide (1 < (IntKind.u64.wrap (x4_1 - x3_1))) = true := decide_eq_true c3
    clear c3
    replace H := Option.bind_eq_some_iff.mp H
    obtain ⟨⟨b2, b3⟩, A40, H⟩ := H
    try dsimp only at H
    have A4 := sd A40
    clear A40
    replace H := Option.bind_eq_some_iff.mp H
    obtain ⟨b1, A50, H⟩ := H
    try dsimp only at H
    have A5 := sd A50
    clear A50
    by_cases c6 : b1 ≤ 0
    ·rw [if_pos c6] at H
     have c6b0 : decide (b1 ≤ 0) = true := decide_eq_true c6
     clear c6
     have H' := sd H
     clear H
     go_wp2_with (first | ((with_reducible refine gate_callee (f := 39) rfl ?_); refine goesL_ (some 23) rfl rfl Tryz.func39 (by kernel_rfl) rfl #[.int .u64 (IntKind.u64.wrap (x3_1 + (IntKind.u64.wrap (Int.tdiv (IntKind.u64.wrap (x4_1 - x3_1)) 2))))] rfl tM ?_; (with_reducible refine (spec_binary.calls (IntKind.u64.wrap (x3_1 + (IntKind.u64.wrap (Int.tdiv (IntKind.u64.wrap (x4_1 - x3_1)) 2)))) b2 b3 _ A4.out).mono ?_); rintro e w' ⟨rfl, ⟨nd, rfl⟩⟩; refine ⟨_, rfl, ?_⟩; have hcz7_0 : wr.cell? ⟨a2, 0, none⟩ = some (.bool a0_0) := (blk_cell a1.out 0).trans rfl; have hcz7_1 : wr.cell? ⟨a2, 1, none⟩ = some (.string a0_1) := (blk_cell a1.out 1).trans rfl; have hcz7_2 : wr.cell? ⟨a2, 2, none⟩ = some (.int .i64 a0_2) := (blk_cell a1.out 2).trans rfl; have hfz7_0 := blk_frozen a1.out 0; have hfz7_1 := blk_frozen a1.out 1; have hfz7_2 := blk_frozen a1.out 2) | ((with_reducible refine gate_callee (f := 40) rfl ?_); refine goesL_ (some 29) rfl rfl Tryz.func40 (by kernel_rfl) rfl #[.int .u64 b2, .int .i64 b3, .agg #[.bool a0_0, .string a0_1, .int .i64 a0_2]] rfl tM ?_; (with_reducible refine (spec_scaled.calls k1 b2 b3 a0_0 a0_1 a0_2 b1 _ A5.out).mono ?_); rintro e w8 ⟨rfl, hb⟩; refine ⟨_, rfl, ?_⟩; have a1 := sd (blk_below (g := a2) tL hb); have HB := sd (below_step tB hb); clear hb))
     go_roundg k1
     case measure => have := HK1.out; omega
     case rel => exact ⟨(IntKind.u64.wrap (x3_1 + (IntKind.u64.wrap (Int.tdiv (IntKind.u64.wrap (x4_1 - x3_1)) 2)))), (x4_1), tF, tF, H', ⟨by have := HK1.out; omega⟩, ⟨tL⟩, ⟨tB⟩⟩
    ·rw [if_neg c6] at H
     have c6b0 : decide (b1 ≤ 0) = false := decide_eq_false c6
     clear c6
     have H' := sd H
     clear H
     go_wp2_with (first | ((with_reducible refine gate_callee (f := 39) rfl ?_); refine goesL_ (some 23) rfl rfl Tryz.func39 (by kernel_rfl) rfl #[.int .u64 (IntKind.u64.wrap (x3_1 + (IntKind.u64.wrap (Int.tdiv (IntKind.u64.wrap (x4_1 - x3_1)) 2))))] rfl tM ?_; (with_reducible refine (spec_binary.calls (IntKind.u64.wrap (x3_1 + (IntKind.u64.wrap (Int.tdiv (IntKind.u64.wrap (x4_1 - x3_1)) 2)))) b2 b3 _ A4.out).mono ?_); rintro e w' ⟨rfl, ⟨nd, rfl⟩⟩; refine ⟨_, rfl, ?_⟩; have hcz9_0 : wr.cell? ⟨a2, 0, none⟩ = some (.bool a0_0) := (blk_cell a1.out 0).trans rfl; have hcz9_1 : wr.cell? ⟨a2, 1, none⟩ = some (.string a0_1) := (blk_cell a1.out 1).trans rfl; have hcz9_2 : wr.cell? ⟨a2, 2, none⟩ = some (.int .i64 a0_2) := (blk_cell a1.out 2).trans rfl; have hfz9_0 := blk_frozen a1.out 0; have hfz9_1 := blk_frozen a1.out 1; have hfz9_2 := blk_frozen a1.out 2) | ((with_reducible refine gate_callee (f := 40) rfl ?_); refine goesL_ (some 29) rfl rfl Tryz.func40 (by kernel_rfl) rfl #[.int .u64 b2, .int .i64 b3, .agg #[.bool a0_0, .string a0_1, .int .i64 a0_2]] rfl tM ?_; (with_reducible refine (spec_scaled.calls k1 b2 b3 a0_0 a0_1 a0_2 b1 _ A5.out).mono ?_); rintro e w10 ⟨rfl, hb⟩; refine ⟨_, rfl, ?_⟩; have a1 := sd (blk_below (g := a2) tL hb); have HB := sd (below_step tB hb); clear hb))
     go_roundg k1
     case measure => have := HK1.out; omega
     case rel => exact ⟨(x3_1), (IntKind.u64.wrap (x3_1 + (IntKind.u64.wrap (Int.tdiv (IntKind.u64.wrap (x4_1 - x3_1)) 2)))), tF, tF, H', ⟨by have := HK1.out; omega⟩, ⟨tL⟩, ⟨tB⟩⟩
   ·rw [if_neg c3] at H
    have c3b0 : decide (1 < (IntKind.u64.wrap (x4_1 - x3_1))) = false := decide_eq_false c3
    clear c3
    replace H := Option.bind_eq_some_iff.mp H
    obtain ⟨⟨a3, a5⟩, b7, H⟩ := H
    try dsimp only at H
    have A11 := sd b7
    clear b7
    replace H := Option.bind_eq_some_iff.mp H
    obtain ⟨a4, b8, H⟩ := H
    try dsimp only at H
    have A12 := sd b8
    clear b8
    by_cases c13 : a4 < 0
    ·rw [if_pos c13] at H
     have c13b0 : decide (a4 < 0) = true := decide_eq_true c13
     clear c13
     obtain rfl := Option.some.inj H
     go_wp2_with (first | ((with_reducible refine gate_callee (f := 39) rfl ?_); refine goesL_ (some 35) rfl rfl Tryz.func39 (by kernel_rfl) rfl #[.int .u64 x3_1] rfl tM ?_; (with_reducible refine (spec_binary.calls x3_1 a3 a5 _ A11.out).mono ?_); rintro e w' ⟨rfl, ⟨nd, rfl⟩⟩; refine ⟨_, rfl, ?_⟩; have hcz14_0 : wr.cell? ⟨a2, 0, none⟩ = some (.bool a0_0) := (blk_cell a1.out 0).trans rfl; have hcz14_1 : wr.cell? ⟨a2, 1, none⟩ = some (.string a0_1) := (blk_cell a1.out 1).trans rfl; have hcz14_2 : wr.cell? ⟨a2, 2, none⟩ = some (.int .i64 a0_2) := (blk_cell a1.out 2).trans rfl; have hfz14_0 := blk_frozen a1.out 0; have hfz14_1 := blk_frozen a1.out 1; have hfz14_2 := blk_frozen a1.out 2) | ((with_reducible refine gate_callee (f := 40) rfl ?_); refine goesL_ (some 44) rfl rfl Tryz.func40 (by kernel_rfl) rfl #[.int .u64 (IntKind.u64.wrap ((IntKind.u64.wrap (2 * a3)) + 1)), .int .i64 (wrap64 (a5 - 1)), .agg #[.bool a0_0, .string a0_1, .int .i64 a0_2]] rfl tM ?_; (with_reducible refine (spec_scaled.calls k1 (IntKind.u64.wrap ((IntKind.u64.wrap (2 * a3)) + 1)) (wrap64 (a5 - 1)) a0_0 a0_1 a0_2 a4 _ A12.out).mono ?_); rintro e w15 ⟨rfl, hb⟩; refine ⟨_, rfl, ?_⟩; have a1 := sd (blk_below (g := a2) tL hb); have HB := sd (below_step tB hb); clear hb))
     go_ret
     exact ⟨tE, tB⟩
    ·rw [if_neg c13] at H
     have c13b0 : decide (a4 < 0) = false := decide_eq_false c13
     clear c13
     by_cases c16 : a4 = 0
     ·rw [if_pos c16] at H
      have c16b0 : (a4 == 0) = true := beq_iff_eq.mpr c16
      have c16b1 : (a4 != 0) = false := bne_eq_false_iff_eq.mpr c16
      clear c16
      by_cases c17 : (Int.tmod a3 2) = 1
      ·rw [if_pos c17] at H
       have c17b0 : ((Int.tmod a3 2) == 1) = true := beq_iff_eq.mpr c17
       have c17b1 : ((Int.tmod a3 2) != 1) = false := bne_eq_false_iff_eq.mpr c17
       clear c17
       obtain rfl := Option.some.inj H
       go_wp2_with (first | ((with_reducible refine gate_callee (f := 39) rfl ?_); refine goesL_ (some 35) rfl rfl Tryz.func39 (by kernel_rfl) rfl #[.int .u64 x3_1] rfl tM ?_; (with_reducible refine (spec_binary.calls x3_1 a3 a5 _ A11.out).mono ?_); rintro e w' ⟨rfl, ⟨nd, rfl⟩⟩; refine ⟨_, rfl, ?_⟩; have hcz18_0 : wr.cell? ⟨a2, 0, none⟩ = some (.bool a0_0) := (blk_cell a1.out 0).trans rfl; have hcz18_1 : wr.cell? ⟨a2, 1, none⟩ = some (.string a0_1) := (blk_cell a1.out 1).trans rfl; have hcz18_2 : wr.cell? ⟨a2, 2, none⟩ = some (.int .i64 a0_2) := (blk_cell a1.out 2).trans rfl; have hfz18_0 := blk_frozen a1.out 0; have hfz18_1 := blk_frozen a1.out 1; have hfz18_2 := blk_frozen a1.out 2) | ((with_reducible refine gate_callee (f := 40) rfl ?_); refine goesL_ (some 44) rfl rfl Tryz.func40 (by kernel_rfl) rfl #[.int .u64 (IntKind.u64.wrap ((IntKind.u64.wrap (2 * a3)) + 1)), .int .i64 (wrap64 (a5 - 1)), .agg #[.bool a0_0, .string a0_1, .int .i64 a0_2]] rfl tM ?_; (with_reducible refine (spec_scaled.calls k1 (IntKind.u64.wrap ((IntKind.u64.wrap (2 * a3)) + 1)) (wrap64 (a5 - 1)) a0_0 a0_1 a0_2 a4 _ A12.out).mono ?_); rintro e w19 ⟨rfl, hb⟩; refine ⟨_, rfl, ?_⟩; have a1 := sd (blk_below (g := a2) tL hb); have HB := sd (below_step tB hb); clear hb))
       go_ret
       exact ⟨tE, tB⟩
      ·rw [if_neg c17] at H
       have c17b0 : ((Int.tmod a3 2) == 1) = false := beq_eq_false_iff_ne.mpr c17
       have c17b1 : ((Int.tmod a3 2) != 1) = true := bne_iff_ne.mpr c17
       obtain rfl := Option.some.inj H
       go_wp2_with (first | ((with_reducible refine gate_callee (f := 39) rfl ?_); refine goesL_ (some 35) rfl rfl Tryz.func39 (by kernel_rfl) rfl #[.int .u64 x3_1] rfl tM ?_; (with_reducible refine (spec_binary.calls x3_1 a3 a5 _ A11.out).mono ?_); rintro e w' ⟨rfl, ⟨nd, rfl⟩⟩; refine ⟨_, rfl, ?_⟩; have hcz20_0 : wr.cell? ⟨a2, 0, none⟩ = some (.bool a0_0) := (blk_cell a1.out 0).trans rfl; have hcz20_1 : wr.cell? ⟨a2, 1, none⟩ = some (.string a0_1) := (blk_cell a1.out 1).trans rfl; have hcz20_2 : wr.cell? ⟨a2, 2, none⟩ = some (.int .i64 a0_2) := (blk_cell a1.out 2).trans rfl; have hfz20_0 := blk_frozen a1.out 0; have hfz20_1 := blk_frozen a1.out 1; have hfz20_2 := blk_frozen a1.out 2) | ((with_reducible refine gate_callee (f := 40) rfl ?_); refine goesL_ (some 44) rfl rfl Tryz.func40 (by kernel_rfl) rfl #[.int .u64 (IntKind.u64.wrap ((IntKind.u64.wrap (2 * a3)) + 1)), .int .i64 (wrap64 (a5 - 1)), .agg #[.bool a0_0, .string a0_1, .int .i64 a0_2]] rfl tM ?_; (with_reducible refine (spec_scaled.calls k1 (IntKind.u64.wrap ((IntKind.u64.wrap (2 * a3)) + 1)) (wrap64 (a5 - 1)) a0_0 a0_1 a0_2 a4 _ A12.out).mono ?_); rintro e w21 ⟨rfl, hb⟩; refine ⟨_, rfl, ?_⟩; have a1 := sd (blk_below (g := a2) tL hb); have HB := sd (below_step tB hb); clear hb))
       go_ret
       exact ⟨tE, tB⟩
     ·rw [if_neg c16] at H
      have c16b0 : (a4 == 0) = false := beq_eq_false_iff_ne.mpr c16
      have c16b1 : (a4 != 0) = true := bne_iff_ne.mpr c16
      obtain rfl := Option.some.inj H
      go_wp2_with (first | ((with_reducible refine gate_callee (f := 39) rfl ?_); refine goesL_ (some 35) rfl rfl Tryz.func39 (by kernel_rfl) rfl #[.int .u64 x3_1] rfl tM ?_; (with_reducible refine (spec_binary.calls x3_1 a3 a5 _ A11.out).mono ?_); rintro e w' ⟨rfl, ⟨nd, rfl⟩⟩; refine ⟨_, rfl, ?_⟩; have hcz22_0 : wr.cell? ⟨a2, 0, none⟩ = some (.bool a0_0) := (blk_cell a1.out 0).trans rfl; have hcz22_1 : wr.cell? ⟨a2, 1, none⟩ = some (.string a0_1) := (blk_cell a1.out 1).trans rfl; have hcz22_2 : wr.cell? ⟨a2, 2, none⟩ = some (.int .i64 a0_2) := (blk_cell a1.out 2).trans rfl; have hfz22_0 := blk_frozen a1.out 0; have hfz22_1 := blk_frozen a1.out 1; have hfz22_2 := blk_frozen a1.out 2) | ((with_reducible refine gate_callee (f := 40) rfl ?_); refine goesL_ (some 44) rfl rfl Tryz.func40 (by kernel_rfl) rfl #[.int .u64 (IntKind.u64.wrap ((IntKind.u64.wrap (2 * a3)) + 1)), .int .i64 (wrap64 (a5 - 1)), .agg #[.bool a0_0, .string a0_1, .int .i64 a0_2]] rfl tM ?_; (with_reducible refine (spec_scaled.calls k1 (IntKind.u64.wrap ((IntKind.u64.wrap (2 * a3)) + 1)) (wrap64 (a5 - 1)) a0_0 a0_1 a0_2 a4 _ A12.out).mono ?_); rintro e w23 ⟨rfl, hb⟩; refine ⟨_, rfl, ?_⟩; have a1 := sd (blk_below (g := a2) tL hb); have HB := sd (below_step tB hb); clear hb))
      go_ret
      exact ⟨tE, tB⟩
/-! ### spec_Exactly: function 6 -/
mutual
def spec_Exactly.l0 : Nat → ByteArray → Int → Int → Bool → Option (Bool)
 | 0, _, _, _, _ => none
 | k + 1, x0, x3, x4, x5 => if x3 < (x0.size : Int) then (if 0 ≤ x3 then (if (bt x0 x3) = 101 then (spec_Exactly.j1 k x0 x3 x4 x5 false) else (spec_Exactly.j1 k x0 x3 x4 x5 ((bt x0 x3) != 69))) else (none)) else (spec_Exactly.j1 k x0 x3 x4 x5 false)
def spec_Exactly.j1 : Nat → ByteArray → Int → Int → Bool → Bool → Option (Bool)
 | 0, _, _, _, _, _ => none
 | k + 1, x0, x3, x4, x5, x26 => if x26 = true then (if 0 ≤ x3 then (if x3 < (x0.size : Int) then (if (bt x0 x3) = 46 then (spec_Exactly.l0 k x0 (wrap64 (x3 + 1)) x4 true) else (if (bt x0 x3) = 45 then (spec_Exactly.l0 k x0 (wrap64 (x3 + 1)) x4 x5) else (spec_Exactly.l0 k x0 (wrap64 (x3 + 1)) (wrap64 (x4 + 1)) x5))) else (none)) else (none)) else (if x4 > 15 then (some false) else (if x3 = (x0.size : Int) then (some true) else (if 0 ≤ (wrap64 (x3 + 1)) then (if (wrap64 (x3 + 1)) ≤ (x0.size : Int) then ((spec_signed.f k (x0.extract ((wrap64 (x3 + 1)) : Int).toNat x0.size)).bind fun a6 => (if a6.2 = true then (if x5 = true then (some false) else (if 0 ≤ a6.1 then (if a6.1 ≤ 22 then (if (wrap64 (x3 + 1)) < (x0.size : Int) then (some ((bt x0 (wrap64 (x3 + 1))) != 45)) else (none)) else (some false)) else (some false))) else (some false))) else (none)) else (none))))
end
def spec_Exactly.f (k : Nat) (a0 : ByteArray) : Option (Bool) := (spec_IsNumber.f k a0).bind fun b4 => (if b4 = true then (spec_Exactly.l0 k a0 0 0 false) else (some false))
theorem tl13_0 {P : Prop} (h : P := by
 obtain rfl := Option.some.inj H
 go_wp2_with (first | ((with_reducible refine gate_callee (f := 15) rfl ?_); refine goesL_ (some 52) rfl rfl Tryz.func15 (by kernel_rfl) rfl #[.string (a0.extract ((ji20) : Int).toNat a0.size)] rfl (by (try simp only [List.map_toArray, List.map_cons, List.map_nil]); first | done | (simp only [hji20]; rfl) | rfl | (simp only [List.length_drop, List.length_take]; rfl)) ?_; (with_reducible refine (spec_signed.calls kj4 (a0.extract ((ji20) : Int).toNat a0.size) a7 true _ A23.out).mono ?_); rintro e w' ⟨rfl, ⟨nd, rfl⟩⟩; refine ⟨_, rfl, ?_⟩))
 go_ret
 exact ⟨by first | rfl | (simp [errW_none, errW_some] <;> rfl) | (simp only [← hji20]; first | rfl | (simp [errW_none, errW_some] <;> rfl)) | (simp [*, errW_none, errW_some] <;> rfl), tB⟩) : P := h
set_option maxHeartbeats 8000000 in
set_option maxRecDepth 100000 in
theorem spec_Exactly.calls (k : Nat) (a0 : ByteArray) (r : Bool) (w : World) (h : spec_Exactly.f k a0 = some r) :
  Calls Tryz.prog 6 #[.string a0] w fun e w' => e = .returned (.bool r) ∧ Below w.heap.size w w' := by
 have HB := sd (Below.refl w.heap.size w)
 have H : ((spec_IsNumber.f k a0).bind fun b4 => (if b4 = true then (spec_Exactly.l0 k a0 0 0 false) else (some false))) = some r := h
 clear h
 replace H := Option.bind_eq_some_iff.mp H
 obtain ⟨b4, A20, H⟩ := H
 try dsimp only at H
 have A2 := sd A20
 clear A20
 by_cases c3 : b4 = true
 ·subst c3
  rw [if_pos rfl] at H
  have H' := sd H
  clear H
  go_enter Tryz.func6, Tryz.ntmps6
  go_wp2_with (first | ((with_reducible refine gate_callee (f := 14) rfl ?_); refine goesL_ (some 9) rfl rfl Tryz.func14 (by kernel_rfl) rfl #[.string a0] rfl tM ?_; (with_reducible refine (spec_IsNumber.calls k a0 true _ A2.out).mono ?_); rintro e w4 ⟨rfl, hb⟩; refine ⟨_, rfl, ?_⟩; have HB := sd (below_step tB hb); clear hb))
  (try simp only [Act.put, List.setIfInBounds_toArray, List.set_cons_zero, List.set_cons_succ])
  go_loopg [3, 4, 5] k (fun kq v3 v4 v5 w' => ∃ (x3_1 : Int) (x4_1 : Int) (x5_1 : Bool), v3 = .int .i64 x3_1 ∧ v4 = .int .i64 x4_1 ∧ v5 = .bool x5_1 ∧ Aside0 (spec_Exactly.l0 kq a0 x3_1 x4_1 x5_1 = some r) ∧ Aside0 (kq ≤ k) ∧ Aside0 (Below w.heap.size w w'))
  case atStart => exact ⟨(0), (0), (false), tF, tF, tF, H', ⟨Nat.le_refl _⟩, ⟨tB⟩⟩
  case round =>
   clear H'
   obtain ⟨x3_1, x4_1, x5_1, rfl, rfl, rfl, HA, HK1, HB⟩ := hrel
   cases gk with
   | zero => exact absurd HA.out (by simp [spec_Exactly.l0])
   | succ k1 =>
    have H := HA.out
    clear HA
    simp only [spec_Exactly.l0] at H
    have HC5 := sd H
    clear H
    go_upto_region 5 with (fail)
    go_cut [26] (fun v26 wc => ∃ (kq : Nat) (x26_4 : Bool), v26 = .bool x26_4 ∧ Aside0 (spec_Exactly.j1 kq a0 x3_1 x4_1 x5_1 x26_4 = some r) ∧ Aside0 (kq ≤ k1) ∧ Aside0 (Below w.heap.size w wc))
    case first =>
     have H := HC5.out
     clear HC5
     by_cases c6 : x3_1 < (a0.size : Int)
     ·rw [if_pos c6] at H
      have c6b0 : decide (x3_1 < (a0.size : Int)) = true := decide_eq_true c6
      clear c6
      (first | rw [c6b0] | (simp only [i64_w, i32_w]; rw [c6b0]) | skip)
      by_cases c7 : 0 ≤ x3_1
      ·rw [if_pos c7] at H
       have c7b0 : decide (0 ≤ x3_1) = true := decide_eq_true c7
       clear c7
       by_cases c9 : (bt a0 x3_1) = 101
       ·rw [if_pos c9] at H
        have c9b0 : ((bt a0 x3_1) == 101) = true := beq_iff_eq.mpr c9
        have c9b1 : ((bt a0 x3_1) != 101) = false := bne_eq_false_iff_eq.mpr c9
        clear c9
        have H' := sd H
        clear H
        have p8 : 0 ≤ (x3_1 : Int) := of_decide_eq_true (by first | (with_reducible assumption) | assumption)
        have q8 : x3_1 < (a0.size : Int) := of_decide_eq_true (by first | (with_reducible assumption) | assumption)
        have hx8 := bt_at a0 x3_1
        replace p8 := eq_true p8
        replace q8 := eq_true q8
        go_wp2
        go_meet
        case rel => exact ⟨_, (false), tF, H', ⟨by have := HK1.out; first | omega | exact Nat.le_refl _⟩, ⟨tB⟩⟩
       ·rw [if_neg c9] at H
        have c9b0 : ((bt a0 x3_1) == 101) = false := beq_eq_false_iff_ne.mpr c9
        have c9b1 : ((bt a0 x3_1) != 101) = true := bne_iff_ne.mpr c9
        have H' := sd H
        clear H
        have p8 : 0 ≤ (x3_1 : Int) := of_decide_eq_true (by first | (with_reducible assumption) | assumption)
        have q8 : x3_1 < (a0.size : Int) := of_decide_eq_true (by first | (with_reducible assumption) | assumption)
        have hx8 := bt_at a0 x3_1
        replace p8 := eq_true p8
        replace q8 := eq_true q8
        have p10 : 0 ≤ (x3_1 : Int) := of_decide_eq_true (by first | (with_reducible assumption) | assumption)
        have q10 : x3_1 < (a0.size : Int) := of_decide_eq_true (by first | (with_reducible assumption) | assumption)
        have hx10 := bt_at a0 x3_1
        replace p10 := eq_true p10
        replace q10 := eq_true q10
        go_wp2
        go_meet
        case rel => exact ⟨_, (((bt a0 x3_1) != 69)), tF, H', ⟨by have := HK1.out; first | omega | exact Nat.le_refl _⟩, ⟨tB⟩⟩
      ·rw [if_neg c7] at H
       exact absurd H (by simp)
     ·rw [if_neg c6] at H
      have c6b0 : decide (x3_1 < (a0.size : Int)) = false := decide_eq_false c6
      clear c6
      (first | rw [c6b0] | (simp only [i64_w, i32_w]; rw [c6b0]) | skip)
      have H' := sd H
      clear H
      go_wp2
      go_meet
      case rel => exact ⟨_, (false), tF, H', ⟨by have := HK1.out; first | omega | exact Nat.le_refl _⟩, ⟨tB⟩⟩
    case rest =>
     clear HC5
     obtain ⟨kq, x26_4, rfl, HA, HJ4, HB⟩ := hcut
     cases kq with
     | zero => exact absurd HA.out (by simp [spec_Exactly.j1])
     | succ kj4 =>
      have H := HA.out
      clear HA
      simp only [spec_Exactly.j1] at H
      by_cases c11 : x26_4 = true
      ·subst c11
       rw [if_pos rfl] at H
       by_cases c12 : 0 ≤ x3_1
       ·rw [if_pos c12] at H
        have c12b0 : decide (0 ≤ x3_1) = true := decide_eq_true c12
        clear c12
        by_cases c13 : x3_1 < (a0.size : Int)
        ·rw [if_pos c13] at H
         have c13b0 : decide (x3_1 < (a0.size : Int)) = true := decide_eq_true c13
         clear c13
         by_cases c15 : (bt a0 x3_1) = 46
         ·rw [if_pos c15] at H
          have c15b0 : ((bt a0 x3_1) == 46) = true := beq_iff_eq.mpr c15
          have c15b1 : ((bt a0 x3_1) != 46) = false := bne_eq_false_iff_eq.mpr c15
          clear c15
          have H' := sd H
          clear H
          have p14 : 0 ≤ (x3_1 : Int) := of_decide_eq_true (by first | (with_reducible assumption) | assumption)
          have q14 : x3_1 < (a0.size : Int) := of_decide_eq_true (by first | (with_reducible assumption) | assumption)
          have hx14 := bt_at a0 x3_1
          replace p14 := eq_true p14
          replace q14 := eq_true q14
          go_wp2
          go_roundg kj4
          case measure => have := HK1.out; have := HJ4.out; omega
          case rel => exact ⟨(wrap64 (x3_1 + 1)), (x4_1), (true), tF, tF, tF, H', ⟨by have := HK1.out; have := HJ4.out; omega⟩, ⟨tB⟩⟩
         ·rw [if_neg c15] at H
          have c15b0 : ((bt a0 x3_1) == 46) = false := beq_eq_false_iff_ne.mpr c15
          have c15b1 : ((bt a0 x3_1) != 46) = true := bne_iff_ne.mpr c15
          by_cases c17 : (bt a0 x3_1) = 45
          ·rw [if_pos c17] at H
           have c17b0 : ((bt a0 x3_1) == 45) = true := beq_iff_eq.mpr c17
           have c17b1 : ((bt a0 x3_1) != 45) = false := bne_eq_false_iff_eq.mpr c17
           clear c17
           have H' := sd H
           clear H
           have p14 : 0 ≤ (x3_1 : Int) := of_decide_eq_true (by first | (with_reducible assumption) | assumption)
           have q14 : x3_1 < (a0.size : Int) := of_decide_eq_true (by first | (with_reducible assumption) | assumption)
           have hx14 := bt_at a0 x3_1
           replace p14 := eq_true p14
           replace q14 := eq_true q14
           have p16 : 0 ≤ (x3_1 : Int) := of_decide_eq_true (by first | (with_reducible assumption) | assumption)
           have q16 : x3_1 < (a0.size : Int) := of_decide_eq_true (by first | (with_reducible assumption) | assumption)
           have hx16 := bt_at a0 x3_1
           replace p16 := eq_true p16
           replace q16 := eq_true q16
           go_wp2
           go_roundg kj4
           case measure => have := HK1.out; have := HJ4.out; omega
           case rel => exact ⟨(wrap64 (x3_1 + 1)), (x4_1), (x5_1), tF, tF, tF, H', ⟨by have := HK1.out; have := HJ4.out; omega⟩, ⟨tB⟩⟩
          ·rw [if_neg c17] at H
           have c17b0 : ((bt a0 x3_1) == 45) = false := beq_eq_false_iff_ne.mpr c17
           have c17b1 : ((bt a0 x3_1) != 45) = true := bne_iff_ne.mpr c17
           have H' := sd H
           clear H
           have p14 : 0 ≤ (x3_1 : Int) := of_decide_eq_true (by first | (with_reducible assumption) | assumption)
           have q14 : x3_1 < (a0.size : Int) := of_decide_eq_true (by first | (with_reducible assumption) | assumption)
           have hx14 := bt_at a0 x3_1
           replace p14 := eq_true p14
           replace q14 := eq_true q14
           have p16 : 0 ≤ (x3_1 : Int) := of_decide_eq_true (by first | (with_reducible assumption) | assumption)
           have q16 : x3_1 < (a0.size : Int) := of_decide_eq_true (by first | (with_reducible assumption) | assumption)
           have hx16 := bt_at a0 x3_1
           replace p16 := eq_true p16
           replace q16 := eq_true q16
           go_wp2
           go_roundg kj4
           case measure => have := HK1.out; have := HJ4.out; omega
           case rel => exact ⟨(wrap64 (x3_1 + 1)), (wrap64 (x4_1 + 1)), (x5_1), tF, tF, tF, H', ⟨by have := HK1.out; have := HJ4.out; omega⟩, ⟨tB⟩⟩
        ·rw [if_neg c13] at H
         exact absurd H (by simp)
       ·rw [if_neg c12] at H
        exact absurd H (by simp)
      ·replace c11 := Bool.eq_false_iff.mpr c11
       subst c11
       rw [if_neg (show ¬ (false = true) by decide)] at H
       by_cases c18 : x4_1 > 15
       ·rw [if_pos c18] at H
        have c18b0 : decide (15 < x4_1) = true := decide_eq_true c18
        clear c18
        obtain rfl := Option.some.inj H
        go_wp2
        go_ret
        exact ⟨tE, tB⟩
       ·rw [if_neg c18] at H
        have c18b0 : decide (15 < x4_1) = false := decide_eq_false c18
        clear c18
        by_cases c19 : x3_1 = (a0.size : Int)
        ·rw [if_pos c19] at H
         have c19b0 : (x3_1 == (a0.size : Int)) = true := beq_iff_eq.mpr c19
         have c19b1 : (x3_1 != (a0.size : Int)) = false := bne_eq_false_iff_eq.mpr c19
         clear c19
         obtain rfl := Option.some.inj H
         go_wp2
         go_ret
         exact ⟨tE, tB⟩
        ·rw [if_neg c19] at H
         have c19b0 : (x3_1 == (a0.size : Int)) = false := beq_eq_false_iff_ne.mpr c19
         have c19b1 : (x3_1 != (a0.size : Int)) = true := bne_iff_ne.mpr c19
         obtain ⟨ji20, hji20⟩ : ∃ j_ : Int, (wrap64 (x3_1 + 1)) = j_ := ⟨_, rfl⟩
         replace H : (if 0 ≤ (ji20) then (if (ji20) ≤ (a0.size : Int) then ((spec_signed.f kj4 (a0.extract ((ji20) : Int).toNat a0.size)).bind fun a6 => (if a6.2 = true then (if x5_1 = true then (some false) else (if 0 ≤ a6.1 then (if a6.1 ≤ 22 then (if (ji20) < (a0.size : Int) then (some ((bt a0 (ji20)) != 45)) else (none)) else (some false)) else (some false))) else (some false))) else (none)) else (none)) = some r := by first | (rw [hji20] at H; exact H) | (simp only [hji20] at H ⊢; exact H)
         have hji20w : (IntKind.i64.wrap (x3_1 + 1)) = ji20 := (i64_w _).trans hji20
         by_cases c21 : 0 ≤ (ji20)
         ·rw [if_pos c21] at H
          have c21b0 := eq_true c21
          have c21b1 : decide (0 ≤ (ji20)) = true := decide_eq_true c21
          clear c21
          by_cases c22 : (ji20) ≤ (a0.size : Int)
          ·rw [if_pos c22] at H
           have c22b0 := eq_true c22
           have c22b1 : decide ((ji20) ≤ (a0.size : Int)) = true := decide_eq_true c22
           clear c22
           replace H := Option.bind_eq_some_iff.mp H
           obtain ⟨⟨a7, c0⟩, b9, H⟩ := H
           try dsimp only at H
           have A23 := sd b9
           clear b9
           by_cases c24 : c0 = true
           ·subst c24
            rw [if_pos rfl] at H
            by_cases c25 : x5_1 = true
            ·subst c25
             rw [if_pos rfl] at H
             exact tl13_0
            ·replace c25 := Bool.eq_false_iff.mpr c25
             subst c25
             rw [if_neg (show ¬ (false = true) by decide)] at H
             by_cases c26 : 0 ≤ a7
             ·rw [if_pos c26] at H
              have c26b0 : decide (0 ≤ a7) = true := decide_eq_true c26
              clear c26
              by_cases c27 : a7 ≤ 22
              ·rw [if_pos c27] at H
               have c27b0 : decide (a7 ≤ 22) = true := decide_eq_true c27
               clear c27
               by_cases c28 : (ji20) < (a0.size : Int)
               ·rw [if_pos c28] at H
                have c28b0 : decide ((ji20) < (a0.size : Int)) = true := decide_eq_true c28
                clear c28
                obtain rfl := Option.some.inj H
                go_wp2_with (first | ((with_reducible refine gate_callee (f := 15) rfl ?_); refine goesL_ (some 52) rfl rfl Tryz.func15 (by kernel_rfl) rfl #[.string (a0.extract ((ji20) : Int).toNat a0.size)] rfl (by (try simp only [List.map_toArray, List.map_cons, List.map_nil]); first | done | (simp only [hji20]; rfl) | rfl | (simp only [List.length_drop, List.length_take]; rfl)) ?_; (with_reducible refine (spec_signed.calls kj4 (a0.extract ((ji20) : Int).toNat a0.size) a7 true _ A23.out).mono ?_); rintro e w' ⟨rfl, ⟨nd, rfl⟩⟩; refine ⟨_, rfl, ?_⟩; have p29 : 0 ≤ ((ji20) : Int) := of_decide_eq_true (by first | (with_reducible assumption) | assumption); have q29 : (ji20) < (a0.size : Int) := of_decide_eq_true (by first | (with_reducible assumption) | assumption); have hx29 := bt_at a0 (ji20); replace p29 := eq_true p29; replace q29 := eq_true q29))
                go_ret
                exact ⟨by first | rfl | (simp [errW_none, errW_some] <;> rfl) | (simp only [← hji20]; first | rfl | (simp [errW_none, errW_some] <;> rfl)) | (simp [*, errW_none, errW_some] <;> rfl), tB⟩
               ·rw [if_neg c28] at H
                exact absurd H (by simp)
              ·rw [if_neg c27] at H
               have c27b0 : decide (a7 ≤ 22) = false := decide_eq_false c27
               clear c27
               exact tl13_0
             ·rw [if_neg c26] at H
              have c26b0 : decide (0 ≤ a7) = false := decide_eq_false c26
              clear c26
              exact tl13_0
           ·replace c24 := Bool.eq_false_iff.mpr c24
            subst c24
            rw [if_neg (show ¬ (false = true) by decide)] at H
            obtain rfl := Option.some.inj H
            go_wp2_with (first | ((with_reducible refine gate_callee (f := 15) rfl ?_); refine goesL_ (some 52) rfl rfl Tryz.func15 (by kernel_rfl) rfl #[.string (a0.extract ((ji20) : Int).toNat a0.size)] rfl (by (try simp only [List.map_toArray, List.map_cons, List.map_nil]); first | done | (simp only [hji20]; rfl) | rfl | (simp only [List.length_drop, List.length_take]; rfl)) ?_; (with_reducible refine (spec_signed.calls kj4 (a0.extract ((ji20) : Int).toNat a0.size) a7 false _ A23.out).mono ?_); rintro e w' ⟨rfl, ⟨nd, rfl⟩⟩; refine ⟨_, rfl, ?_⟩))
            go_ret
            exact ⟨by first | rfl | (simp [errW_none, errW_some] <;> rfl) | (simp only [← hji20]; first | rfl | (simp [errW_none, errW_some] <;> rfl)) | (simp [*, errW_none, errW_some] <;> rfl), tB⟩
          ·rw [if_neg c22] at H
           exact absurd H (by simp)
         ·rw [if_neg c21] at H
          exact absurd H (by simp)
 ·replace c3 := Bool.eq_false_iff.mpr c3
  subst c3
  rw [if_neg (show ¬ (false = true) by decide)] at H
  obtain rfl := Option.some.inj H
  go_enter Tryz.func6, Tryz.ntmps6
  go_wp2_with (first | ((with_reducible refine gate_callee (f := 14) rfl ?_); refine goesL_ (some 9) rfl rfl Tryz.func14 (by kernel_rfl) rfl #[.string a0] rfl tM ?_; (with_reducible refine (spec_IsNumber.calls k a0 false _ A2.out).mono ?_); rintro e w30 ⟨rfl, hb⟩; refine ⟨_, rfl, ?_⟩; have HB := sd (below_step tB hb); clear hb))
  go_ret
  exact ⟨tE, tB⟩
end Go.Proofs.YtaihmpdhaikfkaaGreatDoor.PFnFjFloat
