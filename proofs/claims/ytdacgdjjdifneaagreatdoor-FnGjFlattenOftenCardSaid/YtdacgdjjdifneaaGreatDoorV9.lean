/- Walks of functions that the law calls, printed and rewritten by program. -/
import Derived.Test.YtdacgdjjdifneaaGreatDoorV0
import Derived.Test.YtdacgdjjdifneaaGreatDoorV5
import Derived.Test.YtdacgdjjdifneaaGreatDoorV8
set_option linter.all false
set_option maxHeartbeats 16000000
set_option maxRecDepth 100000
namespace Go.Proofs.YtdacgdjjdifneaaGreatDoor.PFnGjFlattenOften
open Go.RowKit Go.Proofs.YtdacgdjjdifneaaGreatDoorW.PrintWords Go.Proofs.YtdacgdjjdifneaaGreatDoorW.PrintLast Go.Proofs.YtdacgdjjdifneaaGreatDoorW.PrintMore
attribute [local go_sem] max2_int min2_int max_two min_two max_three min_three max_four min_four
def spec_Paired.l0 : Nat → ByteArray → Int → Option (Bool)
 | 0, _, _ => none
 | k + 1, x0, x3 => if x3 < (x0.size : Int) then (if 0 ≤ x3 then (if (bt x0 x3) = 92 then ((spec_unit.f k x0 x3).bind fun b5 => (if b5.2 = true then ((spec_high.f b5.1).bind fun b8 => (if b8 = true then ((spec_unit.f k x0 (wrap64 (x3 + 6))).bind fun c1 => (if c1.2 = true then ((spec_low.f c1.1).bind fun b9 => (if b9 = true then (spec_Paired.l0 k x0 (wrap64 (x3 + 12))) else (some false))) else (some false))) else ((spec_low.f b5.1).bind fun c0 => (if c0 = true then (some false) else (spec_Paired.l0 k x0 (wrap64 (x3 + 6))))))) else (spec_Paired.l0 k x0 (wrap64 (x3 + 2))))) else (spec_Paired.l0 k x0 (wrap64 (x3 + 1)))) else (none)) else (some true)
def spec_Paired.f (k : Nat) (a0 : ByteArray) : Option (Bool) := spec_Paired.l0 k a0 0
theorem spec_Paired.mono_l : ∀ k, (∀ y0 y1, LeO (spec_Paired.l0 k y0 y1) (spec_Paired.l0 (k + 1) y0 y1))
 | 0 => fun _ _ r h => by simp [spec_Paired.l0] at h
 | k + 1 => by
  have ih0 := spec_Paired.mono_l k
  ·intro y0 y1; unfold spec_Paired.l0
   repeat' first
   | (with_reducible exact ih0 _ _)
   | (with_reducible exact spec_unit.mono _ _ _)
   | (with_reducible exact LeO.refl _)
   | (with_reducible exact LeO.none _)
   | (with_reducible refine LeO.ite ?_ ?_)
   | (with_reducible refine LeO.bind ?_ (fun _ => ?_))
   | exact ih0 _ _
   | exact spec_unit.mono _ _ _
   | exact LeO.none _
   | refine LeO.ite ?_ ?_
   | refine LeO.bind ?_ (fun _ => ?_)
theorem spec_Paired.mono : ∀ a0 k, LeO (spec_Paired.f k a0) (spec_Paired.f (k + 1) a0) := by
 intro a0 k; have ih0 := spec_Paired.mono_l k; unfold spec_Paired.f
 repeat' first
   | (with_reducible exact ih0 _ _)
   | (with_reducible exact spec_unit.mono _ _ _)
   | (with_reducible exact LeO.refl _)
   | (with_reducible exact LeO.none _)
   | (with_reducible refine LeO.ite ?_ ?_)
   | (with_reducible refine LeO.bind ?_ (fun _ => ?_))
   | exact ih0 _ _
   | exact spec_unit.mono _ _ _
   | exact LeO.none _
   | refine LeO.ite ?_ ?_
   | refine LeO.bind ?_ (fun _ => ?_)
theorem spec_Paired.calls (k : Nat) (a0 : ByteArray) (r : Bool) (w : World) (h : spec_Paired.f k a0 = some r) :
  Calls Tryz.prog 18 #[.string a0] w fun e w' => e = .returned (.bool r) ∧ Drawn0 w w' := by
 have H : (spec_Paired.l0 k a0 0) = some r := h; clear h; have H' := sd H; clear H; go_enter Tryz.func18, Tryz.ntmps18; go_wp2; (try simp only [Act.put, List.setIfInBounds_toArray, List.set_cons_zero, List.set_cons_succ]); go_loopg [3] k (fun kq v3 w' => ∃ (x3_1 : Int), v3 = .int .i64 x3_1 ∧ Aside0 (spec_Paired.l0 kq a0 x3_1 = some r) ∧ Aside0 (kq ≤ k) ∧ Drawn0 w w')
 case atStart => exact ⟨(0), tF, H', ⟨Nat.le_refl _⟩, tD⟩
 case round =>
  clear H'; obtain ⟨x3_1, rfl, HA, HK1, ⟨m1, rfl⟩⟩ := hrel
  cases gk with
  | zero => exact absurd HA.out (by simp [spec_Paired.l0])
  | succ k1 =>
   have H := HA.out; clear HA; simp only [spec_Paired.l0] at H
   by_cases c2 : x3_1 < (a0.size : Int)
   ·rw [if_pos c2] at H; have c2b0 : decide (x3_1 < (a0.size : Int)) = true := decide_eq_true c2; clear c2
    by_cases c3 : 0 ≤ x3_1
    ·rw [if_pos c3] at H; have c3b0 : decide (0 ≤ x3_1) = true := decide_eq_true c3; clear c3
     by_cases c5 : (bt a0 x3_1) = 92
     ·rw [if_pos c5] at H; have c5b0 : ((bt a0 x3_1) == 92) = true := beq_iff_eq.mpr c5; have c5b1 : ((bt a0 x3_1) != 92) = false := bne_eq_false_iff_eq.mpr c5; clear c5; replace H := Option.bind_eq_some_iff.mp H; obtain ⟨⟨a5, e1⟩, A60, H⟩ := H
      try dsimp only at H
      have A6 := sd A60; clear A60
      by_cases c7 : e1 = true
      ·subst c7; rw [if_pos rfl] at H; replace H := Option.bind_eq_some_iff.mp H; obtain ⟨b8, A80, H⟩ := H
       try dsimp only at H
       have A8 := sd A80; clear A80
       by_cases c9 : b8 = true
       ·subst c9; rw [if_pos rfl] at H; replace H := Option.bind_eq_some_iff.mp H; obtain ⟨⟨b2, e2⟩, d4, H⟩ := H
        try dsimp only at H
        have A10 := sd d4; clear d4
        by_cases c11 : e2 = true
        ·subst c11; rw [if_pos rfl] at H; replace H := Option.bind_eq_some_iff.mp H; obtain ⟨b9, d5, H⟩ := H
         try dsimp only at H
         have A12 := sd d5; clear d5
         by_cases c13 : b9 = true
         ·subst c13; rw [if_pos rfl] at H; have H' := sd H; clear H; have p4 : 0 ≤ (x3_1 : Int) := tX; have q4 : x3_1 < (a0.size : Int) := tX; have hx4 := bt_at a0 x3_1; replace p4 := eq_true p4; replace q4 := eq_true q4
          go_wp2_with (first | ((with_reducible refine gate_callee (f := 29) rfl ?_); refine goesL_ (some 21) rfl rfl Tryz.func29 (by kernel_rfl) rfl #[.string a0, .int .i64 x3_1] rfl tM ?_; (with_reducible refine (spec_unit.calls k1 a0 x3_1 a5 true _ A6.out).mono ?_); rintro e w' ⟨rfl, ⟨nd, rfl⟩⟩; refine ⟨_, rfl, ?_⟩) | ((with_reducible refine gate_callee (f := 30) rfl ?_); refine goesL_ (some 33) rfl rfl Tryz.func30 (by kernel_rfl) rfl #[.int .i64 a5] rfl tM ?_; (with_reducible refine (spec_high.calls a5 true _ A8.out).mono ?_); rintro e w' ⟨rfl, ⟨nd, rfl⟩⟩; refine ⟨_, rfl, ?_⟩) | ((with_reducible refine gate_callee (f := 29) rfl ?_); refine goesL_ (some 38) rfl rfl Tryz.func29 (by kernel_rfl) rfl #[.string a0, .int .i64 (wrap64 (x3_1 + 6))] rfl tM ?_; (with_reducible refine (spec_unit.calls k1 a0 (wrap64 (x3_1 + 6)) b2 true _ A10.out).mono ?_); rintro e w' ⟨rfl, ⟨nd, rfl⟩⟩; refine ⟨_, rfl, ?_⟩) | (go_at_call 31; (with_reducible refine (spec_low.calls b2 true _ A12.out).mono ?_); rintro e w' ⟨rfl, ⟨nd, rfl⟩⟩))
          go_roundg k1
          case measure => have := HK1.out; omega
          case rel => exact ⟨(wrap64 (x3_1 + 12)), tF, H', ⟨by have := HK1.out; omega⟩, tD⟩
         ·replace c13 := Bool.eq_false_iff.mpr c13; subst c13; rw [if_neg (show ¬ (false = true) by decide)] at H; obtain rfl := Option.some.inj H; have p4 : 0 ≤ (x3_1 : Int) := tX; have q4 : x3_1 < (a0.size : Int) := tX; have hx4 := bt_at a0 x3_1; replace p4 := eq_true p4; replace q4 := eq_true q4
          go_wp2_with (first | ((with_reducible refine gate_callee (f := 29) rfl ?_); refine goesL_ (some 21) rfl rfl Tryz.func29 (by kernel_rfl) rfl #[.string a0, .int .i64 x3_1] rfl tM ?_; (with_reducible refine (spec_unit.calls k1 a0 x3_1 a5 true _ A6.out).mono ?_); rintro e w' ⟨rfl, ⟨nd, rfl⟩⟩; refine ⟨_, rfl, ?_⟩) | ((with_reducible refine gate_callee (f := 30) rfl ?_); refine goesL_ (some 33) rfl rfl Tryz.func30 (by kernel_rfl) rfl #[.int .i64 a5] rfl tM ?_; (with_reducible refine (spec_high.calls a5 true _ A8.out).mono ?_); rintro e w' ⟨rfl, ⟨nd, rfl⟩⟩; refine ⟨_, rfl, ?_⟩) | ((with_reducible refine gate_callee (f := 29) rfl ?_); refine goesL_ (some 38) rfl rfl Tryz.func29 (by kernel_rfl) rfl #[.string a0, .int .i64 (wrap64 (x3_1 + 6))] rfl tM ?_; (with_reducible refine (spec_unit.calls k1 a0 (wrap64 (x3_1 + 6)) b2 true _ A10.out).mono ?_); rintro e w' ⟨rfl, ⟨nd, rfl⟩⟩; refine ⟨_, rfl, ?_⟩) | (go_at_call 31; (with_reducible refine (spec_low.calls b2 false _ A12.out).mono ?_); rintro e w' ⟨rfl, ⟨nd, rfl⟩⟩))
          go_ret; exact ⟨tF, tD⟩
        ·replace c11 := Bool.eq_false_iff.mpr c11; subst c11; rw [if_neg (show ¬ (false = true) by decide)] at H; obtain rfl := Option.some.inj H; have p4 : 0 ≤ (x3_1 : Int) := tX; have q4 : x3_1 < (a0.size : Int) := tX; have hx4 := bt_at a0 x3_1; replace p4 := eq_true p4; replace q4 := eq_true q4
         go_wp2_with (first | ((with_reducible refine gate_callee (f := 29) rfl ?_); refine goesL_ (some 21) rfl rfl Tryz.func29 (by kernel_rfl) rfl #[.string a0, .int .i64 x3_1] rfl tM ?_; (with_reducible refine (spec_unit.calls k1 a0 x3_1 a5 true _ A6.out).mono ?_); rintro e w' ⟨rfl, ⟨nd, rfl⟩⟩; refine ⟨_, rfl, ?_⟩) | ((with_reducible refine gate_callee (f := 30) rfl ?_); refine goesL_ (some 33) rfl rfl Tryz.func30 (by kernel_rfl) rfl #[.int .i64 a5] rfl tM ?_; (with_reducible refine (spec_high.calls a5 true _ A8.out).mono ?_); rintro e w' ⟨rfl, ⟨nd, rfl⟩⟩; refine ⟨_, rfl, ?_⟩) | ((with_reducible refine gate_callee (f := 29) rfl ?_); refine goesL_ (some 38) rfl rfl Tryz.func29 (by kernel_rfl) rfl #[.string a0, .int .i64 (wrap64 (x3_1 + 6))] rfl tM ?_; (with_reducible refine (spec_unit.calls k1 a0 (wrap64 (x3_1 + 6)) b2 false _ A10.out).mono ?_); rintro e w' ⟨rfl, ⟨nd, rfl⟩⟩; refine ⟨_, rfl, ?_⟩))
         go_ret; exact ⟨tF, tD⟩
       ·replace c9 := Bool.eq_false_iff.mpr c9; subst c9; rw [if_neg (show ¬ (false = true) by decide)] at H; replace H := Option.bind_eq_some_iff.mp H; obtain ⟨c0, d6, H⟩ := H
        try dsimp only at H
        have A14 := sd d6; clear d6
        by_cases c15 : c0 = true
        ·subst c15; rw [if_pos rfl] at H; obtain rfl := Option.some.inj H; have p4 : 0 ≤ (x3_1 : Int) := tX; have q4 : x3_1 < (a0.size : Int) := tX; have hx4 := bt_at a0 x3_1; replace p4 := eq_true p4; replace q4 := eq_true q4
         go_wp2_with (first | ((with_reducible refine gate_callee (f := 29) rfl ?_); refine goesL_ (some 21) rfl rfl Tryz.func29 (by kernel_rfl) rfl #[.string a0, .int .i64 x3_1] rfl tM ?_; (with_reducible refine (spec_unit.calls k1 a0 x3_1 a5 true _ A6.out).mono ?_); rintro e w' ⟨rfl, ⟨nd, rfl⟩⟩; refine ⟨_, rfl, ?_⟩) | ((with_reducible refine gate_callee (f := 30) rfl ?_); refine goesL_ (some 33) rfl rfl Tryz.func30 (by kernel_rfl) rfl #[.int .i64 a5] rfl tM ?_; (with_reducible refine (spec_high.calls a5 false _ A8.out).mono ?_); rintro e w' ⟨rfl, ⟨nd, rfl⟩⟩; refine ⟨_, rfl, ?_⟩) | ((with_reducible refine gate_callee (f := 31) rfl ?_); refine goesL_ (some 52) rfl rfl Tryz.func31 (by kernel_rfl) rfl #[.int .i64 a5] rfl tM ?_; (with_reducible refine (spec_low.calls a5 true _ A14.out).mono ?_); rintro e w' ⟨rfl, ⟨nd, rfl⟩⟩; refine ⟨_, rfl, ?_⟩)); go_ret; exact ⟨tF, tD⟩
        ·replace c15 := Bool.eq_false_iff.mpr c15; subst c15; rw [if_neg (show ¬ (false = true) by decide)] at H; have H' := sd H; clear H; have p4 : 0 ≤ (x3_1 : Int) := tX; have q4 : x3_1 < (a0.size : Int) := tX; have hx4 := bt_at a0 x3_1; replace p4 := eq_true p4; replace q4 := eq_true q4
         go_wp2_with (first | ((with_reducible refine gate_callee (f := 29) rfl ?_); refine goesL_ (some 21) rfl rfl Tryz.func29 (by kernel_rfl) rfl #[.string a0, .int .i64 x3_1] rfl tM ?_; (with_reducible refine (spec_unit.calls k1 a0 x3_1 a5 true _ A6.out).mono ?_); rintro e w' ⟨rfl, ⟨nd, rfl⟩⟩; refine ⟨_, rfl, ?_⟩) | ((with_reducible refine gate_callee (f := 30) rfl ?_); refine goesL_ (some 33) rfl rfl Tryz.func30 (by kernel_rfl) rfl #[.int .i64 a5] rfl tM ?_; (with_reducible refine (spec_high.calls a5 false _ A8.out).mono ?_); rintro e w' ⟨rfl, ⟨nd, rfl⟩⟩; refine ⟨_, rfl, ?_⟩) | ((with_reducible refine gate_callee (f := 31) rfl ?_); refine goesL_ (some 52) rfl rfl Tryz.func31 (by kernel_rfl) rfl #[.int .i64 a5] rfl tM ?_; (with_reducible refine (spec_low.calls a5 false _ A14.out).mono ?_); rintro e w' ⟨rfl, ⟨nd, rfl⟩⟩; refine ⟨_, rfl, ?_⟩)); go_roundg k1
         case measure => have := HK1.out; omega
         case rel => exact ⟨(wrap64 (x3_1 + 6)), tF, H', ⟨by have := HK1.out; omega⟩, tD⟩
      ·replace c7 := Bool.eq_false_iff.mpr c7; subst c7; rw [if_neg (show ¬ (false = true) by decide)] at H; have H' := sd H; clear H; have p4 : 0 ≤ (x3_1 : Int) := tX; have q4 : x3_1 < (a0.size : Int) := tX; have hx4 := bt_at a0 x3_1; replace p4 := eq_true p4; replace q4 := eq_true q4; go_wp2_with (first | ((with_reducible refine gate_callee (f := 29) rfl ?_); refine goesL_ (some 21) rfl rfl Tryz.func29 (by kernel_rfl) rfl #[.string a0, .int .i64 x3_1] rfl tM ?_; (with_reducible refine (spec_unit.calls k1 a0 x3_1 a5 false _ A6.out).mono ?_); rintro e w' ⟨rfl, ⟨nd, rfl⟩⟩; refine ⟨_, rfl, ?_⟩)); go_roundg k1
       case measure => have := HK1.out; omega
       case rel => exact ⟨(wrap64 (x3_1 + 2)), tF, H', ⟨by have := HK1.out; omega⟩, tD⟩
     ·rw [if_neg c5] at H; have c5b0 : ((bt a0 x3_1) == 92) = false := beq_eq_false_iff_ne.mpr c5; have c5b1 : ((bt a0 x3_1) != 92) = true := bne_iff_ne.mpr c5; have H' := sd H; clear H; have p4 : 0 ≤ (x3_1 : Int) := tX; have q4 : x3_1 < (a0.size : Int) := tX; have hx4 := bt_at a0 x3_1; replace p4 := eq_true p4; replace q4 := eq_true q4; go_wp2; go_roundg k1
      case measure => have := HK1.out; omega
      case rel => exact ⟨(wrap64 (x3_1 + 1)), tF, H', ⟨by have := HK1.out; omega⟩, tD⟩
    ·rw [if_neg c3] at H; exact absurd H (by simp)
   ·rw [if_neg c2] at H; have c2b0 : decide (x3_1 < (a0.size : Int)) = false := decide_eq_false c2; clear c2; obtain rfl := Option.some.inj H; go_wp2; go_ret; exact ⟨tF, tD⟩
def laws_gjText.f (k : Nat) (a0 : ByteArray) : Option (Int × ByteArray × List ByteArray × (List (S25)) × Bool) := if (a0.size : Int) > 65536 then (some (0, (⟨#[]⟩ : ByteArray), ([] : List ByteArray), ([] : List (S25)), false)) else ((spec_UTF8.f k a0).bind fun b3 => (if b3 = true then ((spec_Paired.f k a0).bind fun b4 => (if b4 = true then ((spec_Read.f k a0).bind fun a7 => (some (a7.1, a7.2.1, a7.2.2.1, a7.2.2.2.1, a7.2.2.2.2))) else (some (0, (⟨#[]⟩ : ByteArray), ([] : List ByteArray), ([] : List (S25)), false)))) else (some (0, (⟨#[]⟩ : ByteArray), ([] : List ByteArray), ([] : List (S25)), false))))
theorem laws_gjText.calls (k : Nat) (a0 : ByteArray) (r1 : Int) (r2 : ByteArray) (r3 : List ByteArray) (r4 : List (S25)) (r5 : Bool) (w : World) (h : laws_gjText.f k a0 = some (r1, r2, r3, r4, r5)) :
  Calls Tryz.prog 10 #[.string a0] w fun e w' => ∃ v2_ v3_ : Value, e = .returned (.tuple #[.agg #[.int .i64 r1, .string r2, v2_, v3_], .bool r5]) ∧ Kd.R Kd.string 9 w' w.heap.size (fun _ => True) v2_ r3 ∧ Kd.R k25 25 w' w.heap.size (fun k_ => some k_ ≠ (v2_ : Value).ownBlock) v3_ r4 ∧ Below w.heap.size w w' := by
 have hu25 := Tryz.underlying25; have HB := sd (Below.refl w.heap.size w); have H : (if (a0.size : Int) > 65536 then (some (0, (⟨#[]⟩ : ByteArray), ([] : List ByteArray), ([] : List (S25)), false)) else ((spec_UTF8.f k a0).bind fun b3 => (if b3 = true then ((spec_Paired.f k a0).bind fun b4 => (if b4 = true then ((spec_Read.f k a0).bind fun a7 => (some (a7.1, a7.2.1, a7.2.2.1, a7.2.2.2.1, a7.2.2.2.2))) else (some (0, (⟨#[]⟩ : ByteArray), ([] : List ByteArray), ([] : List (S25)), false)))) else (some (0, (⟨#[]⟩ : ByteArray), ([] : List ByteArray), ([] : List (S25)), false))))) = some (r1, r2, r3, r4, r5) := h; clear h
 by_cases c2 : (a0.size : Int) > 65536
 ·rw [if_pos c2] at H; have c2b0 : decide (65536 < (a0.size : Int)) = true := decide_eq_true c2; have c2b1 : decide (65536 < a0.size) = true := decide_eq_true (by omega); clear c2; simp only [Option.some.injEq, Prod.mk.injEq] at H; obtain ⟨rfl, rfl, rfl, rfl, rfl⟩ := H; go_enter Tryz.func10, Tryz.ntmps10
  go_wp2_with (first | ((with_reducible refine gate_dst (N := 2) rfl ?_); refine box_event ?hg (N := 2) ?hd (cs := #[.int .i64 0, .string (⟨#[]⟩ : ByteArray), .slice none 0 0, .slice none 0 0]) (t := 25) ?hr ?_; (case hd => rfl); (case hg => rfl); (case hr => exact tS); intro a3 hg w3 hbox hb; have a2 := sd hbox; have b6 := sd (leB hg tB); have b7 := sd (leB hg tB); have HB := sd (below_step tB hb); clear hb hbox hg; have hcz4_0 : w3.cell? ⟨a3, 0, none⟩ = some (.int .i64 0) := (blk_cell a2.out 0).trans rfl; have hcz4_1 : w3.cell? ⟨a3, 1, none⟩ = some (.string (⟨#[]⟩ : ByteArray)) := (blk_cell a2.out 1).trans rfl; have hcz4_2 : w3.cell? ⟨a3, 2, none⟩ = some (.slice none 0 0) := (blk_cell a2.out 2).trans rfl; have hcz4_3 : w3.cell? ⟨a3, 3, none⟩ = some (.slice none 0 0) := (blk_cell a2.out 3).trans rfl; have hfz4_0 := blk_frozen a2.out 0; have hfz4_1 := blk_frozen a2.out 1; have hfz4_2 := blk_frozen a2.out 2; have hfz4_3 := blk_frozen a2.out 3))
  refine bodyPost_ret (results_ct rfl _ _ a3 25 #[.int .i64 0, .string (⟨#[]⟩ : ByteArray), .slice none 0 0, .slice none 0 0] (0, 0) _ rfl tC Tryz.underlying25 rfl (by kernel_rfl)) rfl ?_; exact ⟨_, _, tE, tN, tN, tB⟩
 ·rw [if_neg c2] at H; have c2b0 : decide (65536 < (a0.size : Int)) = false := decide_eq_false c2; have c2b1 : decide (65536 < a0.size) = false := decide_eq_false (by omega); clear c2; replace H := Option.bind_eq_some_iff.mp H; obtain ⟨b3, A50, H⟩ := H
  try dsimp only at H
  have A5 := sd A50; clear A50
  by_cases c6 : b3 = true
  ·subst c6; rw [if_pos rfl] at H; replace H := Option.bind_eq_some_iff.mp H; obtain ⟨b4, A70, H⟩ := H
   try dsimp only at H
   have A7 := sd A70; clear A70
   by_cases c8 : b4 = true
   ·subst c8; rw [if_pos rfl] at H; replace H := Option.bind_eq_some_iff.mp H; obtain ⟨⟨d7, d8, d9, e0, e3⟩, A90, H⟩ := H
    try dsimp only at H
    have A9 := sd A90; clear A90; simp only [Option.some.injEq, Prod.mk.injEq] at H; obtain ⟨rfl, rfl, rfl, rfl, rfl⟩ := H; go_enter Tryz.func10, Tryz.ntmps10
    go_wp2_with (first | ((with_reducible refine gate_dst (N := 2) rfl ?_); refine box_event ?hg (N := 2) ?hd (cs := #[.int .i64 0, .string (⟨#[]⟩ : ByteArray), .slice none 0 0, .slice none 0 0]) (t := 25) ?hr ?_; (case hd => rfl); (case hg => rfl); (case hr => exact tS); intro a3 hg w10 hbox hb; have a2 := sd hbox; have b6 := sd (leB hg tB); have b7 := sd (leB hg tB); have HB := sd (below_step tB hb); clear hb hbox hg) | (go_at_call 17; (with_reducible refine (spec_UTF8.calls k a0 true _ A5.out).mono ?_); rintro e w' ⟨rfl, ⟨nd, rfl⟩⟩; (try (rw [drewN_self w10]; generalize hq_ : World.drewN w10 _ = w10; have n0_ : Aside0 (w10.heap[a3]? = some (.cells #[.int .i64 0, .string (⟨#[]⟩ : ByteArray), .slice none 0 0, .slice none 0 0] 25 (0, 0))) := ⟨by rw [← hq_]; exact tL⟩; have n1_ : Aside0 (Below w.heap.size w w10) := ⟨by rw [← hq_]; exact tB⟩; clear a2 HB hq_; have a2 := n0_; have HB := n1_; clear n0_ n1_))) | (go_at_call 18; (with_reducible refine (spec_Paired.calls k a0 true _ A7.out).mono ?_); rintro e w' ⟨rfl, ⟨nd, rfl⟩⟩; (try (rw [drewN_self w10]; generalize hq_ : World.drewN w10 _ = w10; have n0_ : Aside0 (w10.heap[a3]? = some (.cells #[.int .i64 0, .string (⟨#[]⟩ : ByteArray), .slice none 0 0, .slice none 0 0] 25 (0, 0))) := ⟨by rw [← hq_]; exact tL⟩; have n1_ : Aside0 (Below w.heap.size w w10) := ⟨by rw [← hq_]; exact tB⟩; clear a2 HB hq_; have a2 := n0_; have HB := n1_; clear n0_ n1_))) | ((with_reducible refine gate_callee (f := 8) rfl ?_); refine goesL_ (some 19) rfl rfl Tryz.func8 (by kernel_rfl) rfl #[.string a0] rfl tM ?_; (with_reducible refine (spec_Read.calls k a0 d7 d8 d9 e0 e3 _ A9.out).mono ?_); rintro e w11 ⟨e6, e7, rfl, ho0, ho1, hb⟩; refine ⟨_, rfl, ?_⟩; have c4 := sd (Kd.R_lower ho0 (below_size tB)); have d0 := sd (Kd.R_lower (Kd.R_newB ho1 (g := a3) (o := .cells #[.int .i64 0, .string (⟨#[]⟩ : ByteArray), .slice none 0 0, .slice none 0 0] 25 (0, 0)) tL) (below_size tB)); have a2 := sd (blk_below (g := a3) (o := .cells #[.int .i64 0, .string (⟨#[]⟩ : ByteArray), .slice none 0 0, .slice none 0 0] 25 (0, 0)) tL hb); have HB := sd (below_step tB hb); clear hb ho0 ho1; have hcz12_0 : w11.cell? ⟨a3, 0, none⟩ = some (.int .i64 0) := (blk_cell a2.out 0).trans rfl; have hcz12_1 : w11.cell? ⟨a3, 1, none⟩ = some (.string (⟨#[]⟩ : ByteArray)) := (blk_cell a2.out 1).trans rfl; have hcz12_2 : w11.cell? ⟨a3, 2, none⟩ = some (.slice none 0 0) := (blk_cell a2.out 2).trans rfl; have hcz12_3 : w11.cell? ⟨a3, 3, none⟩ = some (.slice none 0 0) := (blk_cell a2.out 3).trans rfl; have hfz12_0 := blk_frozen a2.out 0; have hfz12_1 := blk_frozen a2.out 1; have hfz12_2 := blk_frozen a2.out 2; have hfz12_3 := blk_frozen a2.out 3; obtain ⟨Ao13, co13, eo13⟩ := Kd.R_slice c4.out; subst eo13; obtain ⟨Ao14, co14, eo14⟩ := Kd.R_slice d0.out; subst eo14))
    refine bodyPost_ret (results_ct rfl _ _ a3 25 #[.int .i64 d7, .string d8, .slice Ao13 d9.length co13, .slice Ao14 e0.length co14] (0, 0) _ rfl tC Tryz.underlying25 rfl (by kernel_rfl)) rfl ?_; exact ⟨_, _, tE, Kd.R_mono (uR (Kd.R_types c4.out a2.out (by decide))) (fun _ hk => trivial), Kd.R_mono (uR (Kd.R_mono d0.out (fun k_ hk => (⟨hk, hk.2⟩ : _ ∧ k_ ≠ a3)))) (fun _ hk => hk.1.1), tB⟩
   ·replace c8 := Bool.eq_false_iff.mpr c8; subst c8; rw [if_neg (show ¬ (false = true) by decide)] at H; simp only [Option.some.injEq, Prod.mk.injEq] at H; obtain ⟨rfl, rfl, rfl, rfl, rfl⟩ := H; go_enter Tryz.func10, Tryz.ntmps10
    go_wp2_with (first | ((with_reducible refine gate_dst (N := 2) rfl ?_); refine box_event ?hg (N := 2) ?hd (cs := #[.int .i64 0, .string (⟨#[]⟩ : ByteArray), .slice none 0 0, .slice none 0 0]) (t := 25) ?hr ?_; (case hd => rfl); (case hg => rfl); (case hr => exact tS); intro a3 hg w15 hbox hb; have a2 := sd hbox; have b6 := sd (leB hg tB); have b7 := sd (leB hg tB); have HB := sd (below_step tB hb); clear hb hbox hg) | (go_at_call 17; (with_reducible refine (spec_UTF8.calls k a0 true _ A5.out).mono ?_); rintro e w' ⟨rfl, ⟨nd, rfl⟩⟩; (try (rw [drewN_self w15]; generalize hq_ : World.drewN w15 _ = w15; have n0_ : Aside0 (w15.heap[a3]? = some (.cells #[.int .i64 0, .string (⟨#[]⟩ : ByteArray), .slice none 0 0, .slice none 0 0] 25 (0, 0))) := ⟨by rw [← hq_]; exact tL⟩; have n1_ : Aside0 (Below w.heap.size w w15) := ⟨by rw [← hq_]; exact tB⟩; clear a2 HB hq_; have a2 := n0_; have HB := n1_; clear n0_ n1_))) | (go_at_call 18; (with_reducible refine (spec_Paired.calls k a0 false _ A7.out).mono ?_); rintro e w' ⟨rfl, ⟨nd, rfl⟩⟩; (try (rw [drewN_self w15]; generalize hq_ : World.drewN w15 _ = w15; have n0_ : Aside0 (w15.heap[a3]? = some (.cells #[.int .i64 0, .string (⟨#[]⟩ : ByteArray), .slice none 0 0, .slice none 0 0] 25 (0, 0))) := ⟨by rw [← hq_]; exact tL⟩; have n1_ : Aside0 (Below w.heap.size w w15) := ⟨by rw [← hq_]; exact tB⟩; clear a2 HB hq_; have a2 := n0_; have HB := n1_; clear n0_ n1_)); have hcz16_0 : w15.cell? ⟨a3, 0, none⟩ = some (.int .i64 0) := (blk_cell a2.out 0).trans rfl; have hcz16_1 : w15.cell? ⟨a3, 1, none⟩ = some (.string (⟨#[]⟩ : ByteArray)) := (blk_cell a2.out 1).trans rfl; have hcz16_2 : w15.cell? ⟨a3, 2, none⟩ = some (.slice none 0 0) := (blk_cell a2.out 2).trans rfl; have hcz16_3 : w15.cell? ⟨a3, 3, none⟩ = some (.slice none 0 0) := (blk_cell a2.out 3).trans rfl; have hfz16_0 := blk_frozen a2.out 0; have hfz16_1 := blk_frozen a2.out 1; have hfz16_2 := blk_frozen a2.out 2; have hfz16_3 := blk_frozen a2.out 3))
    refine bodyPost_ret (results_ct rfl _ _ a3 25 #[.int .i64 0, .string (⟨#[]⟩ : ByteArray), .slice none 0 0, .slice none 0 0] (0, 0) _ rfl tC Tryz.underlying25 rfl (by kernel_rfl)) rfl ?_; exact ⟨_, _, tE, tN, tN, tB⟩
  ·replace c6 := Bool.eq_false_iff.mpr c6; subst c6; rw [if_neg (show ¬ (false = true) by decide)] at H; simp only [Option.some.injEq, Prod.mk.injEq] at H; obtain ⟨rfl, rfl, rfl, rfl, rfl⟩ := H; go_enter Tryz.func10, Tryz.ntmps10
   go_wp2_with (first | ((with_reducible refine gate_dst (N := 2) rfl ?_); refine box_event ?hg (N := 2) ?hd (cs := #[.int .i64 0, .string (⟨#[]⟩ : ByteArray), .slice none 0 0, .slice none 0 0]) (t := 25) ?hr ?_; (case hd => rfl); (case hg => rfl); (case hr => exact tS); intro a3 hg w17 hbox hb; have a2 := sd hbox; have b6 := sd (leB hg tB); have b7 := sd (leB hg tB); have HB := sd (below_step tB hb); clear hb hbox hg) | (go_at_call 17; (with_reducible refine (spec_UTF8.calls k a0 false _ A5.out).mono ?_); rintro e w' ⟨rfl, ⟨nd, rfl⟩⟩; (try (rw [drewN_self w17]; generalize hq_ : World.drewN w17 _ = w17; have n0_ : Aside0 (w17.heap[a3]? = some (.cells #[.int .i64 0, .string (⟨#[]⟩ : ByteArray), .slice none 0 0, .slice none 0 0] 25 (0, 0))) := ⟨by rw [← hq_]; exact tL⟩; have n1_ : Aside0 (Below w.heap.size w w17) := ⟨by rw [← hq_]; exact tB⟩; clear a2 HB hq_; have a2 := n0_; have HB := n1_; clear n0_ n1_)); have hcz18_0 : w17.cell? ⟨a3, 0, none⟩ = some (.int .i64 0) := (blk_cell a2.out 0).trans rfl; have hcz18_1 : w17.cell? ⟨a3, 1, none⟩ = some (.string (⟨#[]⟩ : ByteArray)) := (blk_cell a2.out 1).trans rfl; have hcz18_2 : w17.cell? ⟨a3, 2, none⟩ = some (.slice none 0 0) := (blk_cell a2.out 2).trans rfl; have hcz18_3 : w17.cell? ⟨a3, 3, none⟩ = some (.slice none 0 0) := (blk_cell a2.out 3).trans rfl; have hfz18_0 := blk_frozen a2.out 0; have hfz18_1 := blk_frozen a2.out 1; have hfz18_2 := blk_frozen a2.out 2; have hfz18_3 := blk_frozen a2.out 3))
   refine bodyPost_ret (results_ct rfl _ _ a3 25 #[.int .i64 0, .string (⟨#[]⟩ : ByteArray), .slice none 0 0, .slice none 0 0] (0, 0) _ rfl tC Tryz.underlying25 rfl (by kernel_rfl)) rfl ?_; exact ⟨_, _, tE, tN, tN, tB⟩
def spec_at.l0 : Nat → ByteArray → Int → Int → ByteArray → List ByteArray → List (S25) → Option (Int)
 | 0, _, _, _, _, _, _ => none
 | k + 1, x1, x5, d1, d2, b1, d3 => if x5 ≥ 0 then (if 0 ≤ x5 then (if x5 < (b1.length : Int) then (if (rdOf ByteArray.empty b1 x5).toList = x1.toList then (some x5) else (spec_at.l0 k x1 (wrap64 (x5 - 1)) d1 d2 b1 d3)) else (none)) else (none)) else (some (-1))
def spec_at.f (k : Nat) (a0_0 : Int) (a0_1 : ByteArray) (l0_2 : List ByteArray) (l0_3 : List (S25)) (a1 : ByteArray) : Option (Int) := spec_at.l0 k a1 (wrap64 ((l0_2.length : Int) - 1)) a0_0 a0_1 l0_2 l0_3
theorem spec_at.calls (k : Nat) (a0_0 : Int) (a0_1 : ByteArray) (A0_2 : Option Addr) (c0_2 : Nat) (l0_2 : List ByteArray) (A0_3 : Option Addr) (c0_3 : Nat) (l0_3 : List (S25)) (a1 : ByteArray) (r : Int) (w : World) (hr0_2 : Kd.C Kd.string w A0_2 l0_2.length l0_2) (hc0_2 : l0_2.length ≤ c0_2) (hr0_3 : Kd.C k25 w A0_3 l0_3.length l0_3) (hc0_3 : l0_3.length ≤ c0_3) (h : spec_at.f k a0_0 a0_1 l0_2 l0_3 a1 = some r) :
  Calls Tryz.prog 19 #[.agg #[.int .i64 a0_0, .string a0_1, .slice A0_2 l0_2.length c0_2, .slice A0_3 l0_3.length c0_3], .string a1] w fun e w' => e = .returned (.int .i64 r) ∧ Below w.heap.size w w' := by
 have hu25 := Tryz.underlying25; have HR0_2 := sd hr0_2; have HC0_2 := sd hc0_2; clear hr0_2 hc0_2; have HR0_3 := sd hr0_3; have HC0_3 := sd hc0_3; clear hr0_3 hc0_3; have HB := sd (Below.refl w.heap.size w); have H : (spec_at.l0 k a1 (wrap64 ((l0_2.length : Int) - 1)) a0_0 a0_1 l0_2 l0_3) = some r := h; clear h; have H' := sd H; clear H; go_enter Tryz.func19, Tryz.ntmps19
 go_wp2_with (first | ((with_reducible refine gate_dst (N := 2) rfl ?_); refine box_event (by rfl) (N := 2) (by rfl) (cs := #[.int .i64 a0_0, .string a0_1, .slice A0_2 l0_2.length c0_2, .slice A0_3 l0_3.length c0_3]) (t := 25) tS ?_; intro a6 hg w3 hbox hb; have a4 := sd hbox; have e4 := sd (leB hg tB); have e5 := sd (leB hg tB); have HB := sd (below_step tB hb); clear hb hbox hg; have hcz4_0 : w3.cell? ⟨a6, 0, none⟩ = some (.int .i64 a0_0) := (blk_cell a4.out 0).trans rfl; have hcz4_1 : w3.cell? ⟨a6, 1, none⟩ = some (.string a0_1) := (blk_cell a4.out 1).trans rfl; have hcz4_2 : w3.cell? ⟨a6, 2, none⟩ = some (.slice A0_2 l0_2.length c0_2) := (blk_cell a4.out 2).trans rfl; have hcz4_3 : w3.cell? ⟨a6, 3, none⟩ = some (.slice A0_3 l0_3.length c0_3) := (blk_cell a4.out 3).trans rfl; have hfz4_0 := blk_frozen a4.out 0; have hfz4_1 := blk_frozen a4.out 1; have hfz4_2 := blk_frozen a4.out 2; have hfz4_3 := blk_frozen a4.out 3))
 (try simp only [Act.put, List.setIfInBounds_toArray, List.set_cons_zero, List.set_cons_succ]); go_loopg [5] k (fun kq v5 w' => ∃ (x5_1 : Int), v5 = .int .i64 x5_1 ∧ Aside0 (spec_at.l0 kq a1 x5_1 a0_0 a0_1 l0_2 l0_3 = some r) ∧ Aside0 (kq ≤ k) ∧ Aside0 (w'.heap[a6]? = some (.cells #[.int .i64 a0_0, .string a0_1, (.slice A0_2 l0_2.length c0_2), (.slice A0_3 l0_3.length c0_3)] 25 (0, 0))) ∧ Aside0 (Below w.heap.size w w'))
 case atStart => exact ⟨(wrap64 ((l0_2.length : Int) - 1)), tF, H', ⟨Nat.le_refl _⟩, ⟨tL⟩, ⟨tB⟩⟩
 case round =>
  clear H'; obtain ⟨x5_1, rfl, HA, HK1, a4, HB⟩ := hrel
  cases gk with
  | zero => exact absurd HA.out (by simp [spec_at.l0])
  | succ k1 =>
   have H := HA.out; clear HA; simp only [spec_at.l0] at H
   by_cases c5 : x5_1 ≥ 0
   ·rw [if_pos c5] at H; have c5b0 : decide (0 ≤ x5_1) = true := decide_eq_true c5; clear c5
    by_cases c6 : 0 ≤ x5_1
    ·rw [if_pos c6] at H; have c6b0 : decide (0 ≤ x5_1) = true := decide_eq_true c6; clear c6
     by_cases c7 : x5_1 < (l0_2.length : Int)
     ·rw [if_pos c7] at H; have c7b0 : decide (x5_1 < (l0_2.length : Int)) = true := decide_eq_true c7; clear c7
      by_cases c8 : (rdOf ByteArray.empty l0_2 x5_1).toList = a1.toList
      ·rw [if_pos c8] at H; have c8b0 : ((rdOf ByteArray.empty l0_2 x5_1).toList == a1.toList) = true := beq_iff_eq.mpr c8; have c8b1 : ((rdOf ByteArray.empty l0_2 x5_1).toList != a1.toList) = false := bne_eq_false_iff_eq.mpr c8; clear c8; obtain rfl := Option.some.inj H; have hcz9_0 : wr.cell? ⟨a6, 0, none⟩ = some (.int .i64 a0_0) := (blk_cell a4.out 0).trans rfl; have hcz9_1 : wr.cell? ⟨a6, 1, none⟩ = some (.string a0_1) := (blk_cell a4.out 1).trans rfl; have hcz9_2 : wr.cell? ⟨a6, 2, none⟩ = some (.slice A0_2 l0_2.length c0_2) := (blk_cell a4.out 2).trans rfl; have hcz9_3 : wr.cell? ⟨a6, 3, none⟩ = some (.slice A0_3 l0_3.length c0_3) := (blk_cell a4.out 3).trans rfl; have hfz9_0 := blk_frozen a4.out 0; have hfz9_1 := blk_frozen a4.out 1; have hfz9_2 := blk_frozen a4.out 2; have hfz9_3 := blk_frozen a4.out 3; have a9 : 0 ≤ (x5_1 : Int) := tX; have b0 : x5_1 < (l0_2.length : Int) := tX
       obtain ⟨ad407, e407, a8⟩ := Kd.at_string HR0_2.out x5_1 a9 b0
       cases e407
       replace a8 := cB HB.out a8; replace a9 := eq_true a9; replace b0 := eq_true b0; go_wp2; go_ret; exact ⟨tE, tB⟩
      ·rw [if_neg c8] at H; have c8b0 : ((rdOf ByteArray.empty l0_2 x5_1).toList == a1.toList) = false := beq_eq_false_iff_ne.mpr c8; have c8b1 : ((rdOf ByteArray.empty l0_2 x5_1).toList != a1.toList) = true := bne_iff_ne.mpr c8; have H' := sd H; clear H; have hcz10_0 : wr.cell? ⟨a6, 0, none⟩ = some (.int .i64 a0_0) := (blk_cell a4.out 0).trans rfl; have hcz10_1 : wr.cell? ⟨a6, 1, none⟩ = some (.string a0_1) := (blk_cell a4.out 1).trans rfl; have hcz10_2 : wr.cell? ⟨a6, 2, none⟩ = some (.slice A0_2 l0_2.length c0_2) := (blk_cell a4.out 2).trans rfl; have hcz10_3 : wr.cell? ⟨a6, 3, none⟩ = some (.slice A0_3 l0_3.length c0_3) := (blk_cell a4.out 3).trans rfl; have hfz10_0 := blk_frozen a4.out 0; have hfz10_1 := blk_frozen a4.out 1; have hfz10_2 := blk_frozen a4.out 2; have hfz10_3 := blk_frozen a4.out 3; have a9 : 0 ≤ (x5_1 : Int) := tX; have b0 : x5_1 < (l0_2.length : Int) := tX
       obtain ⟨ad407, e407, a8⟩ := Kd.at_string HR0_2.out x5_1 a9 b0
       cases e407
       replace a8 := cB HB.out a8; replace a9 := eq_true a9; replace b0 := eq_true b0; go_wp2; go_roundg k1
       case measure => have := HK1.out; omega
       case rel => exact ⟨(wrap64 (x5_1 - 1)), tF, H', ⟨by have := HK1.out; omega⟩, ⟨tL⟩, ⟨tB⟩⟩
     ·rw [if_neg c7] at H; exact absurd H (by simp)
    ·rw [if_neg c6] at H; exact absurd H (by simp)
   ·rw [if_neg c5] at H; have c5b0 : decide (0 ≤ x5_1) = false := decide_eq_false c5; clear c5; obtain rfl := Option.some.inj H; go_wp2; go_ret; exact ⟨tE, tB⟩
end Go.Proofs.YtdacgdjjdifneaaGreatDoor.PFnGjFlattenOften
