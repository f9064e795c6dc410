/- Walks of functions that the law calls, printed and rewritten by program. -/
import Derived.Test.YtdacgdjjdifneaaGreatDoorV0
import Derived.Test.YtdacgdjjdifneaaGreatDoorV5
set_option linter.all false
set_option maxHeartbeats 16000000
set_option maxRecDepth 100000
namespace Go.Proofs.YtdacgdjjdifneaaGreatDoor.PFnGjFlattenOften
open Go.RowKit Go.Proofs.YtdacgdjjdifneaaGreatDoorW.PrintWords Go.Proofs.YtdacgdjjdifneaaGreatDoorW.PrintLast Go.Proofs.YtdacgdjjdifneaaGreatDoorW.PrintMore
attribute [local go_sem] max2_int min2_int max_two min_two max_three min_three max_four min_four
def spec_Unquote.l0 : Nat → List Int → ByteArray → Int → Option (ByteArray)
 | 0, _, _, _ => none
 | k + 1, x3, x4, x5 => if x5 < (x4.size : Int) then (if 0 ≤ x5 then (if (bt x4 x5) = 92 then ((spec_unit.f k x4 x5).bind fun a4 => (if a4.2 = true then ((spec_unit.f k x4 (wrap64 (x5 + 6))).bind fun a7 => (if a7.2 = true then ((spec_high.f a4.1).bind fun b2 => (if b2 = true then ((spec_low.f a7.1).bind fun b3 => (if b3 = true then ((spec_appendUTF8.f k x3 (wrap64 ((wrap64 (65536 + (wrap64 ((wrap64 (a4.1 - 55296)) * 1024)))) + (wrap64 (a7.1 - 56320))))).bind fun a8 => (spec_Unquote.l0 k a8 x4 (wrap64 ((wrap64 (x5 + 6)) + 6)))) else ((spec_appendUTF8.f k x3 a4.1).bind fun a9 => (spec_Unquote.l0 k a9 x4 (wrap64 (x5 + 6)))))) else ((spec_appendUTF8.f k x3 a4.1).bind fun b0 => (spec_Unquote.l0 k b0 x4 (wrap64 (x5 + 6)))))) else ((spec_appendUTF8.f k x3 a4.1).bind fun b1 => (spec_Unquote.l0 k b1 x4 (wrap64 (x5 + 6)))))) else (if 0 ≤ (wrap64 (x5 + 1)) then (if (wrap64 (x5 + 1)) < (x4.size : Int) then ((spec_short.f (bt x4 (wrap64 (x5 + 1)))).bind fun a2 => (if x3.length < 140737488355328 then (spec_Unquote.l0 k (x3 ++ [a2]) x4 (wrap64 (x5 + 2))) else (none))) else (none)) else (none)))) else (if x3.length < 140737488355328 then (spec_Unquote.l0 k (x3 ++ [bt x4 x5]) x4 (wrap64 (x5 + 1))) else (none))) else (none)) else (some (strOfNums x3))
def spec_Unquote.f (k : Nat) (a0 : ByteArray) : Option (ByteArray) := if 1 ≤ (wrap64 ((a0.size : Int) - 1)) then (if (wrap64 ((a0.size : Int) - 1)) ≤ (a0.size : Int) then (spec_Unquote.l0 k ([] : List Int) (a0.extract 1 ((wrap64 ((a0.size : Int) - 1)) : Int).toNat) 0) else (none)) else (none)
theorem spec_Unquote.calls (k : Nat) (a0 : ByteArray) (r : ByteArray) (w : World) (h : spec_Unquote.f k a0 = some r) :
  Calls Tryz.prog 27 #[.string a0] w fun e w' => e = .returned (.string r) ∧ Below w.heap.size w w' := by
 have HB := sd (Below.refl w.heap.size w); have H : (if 1 ≤ (wrap64 ((a0.size : Int) - 1)) then (if (wrap64 ((a0.size : Int) - 1)) ≤ (a0.size : Int) then (spec_Unquote.l0 k ([] : List Int) (a0.extract 1 ((wrap64 ((a0.size : Int) - 1)) : Int).toNat) 0) else (none)) else (none)) = some r := h; clear h
 by_cases c2 : 1 ≤ (wrap64 ((a0.size : Int) - 1))
 ·rw [if_pos c2] at H; have c2b0 := eq_true c2; have c2b1 : decide (1 ≤ (wrap64 ((a0.size : Int) - 1))) = true := decide_eq_true c2; clear c2
  by_cases c3 : (wrap64 ((a0.size : Int) - 1)) ≤ (a0.size : Int)
  ·rw [if_pos c3] at H; have c3b0 := eq_true c3; have c3b1 : decide ((wrap64 ((a0.size : Int) - 1)) ≤ (a0.size : Int)) = true := decide_eq_true c3; clear c3; have H' := sd H; clear H; go_enter Tryz.func27, Tryz.ntmps27; go_wp2; generalize (a0.extract 1 ((wrap64 ((a0.size : Int) - 1)) : Int).toNat) = sx18_0 at H' ⊢; (try simp only [Act.put, List.setIfInBounds_toArray, List.set_cons_zero, List.set_cons_succ]); go_loopg [3, 5] k (fun kq v3 v5 w' => ∃ (x3_1 : List Int) (x5_1 : Int), v5 = .int .i64 x5_1 ∧ Aside0 (spec_Unquote.l0 kq x3_1 sx18_0 x5_1 = some r) ∧ Aside0 (kq ≤ k) ∧ Aside0 (Kd.R (Kd.int .u8) 5 w' w.heap.size (fun _ => True) v3 x3_1) ∧ Aside0 (Below w.heap.size w w'))
   case atStart => exact ⟨(([] : List Int)), (0), tF, H', ⟨Nat.le_refl _⟩, ⟨tN⟩, ⟨tB⟩⟩
   case round =>
    clear H'; obtain ⟨x3_1, x5_1, rfl, HA, HK1, HO_3, HB⟩ := hrel
    cases gk with
    | zero => exact absurd HA.out (by simp [spec_Unquote.l0])
    | succ k1 =>
     have H := HA.out; clear HA; simp only [spec_Unquote.l0] at H
     by_cases c4 : x5_1 < (sx18_0.size : Int)
     ·rw [if_pos c4] at H; have c4b0 : decide (x5_1 < (sx18_0.size : Int)) = true := decide_eq_true c4; clear c4
      by_cases c5 : 0 ≤ x5_1
      ·rw [if_pos c5] at H; have c5b0 : decide (0 ≤ x5_1) = true := decide_eq_true c5; clear c5
       by_cases c7 : (bt sx18_0 x5_1) = 92
       ·rw [if_pos c7] at H; have c7b0 : ((bt sx18_0 x5_1) == 92) = true := beq_iff_eq.mpr c7; have c7b1 : ((bt sx18_0 x5_1) != 92) = false := bne_eq_false_iff_eq.mpr c7; clear c7; replace H := Option.bind_eq_some_iff.mp H; obtain ⟨⟨a1, d8⟩, A80, H⟩ := H
        try dsimp only at H
        have A8 := sd A80; clear A80
        by_cases c9 : d8 = true
        ·subst c9; rw [if_pos rfl] at H; replace H := Option.bind_eq_some_iff.mp H; obtain ⟨⟨a3, d9⟩, b4, H⟩ := H
         try dsimp only at H
         have A10 := sd b4; clear b4
         by_cases c11 : d9 = true
         ·subst c11; rw [if_pos rfl] at H; replace H := Option.bind_eq_some_iff.mp H; obtain ⟨b2, b5, H⟩ := H
          try dsimp only at H
          have A12 := sd b5; clear b5
          by_cases c13 : b2 = true
          ·subst c13; rw [if_pos rfl] at H; replace H := Option.bind_eq_some_iff.mp H; obtain ⟨b3, b6, H⟩ := H
           try dsimp only at H
           have A14 := sd b6; clear b6
           by_cases c15 : b3 = true
           ·subst c15; rw [if_pos rfl] at H; replace H := Option.bind_eq_some_iff.mp H; obtain ⟨a8, b7, H⟩ := H
            try dsimp only at H
            have A16 := sd b7; clear b7; have H' := sd H; clear H; have p6 : 0 ≤ (x5_1 : Int) := tX; have q6 : x5_1 < (sx18_0.size : Int) := tX; have hx6 := bt_at sx18_0 x5_1; replace p6 := eq_true p6; replace q6 := eq_true q6
            go_wp2_with (first | ((with_reducible refine gate_callee (f := 29) rfl ?_); refine goesL_ (some 34) rfl rfl Tryz.func29 (by kernel_rfl) rfl #[.string sx18_0, .int .i64 x5_1] rfl tM ?_; (with_reducible refine (spec_unit.calls k1 sx18_0 x5_1 a1 true _ A8.out).mono ?_); rintro e w' ⟨rfl, ⟨nd, rfl⟩⟩; refine ⟨_, rfl, ?_⟩) | ((with_reducible refine gate_callee (f := 29) rfl ?_); refine goesL_ (some 54) rfl rfl Tryz.func29 (by kernel_rfl) rfl #[.string sx18_0, .int .i64 (wrap64 (x5_1 + 6))] rfl tM ?_; (with_reducible refine (spec_unit.calls k1 sx18_0 (wrap64 (x5_1 + 6)) a3 true _ A10.out).mono ?_); rintro e w' ⟨rfl, ⟨nd, rfl⟩⟩; refine ⟨_, rfl, ?_⟩) | (go_at_call 30; (with_reducible refine (spec_high.calls a1 true _ A12.out).mono ?_); rintro e w' ⟨rfl, ⟨nd, rfl⟩⟩) | (go_at_call 31; (with_reducible refine (spec_low.calls a3 true _ A14.out).mono ?_); rintro e w' ⟨rfl, ⟨nd, rfl⟩⟩; obtain ⟨Ao17, co17, eo17⟩ := Kd.R_slice HO_3.out; subst eo17) | ((with_reducible refine gate_callee (f := 46) rfl ?_); refine goesL_ (some 77) rfl rfl Tryz.func46 (by kernel_rfl) rfl #[.slice Ao17 x3_1.length co17, .int .i64 (wrap64 ((wrap64 (65536 + (wrap64 ((wrap64 (a1 - 55296)) * 1024)))) + (wrap64 (a3 - 56320))))] rfl tM ?_; (with_reducible refine (spec_appendUTF8.calls k1 (fun k_ => some k_ = (.slice Ao17 x3_1.length co17 : Value).ownBlock) (.slice Ao17 x3_1.length co17) x3_1 (wrap64 ((wrap64 (65536 + (wrap64 ((wrap64 (a1 - 55296)) * 1024)))) + (wrap64 (a3 - 56320)))) a8 w _ ?side1 ?side2 A16.out).mono ?_); (case side1 => exact tB); (case side2 => exact Kd.R_tight rfl HO_3.out); rintro e w18 ⟨e0, rfl, ho0, hb, hkp⟩; refine ⟨_, rfl, ?_⟩; have d0 := sd (Kd.R_mono (ok' := fun k_ => True) ho0 (fun k_ hk_ => trivial)); have HB := sd hb; clear hb hkp ho0))
            go_roundg k1
            case measure => have := HK1.out; omega
            case rel => exact ⟨(a8), (wrap64 ((wrap64 (x5_1 + 6)) + 6)), tF, H', ⟨by have := HK1.out; omega⟩, ⟨uR d0.out⟩, ⟨tB⟩⟩
           ·replace c15 := Bool.eq_false_iff.mpr c15; subst c15; rw [if_neg (show ¬ (false = true) by decide)] at H; replace H := Option.bind_eq_some_iff.mp H; obtain ⟨a9, b8, H⟩ := H
            try dsimp only at H
            have A19 := sd b8; clear b8; have H' := sd H; clear H; have p6 : 0 ≤ (x5_1 : Int) := tX; have q6 : x5_1 < (sx18_0.size : Int) := tX; have hx6 := bt_at sx18_0 x5_1; replace p6 := eq_true p6; replace q6 := eq_true q6
            go_wp2_with (first | ((with_reducible refine gate_callee (f := 29) rfl ?_); refine goesL_ (some 34) rfl rfl Tryz.func29 (by kernel_rfl) rfl #[.string sx18_0, .int .i64 x5_1] rfl tM ?_; (with_reducible refine (spec_unit.calls k1 sx18_0 x5_1 a1 true _ A8.out).mono ?_); rintro e w' ⟨rfl, ⟨nd, rfl⟩⟩; refine ⟨_, rfl, ?_⟩) | ((with_reducible refine gate_callee (f := 29) rfl ?_); refine goesL_ (some 54) rfl rfl Tryz.func29 (by kernel_rfl) rfl #[.string sx18_0, .int .i64 (wrap64 (x5_1 + 6))] rfl tM ?_; (with_reducible refine (spec_unit.calls k1 sx18_0 (wrap64 (x5_1 + 6)) a3 true _ A10.out).mono ?_); rintro e w' ⟨rfl, ⟨nd, rfl⟩⟩; refine ⟨_, rfl, ?_⟩) | (go_at_call 30; (with_reducible refine (spec_high.calls a1 true _ A12.out).mono ?_); rintro e w' ⟨rfl, ⟨nd, rfl⟩⟩) | (go_at_call 31; (with_reducible refine (spec_low.calls a3 false _ A14.out).mono ?_); rintro e w' ⟨rfl, ⟨nd, rfl⟩⟩; obtain ⟨Ao20, co20, eo20⟩ := Kd.R_slice HO_3.out; subst eo20) | ((with_reducible refine gate_callee (f := 46) rfl ?_); refine goesL_ (some 77) rfl rfl Tryz.func46 (by kernel_rfl) rfl #[.slice Ao20 x3_1.length co20, .int .i64 a1] rfl tM ?_; (with_reducible refine (spec_appendUTF8.calls k1 (fun k_ => some k_ = (.slice Ao20 x3_1.length co20 : Value).ownBlock) (.slice Ao20 x3_1.length co20) x3_1 a1 a9 w _ ?_ ?_ A19.out).mono ?_); exact tB; exact Kd.R_tight rfl HO_3.out; rintro e w21 ⟨e1, rfl, ho0, hb, hkp⟩; refine ⟨_, rfl, ?_⟩; have d1 := sd (Kd.R_mono (ok' := fun k_ => True) ho0 (fun k_ hk_ => trivial)); have HB := sd hb; clear hb hkp ho0))
            go_roundg k1
            case measure => have := HK1.out; omega
            case rel => exact ⟨(a9), (wrap64 (x5_1 + 6)), tF, H', ⟨by have := HK1.out; omega⟩, ⟨uR d1.out⟩, ⟨tB⟩⟩
          ·replace c13 := Bool.eq_false_iff.mpr c13; subst c13; rw [if_neg (show ¬ (false = true) by decide)] at H; replace H := Option.bind_eq_some_iff.mp H; obtain ⟨b0, b9, H⟩ := H
           try dsimp only at H
           have A22 := sd b9; clear b9; have H' := sd H; clear H; have p6 : 0 ≤ (x5_1 : Int) := tX; have q6 : x5_1 < (sx18_0.size : Int) := tX; have hx6 := bt_at sx18_0 x5_1; replace p6 := eq_true p6; replace q6 := eq_true q6
           go_wp2_with (first | ((with_reducible refine gate_callee (f := 29) rfl ?_); refine goesL_ (some 34) rfl rfl Tryz.func29 (by kernel_rfl) rfl #[.string sx18_0, .int .i64 x5_1] rfl tM ?_; (with_reducible refine (spec_unit.calls k1 sx18_0 x5_1 a1 true _ A8.out).mono ?_); rintro e w' ⟨rfl, ⟨nd, rfl⟩⟩; refine ⟨_, rfl, ?_⟩) | ((with_reducible refine gate_callee (f := 29) rfl ?_); refine goesL_ (some 54) rfl rfl Tryz.func29 (by kernel_rfl) rfl #[.string sx18_0, .int .i64 (wrap64 (x5_1 + 6))] rfl tM ?_; (with_reducible refine (spec_unit.calls k1 sx18_0 (wrap64 (x5_1 + 6)) a3 true _ A10.out).mono ?_); rintro e w' ⟨rfl, ⟨nd, rfl⟩⟩; refine ⟨_, rfl, ?_⟩) | (go_at_call 30; (with_reducible refine (spec_high.calls a1 false _ A12.out).mono ?_); rintro e w' ⟨rfl, ⟨nd, rfl⟩⟩; obtain ⟨Ao23, co23, eo23⟩ := Kd.R_slice HO_3.out; subst eo23) | ((with_reducible refine gate_callee (f := 46) rfl ?_); refine goesL_ (some 77) rfl rfl Tryz.func46 (by kernel_rfl) rfl #[.slice Ao23 x3_1.length co23, .int .i64 a1] rfl tM ?_; (with_reducible refine (spec_appendUTF8.calls k1 (fun k_ => some k_ = (.slice Ao23 x3_1.length co23 : Value).ownBlock) (.slice Ao23 x3_1.length co23) x3_1 a1 b0 w _ ?_ ?_ A22.out).mono ?_); exact tB; exact Kd.R_tight rfl HO_3.out; rintro e w24 ⟨e2, rfl, ho0, hb, hkp⟩; refine ⟨_, rfl, ?_⟩; have d2 := sd (Kd.R_mono (ok' := fun k_ => True) ho0 (fun k_ hk_ => trivial)); have HB := sd hb; clear hb hkp ho0))
           go_roundg k1
           case measure => have := HK1.out; omega
           case rel => exact ⟨(b0), (wrap64 (x5_1 + 6)), tF, H', ⟨by have := HK1.out; omega⟩, ⟨uR d2.out⟩, ⟨tB⟩⟩
         ·replace c11 := Bool.eq_false_iff.mpr c11; subst c11; rw [if_neg (show ¬ (false = true) by decide)] at H; replace H := Option.bind_eq_some_iff.mp H; obtain ⟨b1, c0, H⟩ := H
          try dsimp only at H
          have A25 := sd c0; clear c0; have H' := sd H; clear H; have p6 : 0 ≤ (x5_1 : Int) := tX; have q6 : x5_1 < (sx18_0.size : Int) := tX; have hx6 := bt_at sx18_0 x5_1; replace p6 := eq_true p6; replace q6 := eq_true q6
          go_wp2_with (first | ((with_reducible refine gate_callee (f := 29) rfl ?_); refine goesL_ (some 34) rfl rfl Tryz.func29 (by kernel_rfl) rfl #[.string sx18_0, .int .i64 x5_1] rfl tM ?_; (with_reducible refine (spec_unit.calls k1 sx18_0 x5_1 a1 true _ A8.out).mono ?_); rintro e w' ⟨rfl, ⟨nd, rfl⟩⟩; refine ⟨_, rfl, ?_⟩) | ((with_reducible refine gate_callee (f := 29) rfl ?_); refine goesL_ (some 54) rfl rfl Tryz.func29 (by kernel_rfl) rfl #[.string sx18_0, .int .i64 (wrap64 (x5_1 + 6))] rfl tM ?_; (with_reducible refine (spec_unit.calls k1 sx18_0 (wrap64 (x5_1 + 6)) a3 false _ A10.out).mono ?_); rintro e w' ⟨rfl, ⟨nd, rfl⟩⟩; refine ⟨_, rfl, ?_⟩; obtain ⟨Ao26, co26, eo26⟩ := Kd.R_slice HO_3.out; subst eo26) | ((with_reducible refine gate_callee (f := 46) rfl ?_); refine goesL_ (some 77) rfl rfl Tryz.func46 (by kernel_rfl) rfl #[.slice Ao26 x3_1.length co26, .int .i64 a1] rfl tM ?_; (with_reducible refine (spec_appendUTF8.calls k1 (fun k_ => some k_ = (.slice Ao26 x3_1.length co26 : Value).ownBlock) (.slice Ao26 x3_1.length co26) x3_1 a1 b1 w _ ?_ ?_ A25.out).mono ?_); exact tB; exact Kd.R_tight rfl HO_3.out; rintro e w27 ⟨e3, rfl, ho0, hb, hkp⟩; refine ⟨_, rfl, ?_⟩; have d3 := sd (Kd.R_mono (ok' := fun k_ => True) ho0 (fun k_ hk_ => trivial)); have HB := sd hb; clear hb hkp ho0))
          go_roundg k1
          case measure => have := HK1.out; omega
          case rel => exact ⟨(b1), (wrap64 (x5_1 + 6)), tF, H', ⟨by have := HK1.out; omega⟩, ⟨uR d3.out⟩, ⟨tB⟩⟩
        ·replace c9 := Bool.eq_false_iff.mpr c9; subst c9; rw [if_neg (show ¬ (false = true) by decide)] at H; obtain ⟨ji28, hji28⟩ : ∃ j_ : Int, (wrap64 (x5_1 + 1)) = j_ := ⟨_, rfl⟩
         replace H : (if 0 ≤ (ji28) then (if (ji28) < (sx18_0.size : Int) then ((spec_short.f (bt sx18_0 (ji28))).bind fun a2 => (if x3_1.length < 140737488355328 then (spec_Unquote.l0 k1 (x3_1 ++ [a2]) sx18_0 (wrap64 (x5_1 + 2))) else (none))) else (none)) else (none)) = some r := by first | (rw [hji28] at H; exact H) | (simp only [hji28] at H ⊢; exact H)
         (try rw [hji28] at A8); have hji28w : (IntKind.i64.wrap (x5_1 + 1)) = ji28 := (i64_w _).trans hji28
         by_cases c29 : 0 ≤ (ji28)
         ·rw [if_pos c29] at H; have c29b0 : decide (0 ≤ (ji28)) = true := decide_eq_true c29; clear c29
          by_cases c30 : (ji28) < (sx18_0.size : Int)
          ·rw [if_pos c30] at H; have c30b0 : decide ((ji28) < (sx18_0.size : Int)) = true := decide_eq_true c30; clear c30; replace H := Option.bind_eq_some_iff.mp H; obtain ⟨a2, c1, H⟩ := H
           try dsimp only at H
           have A32 := sd c1; clear c1
           by_cases c33 : x3_1.length < 140737488355328
           ·rw [if_pos c33] at H; have LMc33 := sd c33; clear c33; obtain ⟨c6, a5⟩ : ∃ y_ : List Int, y_ = (x3_1 ++ [a2]) := ⟨_, rfl⟩
            replace H : (spec_Unquote.l0 k1 c6 sx18_0 (wrap64 (x5_1 + 2))) = some r := by first | (rw [a5]; with_reducible exact H) | (have H2_ := (Option.bind_some _ _).symm.trans H; rw [a5]; with_reducible exact H2_) | (have H2_ := (Option.bind_some _ _).symm.trans H; with_reducible exact H2_) | with_reducible exact H | (rw [a5]; exact H) | exact H
            have d4 := sd a5; clear a5; have H' := sd H; clear H; have p6 : 0 ≤ (x5_1 : Int) := tX; have q6 : x5_1 < (sx18_0.size : Int) := tX; have hx6 := bt_at sx18_0 x5_1; replace p6 := eq_true p6; replace q6 := eq_true q6
            go_wp2_with (first | ((with_reducible refine gate_callee (f := 29) rfl ?_); refine goesL_ (some 34) rfl rfl Tryz.func29 (by kernel_rfl) rfl #[.string sx18_0, .int .i64 x5_1] rfl tM ?_; (with_reducible refine (spec_unit.calls k1 sx18_0 x5_1 a1 false _ A8.out).mono ?_); rintro e w' ⟨rfl, ⟨nd, rfl⟩⟩; refine ⟨_, rfl, ?_⟩; have p31 : 0 ≤ ((ji28) : Int) := tX; have q31 : (ji28) < (sx18_0.size : Int) := tX; have hx31 := bt_at sx18_0 (ji28); replace p31 := eq_true p31; replace q31 := eq_true q31) | ((with_reducible refine gate_callee (f := 45) rfl ?_); refine goesL_ (some 44) rfl rfl Tryz.func45 (by kernel_rfl) rfl #[.int .u8 (bt sx18_0 (ji28))] rfl (by (try simp only [List.map_toArray, List.map_cons, List.map_nil]); first | done | (simp only [hji28]; rfl) | rfl | (simp only [List.length_drop, List.length_take]; rfl)) ?_; (with_reducible refine (spec_short.calls (bt sx18_0 (ji28)) a2 _ A32.out).mono ?_); rintro e w' ⟨rfl, ⟨nd, rfl⟩⟩; refine ⟨_, rfl, ?_⟩) | ((with_reducible refine gate_builtin (b := .append) (xs := #[.tmp 39, .tmp 45]) rfl ?_); at_builtin; refine Kd.R_append (Kd.int .u8) (w0 := w) w.heap.size rfl (.tmp 39) (.tmp 45) 69 5 (.int .u8 0) 1 rfl Tryz.underlying69 info5 rfl (by decide) (by omega) u3 x3_1 a2 [.int .u8 a2] (fun _ => True) (fun _ => False) rfl rfl ?aP (fun _ hk => hk.elim) ?aF ?aO ?aB ?aS ?aL ?_; (case aP => exact rfl); (case aB => exact tB); (case aF => exact (fun _ _ => trivial)); (case aO => exact (uR HO_3.out)); (case aS => exact (below_size tB)); (case aL => have := LMc33.out; omega); intro e4 w34 ho hb hg hat; rw [← d4.out] at ho; have HB := sd hb; have d5 := sd ho; clear ho hb hg hat))
            go_roundg k1
            case measure => have := HK1.out; omega
            case rel => exact ⟨(c6), (wrap64 (x5_1 + 2)), tF, H', ⟨by have := HK1.out; omega⟩, ⟨uR d5.out⟩, ⟨tB⟩⟩
           ·rw [if_neg c33] at H; exact absurd H (by simp)
          ·rw [if_neg c30] at H; exact absurd H (by simp)
         ·rw [if_neg c29] at H; exact absurd H (by simp)
       ·rw [if_neg c7] at H; have c7b0 : ((bt sx18_0 x5_1) == 92) = false := beq_eq_false_iff_ne.mpr c7; have c7b1 : ((bt sx18_0 x5_1) != 92) = true := bne_iff_ne.mpr c7
        by_cases c36 : x3_1.length < 140737488355328
        ·rw [if_pos c36] at H; have LMc36 := sd c36; clear c36; obtain ⟨c8, a6⟩ : ∃ y_ : List Int, y_ = (x3_1 ++ [bt sx18_0 x5_1]) := ⟨_, rfl⟩
         replace H : (spec_Unquote.l0 k1 c8 sx18_0 (wrap64 (x5_1 + 1))) = some r := by first | (rw [a6]; with_reducible exact H) | (have H2_ := (Option.bind_some _ _).symm.trans H; rw [a6]; with_reducible exact H2_) | (have H2_ := (Option.bind_some _ _).symm.trans H; with_reducible exact H2_) | with_reducible exact H | (rw [a6]; exact H) | exact H
         have d6 := sd a6; clear a6; have H' := sd H; clear H; have p6 : 0 ≤ (x5_1 : Int) := tX; have q6 : x5_1 < (sx18_0.size : Int) := tX; have hx6 := bt_at sx18_0 x5_1; replace p6 := eq_true p6; replace q6 := eq_true q6; have p35 : 0 ≤ (x5_1 : Int) := tX; have q35 : x5_1 < (sx18_0.size : Int) := tX; have hx35 := bt_at sx18_0 x5_1; replace p35 := eq_true p35; replace q35 := eq_true q35
         go_wp2_with (first | ((with_reducible refine gate_builtin (b := .append) (xs := #[.tmp 23, .tmp 27]) rfl ?_); at_builtin; refine Kd.R_append (Kd.int .u8) (w0 := w) w.heap.size rfl (.tmp 23) (.tmp 27) 69 5 (.int .u8 0) 1 rfl Tryz.underlying69 info5 rfl (by decide) (by omega) u3 x3_1 (bt sx18_0 x5_1) [.int .u8 (bt sx18_0 x5_1)] (fun _ => True) (fun _ => False) rfl rfl ?aP (fun _ hk => hk.elim) ?aF ?aO ?aB ?aS ?aL ?_; (case aP => exact rfl); (case aB => exact tB); (case aF => exact (fun _ _ => trivial)); (case aO => exact (uR HO_3.out)); (case aS => exact (below_size tB)); (case aL => have := LMc36.out; omega); intro e5 w37 ho hb hg hat; rw [← d6.out] at ho; have HB := sd hb; have d7 := sd ho; clear ho hb hg hat)); go_roundg k1
         case measure => have := HK1.out; omega
         case rel => exact ⟨(c8), (wrap64 (x5_1 + 1)), tF, H', ⟨by have := HK1.out; omega⟩, ⟨uR d7.out⟩, ⟨tB⟩⟩
        ·rw [if_neg c36] at H; exact absurd H (by simp)
      ·rw [if_neg c5] at H; exact absurd H (by simp)
     ·rw [if_neg c4] at H; have c4b0 : decide (x5_1 < (sx18_0.size : Int)) = false := decide_eq_false c4; clear c4; obtain rfl := Option.some.inj H; have hcv38 := own_string (P := Tryz.prog) Tryz.underlying69 Tryz.underlying5 Tryz.underlying9 (Kd.own_of_R HO_3.out); go_wp2; go_ret; exact ⟨tE, tB⟩
  ·rw [if_neg c3] at H; exact absurd H (by simp)
 ·rw [if_neg c2] at H; exact absurd H (by simp)
end Go.Proofs.YtdacgdjjdifneaaGreatDoor.PFnGjFlattenOften
