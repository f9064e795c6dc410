/- Walks of the functions that the law calls, printed by program and rewritten. -/
import Derived.Test.YthgpfljhmhkaiacGreatDoorV0
import Derived.Test.YthgpfljhmhkaiacGreatDoorV5
set_option linter.all false
namespace Go.Proofs.YthgpfljhmhkaiacGreatDoor.PFnJrTypedMisses
open Go.RowKit Go.Proofs.YthgpfljhmhkaiacGreatDoorW.PrintWords Go.Proofs.YthgpfljhmhkaiacGreatDoorW.PrintLast Go.Proofs.YthgpfljhmhkaiacGreatDoorW.PrintMore
attribute [local go_sem] max2_int min2_int max_two min_two max_three min_three max_four min_four
/-! ### spec_Unquote: function 30 -/
def spec_Unquote.l0 : Nat → List Int → ByteArray → Int → Option (ByteArray)
 | 0, _, _, _ => none
 | k + 1, x3, x4, x5 => if x5 < (x4.size : Int) then (if 0 ≤ x5 then (if (bt x4 x5) = 92 then ((spec_unit.f k x4 x5).bind fun a5 => (if a5.2 = true then ((spec_unit.f k x4 (wrap64 (x5 + 6))).bind fun a8 => (if a8.2 = true then ((spec_high.f a5.1).bind fun b3 => (if b3 = true then ((spec_low.f a8.1).bind fun b4 => (if b4 = true then ((spec_appendUTF8.f k x3 (wrap64 ((wrap64 (65536 + (wrap64 ((wrap64 (a5.1 - 55296)) * 1024)))) + (wrap64 (a8.1 - 56320))))).bind fun a9 => (spec_Unquote.l0 k a9 x4 (wrap64 ((wrap64 (x5 + 6)) + 6)))) else ((spec_appendUTF8.f k x3 a5.1).bind fun b0 => (spec_Unquote.l0 k b0 x4 (wrap64 (x5 + 6)))))) else ((spec_appendUTF8.f k x3 a5.1).bind fun b1 => (spec_Unquote.l0 k b1 x4 (wrap64 (x5 + 6)))))) else ((spec_appendUTF8.f k x3 a5.1).bind fun b2 => (spec_Unquote.l0 k b2 x4 (wrap64 (x5 + 6)))))) else (if 0 ≤ (wrap64 (x5 + 1)) then (if (wrap64 (x5 + 1)) < (x4.size : Int) then ((spec_short.f (bt x4 (wrap64 (x5 + 1)))).bind fun a3 => (if x3.length < 140737488355328 then (spec_Unquote.l0 k (x3 ++ [a3]) x4 (wrap64 (x5 + 2))) else (none))) else (none)) else (none)))) else (if x3.length < 140737488355328 then (spec_Unquote.l0 k (x3 ++ [bt x4 x5]) x4 (wrap64 (x5 + 1))) else (none))) else (none)) else (some (strOfNums x3))
def spec_Unquote.f (k : Nat) (a0 : ByteArray) : Option (ByteArray) := if 1 ≤ (wrap64 ((a0.size : Int) - 1)) then (if (wrap64 ((a0.size : Int) - 1)) ≤ (a0.size : Int) then (spec_Unquote.l0 k ([] : List Int) (a0.extract 1 ((wrap64 ((a0.size : Int) - 1)) : Int).toNat) 0) else (none)) else (none)
set_option maxHeartbeats 8000000 in
set_option maxRecDepth 100000 in
theorem spec_Unquote.calls (k : Nat) (a0 : ByteArray) (r : ByteArray) (w : World) (h : spec_Unquote.f k a0 = some r) :
  Calls Tryz.prog 30 #[.string a0] w fun e w' => e = .returned (.string r) ∧ Below w.heap.size w w' := by
 have HB := sd (Below.refl w.heap.size w)
 have H : (if 1 ≤ (wrap64 ((a0.size : Int) - 1)) then (if (wrap64 ((a0.size : Int) - 1)) ≤ (a0.size : Int) then (spec_Unquote.l0 k ([] : List Int) (a0.extract 1 ((wrap64 ((a0.size : Int) - 1)) : Int).toNat) 0) else (none)) else (none)) = some r := h
 clear h
 by_cases c2 : 1 ≤ (wrap64 ((a0.size : Int) - 1))
 ·rw [if_pos c2] at H
  have c2b0 := eq_true c2
  have c2b1 : decide (1 ≤ (wrap64 ((a0.size : Int) - 1))) = true := decide_eq_true c2
  clear c2
  by_cases c3 : (wrap64 ((a0.size : Int) - 1)) ≤ (a0.size : Int)
  ·rw [if_pos c3] at H
   have c3b0 := eq_true c3
   have c3b1 : decide ((wrap64 ((a0.size : Int) - 1)) ≤ (a0.size : Int)) = true := decide_eq_true c3
   clear c3
   have H' := sd H
   clear H
   go_enter Tryz.func30, Tryz.ntmps30
   go_wp2
   generalize (a0.extract 1 ((wrap64 ((a0.size : Int) - 1)) : Int).toNat) = sx18_0 at H' ⊢
   (try simp only [Act.put, List.setIfInBounds_toArray, List.set_cons_zero, List.set_cons_succ])
   go_loopg [3, 5] k (fun kq v3 v5 w' => ∃ (x3_1 : List Int) (x5_1 : Int), v5 = .int .i64 x5_1 ∧ Aside0 (spec_Unquote.l0 kq x3_1 sx18_0 x5_1 = some r) ∧ Aside0 (kq ≤ k) ∧ Aside0 (Kd.R (Kd.int .u8) 5 w' w.heap.size (fun _ => True) v3 x3_1) ∧ Aside0 (Below w.heap.size w w'))
   case atStart => exact ⟨(([] : List Int)), (0), tF, H', ⟨Nat.le_refl _⟩, ⟨tN⟩, ⟨tB⟩⟩
   case round =>
    clear H'
    obtain ⟨x3_1, x5_1, rfl, HA, HK1, HO_3, HB⟩ := hrel
    cases gk with
    | zero => exact absurd HA.out (by simp [spec_Unquote.l0])
    | succ k1 =>
     have H := HA.out
     clear HA
     simp only [spec_Unquote.l0] at H
     by_cases c4 : x5_1 < (sx18_0.size : Int)
     ·rw [if_pos c4] at H
      have c4b0 : decide (x5_1 < (sx18_0.size : Int)) = true := decide_eq_true c4
      clear c4
      by_cases c5 : 0 ≤ x5_1
      ·rw [if_pos c5] at H
       have c5b0 : decide (0 ≤ x5_1) = true := decide_eq_true c5
       clear c5
       by_cases c7 : (bt sx18_0 x5_1) = 92
       ·rw [if_pos c7] at H
        have c7b0 : ((bt sx18_0 x5_1) == 92) = true := beq_iff_eq.mpr c7
        have c7b1 : ((bt sx18_0 x5_1) != 92) = false := bne_eq_false_iff_eq.mpr c7
        clear c7
        replace H := Option.bind_eq_some_iff.mp H
        obtain ⟨⟨a1, e1⟩, A80, H⟩ := H
        try dsimp only at H
        have A8 := sd A80
        clear A80
        by_cases c9 : e1 = true
        ·subst c9
         rw [if_pos rfl] at H
         replace H := Option.bind_eq_some_iff.mp H
         obtain ⟨⟨a4, e2⟩, b5, H⟩ := H
         try dsimp only at H
         have A10 := sd b5
         clear b5
         by_cases c11 : e2 = true
         ·subst c11
          rw [if_pos rfl] at H
          replace H := Option.bind_eq_some_iff.mp H
          obtain ⟨b3, b6, H⟩ := H
          try dsimp only at H
          have A12 := sd b6
          clear b6
          by_cases c13 : b3 = true
          ·subst c13
           rw [if_pos rfl] at H
           replace H := Option.bind_eq_some_iff.mp H
           obtain ⟨b4, b7, H⟩ := H
           try dsimp only at H
           have A14 := sd b7
           clear b7
           by_cases c15 : b4 = true
           ·subst c15
            rw [if_pos rfl] at H
            replace H := Option.bind_eq_some_iff.mp H
            obtain ⟨a9, b8, H⟩ := H
            try dsimp only at H
            have A16 := sd b8
            clear b8
            have H' := sd H
            clear H
            have p6 : 0 ≤ (x5_1 : Int) := of_decide_eq_true (by first | (with_reducible assumption) | assumption)
            have q6 : x5_1 < (sx18_0.size : Int) := of_decide_eq_true (by first | (with_reducible assumption) | assumption)
            have hx6 := bt_at sx18_0 x5_1
            replace p6 := eq_true p6
            replace q6 := eq_true q6
            go_wp2_with (first | ((with_reducible refine gate_callee (f := 47) rfl ?_); refine goesL_ (some 34) rfl rfl Tryz.func47 (by kernel_rfl) rfl #[.string sx18_0, .int .i64 x5_1] rfl tM ?_; (with_reducible refine (spec_unit.calls k1 sx18_0 x5_1 a1 true _ A8.out).mono ?_); rintro e w' ⟨rfl, ⟨nd, rfl⟩⟩; refine ⟨_, rfl, ?_⟩) | ((with_reducible refine gate_callee (f := 47) rfl ?_); refine goesL_ (some 54) rfl rfl Tryz.func47 (by kernel_rfl) rfl #[.string sx18_0, .int .i64 (wrap64 (x5_1 + 6))] rfl tM ?_; (with_reducible refine (spec_unit.calls k1 sx18_0 (wrap64 (x5_1 + 6)) a4 true _ A10.out).mono ?_); rintro e w' ⟨rfl, ⟨nd, rfl⟩⟩; refine ⟨_, rfl, ?_⟩) | (go_at_call 49; (with_reducible refine (spec_high.calls a1 true _ A12.out).mono ?_); rintro e w' ⟨rfl, ⟨nd, rfl⟩⟩) | (go_at_call 50; (with_reducible refine (spec_low.calls a4 true _ A14.out).mono ?_); rintro e w' ⟨rfl, ⟨nd, rfl⟩⟩; obtain ⟨Ao17, co17, eo17⟩ := Kd.R_slice HO_3.out; subst eo17) | ((with_reducible refine gate_callee (f := 51) rfl ?_); refine goesL_ (some 77) rfl rfl Tryz.func51 (by kernel_rfl) rfl #[.slice Ao17 x3_1.length co17, .int .i64 (wrap64 ((wrap64 (65536 + (wrap64 ((wrap64 (a1 - 55296)) * 1024)))) + (wrap64 (a4 - 56320))))] rfl tM ?_; (with_reducible refine (spec_appendUTF8.calls k1 (fun k_ => some k_ = (.slice Ao17 x3_1.length co17 : Value).ownBlock) (.slice Ao17 x3_1.length co17) x3_1 (wrap64 ((wrap64 (65536 + (wrap64 ((wrap64 (a1 - 55296)) * 1024)))) + (wrap64 (a4 - 56320)))) a9 w _ ?side1 ?side2 A16.out).mono ?_); (case side1 => exact tB); (case side2 => exact Kd.R_tight rfl HO_3.out); rintro e w18 ⟨e5, rfl, ho0, hb, hkp⟩; refine ⟨_, rfl, ?_⟩; have d3 := sd (Kd.R_mono (ok' := fun k_ => True) ho0 (fun k_ hk_ => trivial)); have HB := sd (hb); clear hb hkp ho0))
            go_roundg k1
            case measure => have := HK1.out; omega
            case rel => exact ⟨(a9), (wrap64 ((wrap64 (x5_1 + 6)) + 6)), tF, H', ⟨by have := HK1.out; omega⟩, ⟨uR d3.out⟩, ⟨tB⟩⟩
           ·replace c15 := Bool.eq_false_iff.mpr c15
            subst c15
            rw [if_neg (show ¬ (false = true) by decide)] at H
            replace H := Option.bind_eq_some_iff.mp H
            obtain ⟨b0, b9, H⟩ := H
            try dsimp only at H
            have A19 := sd b9
            clear b9
            have H' := sd H
            clear H
            have p6 : 0 ≤ (x5_1 : Int) := of_decide_eq_true (by first | (with_reducible assumption) | assumption)
            have q6 : x5_1 < (sx18_0.size : Int) := of_decide_eq_true (by first | (with_reducible assumption) | assumption)
            have hx6 := bt_at sx18_0 x5_1
            replace p6 := eq_true p6
            replace q6 := eq_true q6
            go_wp2_with (first | ((with_reducible refine gate_callee (f := 47) rfl ?_); refine goesL_ (some 34) rfl rfl Tryz.func47 (by kernel_rfl) rfl #[.string sx18_0, .int .i64 x5_1] rfl tM ?_; (with_reducible refine (spec_unit.calls k1 sx18_0 x5_1 a1 true _ A8.out).mono ?_); rintro e w' ⟨rfl, ⟨nd, rfl⟩⟩; refine ⟨_, rfl, ?_⟩) | ((with_reducible refine gate_callee (f := 47) rfl ?_); refine goesL_ (some 54) rfl rfl Tryz.func47 (by kernel_rfl) rfl #[.string sx18_0, .int .i64 (wrap64 (x5_1 + 6))] rfl tM ?_; (with_reducible refine (spec_unit.calls k1 sx18_0 (wrap64 (x5_1 + 6)) a4 true _ A10.out).mono ?_); rintro e w' ⟨rfl, ⟨nd, rfl⟩⟩; refine ⟨_, rfl, ?_⟩) | (go_at_call 49; (with_reducible refine (spec_high.calls a1 true _ A12.out).mono ?_); rintro e w' ⟨rfl, ⟨nd, rfl⟩⟩) | (go_at_call 50; (with_reducible refine (spec_low.calls a4 false _ A14.out).mono ?_); rintro e w' ⟨rfl, ⟨nd, rfl⟩⟩; obtain ⟨Ao20, co20, eo20⟩ := Kd.R_slice HO_3.out; subst eo20) | ((with_reducible refine gate_callee (f := 51) rfl ?_); refine goesL_ (some 77) rfl rfl Tryz.func51 (by kernel_rfl) rfl #[.slice Ao20 x3_1.length co20, .int .i64 a1] rfl tM ?_; (with_reducible refine (spec_appendUTF8.calls k1 (fun k_ => some k_ = (.slice Ao20 x3_1.length co20 : Value).ownBlock) (.slice Ao20 x3_1.length co20) x3_1 a1 b0 w _ ?_ ?_ A19.out).mono ?_); exact tB; exact Kd.R_tight rfl HO_3.out; rintro e w21 ⟨e6, rfl, ho0, hb, hkp⟩; refine ⟨_, rfl, ?_⟩; have d4 := sd (Kd.R_mono (ok' := fun k_ => True) ho0 (fun k_ hk_ => trivial)); have HB := sd (hb); clear hb hkp ho0))
            go_roundg k1
            case measure => have := HK1.out; omega
            case rel => exact ⟨(b0), (wrap64 (x5_1 + 6)), tF, H', ⟨by have := HK1.out; omega⟩, ⟨uR d4.out⟩, ⟨tB⟩⟩
          ·replace c13 := Bool.eq_false_iff.mpr c13
           subst c13
           rw [if_neg (show ¬ (false = true) by decide)] at H
           replace H := Option.bind_eq_some_iff.mp H
           obtain ⟨b1, c0, H⟩ := H
           try dsimp only at H
           have A22 := sd c0
           clear c0
           have H' := sd H
           clear H
           have p6 : 0 ≤ (x5_1 : Int) := of_decide_eq_true (by first | (with_reducible assumption) | assumption)
           have q6 : x5_1 < (sx18_0.size : Int) := of_decide_eq_true (by first | (with_reducible assumption) | assumption)
           have hx6 := bt_at sx18_0 x5_1
           replace p6 := eq_true p6
           replace q6 := eq_true q6
           go_wp2_with (first | ((with_reducible refine gate_callee (f := 47) rfl ?_); refine goesL_ (some 34) rfl rfl Tryz.func47 (by kernel_rfl) rfl #[.string sx18_0, .int .i64 x5_1] rfl tM ?_; (with_reducible refine (spec_unit.calls k1 sx18_0 x5_1 a1 true _ A8.out).mono ?_); rintro e w' ⟨rfl, ⟨nd, rfl⟩⟩; refine ⟨_, rfl, ?_⟩) | ((with_reducible refine gate_callee (f := 47) rfl ?_); refine goesL_ (some 54) rfl rfl Tryz.func47 (by kernel_rfl) rfl #[.string sx18_0, .int .i64 (wrap64 (x5_1 + 6))] rfl tM ?_; (with_reducible refine (spec_unit.calls k1 sx18_0 (wrap64 (x5_1 + 6)) a4 true _ A10.out).mono ?_); rintro e w' ⟨rfl, ⟨nd, rfl⟩⟩; refine ⟨_, rfl, ?_⟩) | (go_at_call 49; (with_reducible refine (spec_high.calls a1 false _ A12.out).mono ?_); rintro e w' ⟨rfl, ⟨nd, rfl⟩⟩; obtain ⟨Ao23, co23, eo23⟩ := Kd.R_slice HO_3.out; subst eo23) | ((with_reducible refine gate_callee (f := 51) rfl ?_); refine goesL_ (some 77) rfl rfl Tryz.func51 (by kernel_rfl) rfl #[.slice Ao23 x3_1.length co23, .int .i64 a1] rfl tM ?_; (with_reducible refine (spec_appendUTF8.calls k1 (fun k_ => some k_ = (.slice Ao23 x3_1.length co23 : Value).ownBlock) (.slice Ao23 x3_1.length co23) x3_1 a1 b1 w _ ?_ ?_ A22.out).mono ?_); exact tB; exact Kd.R_tight rfl HO_3.out; rintro e w24 ⟨e7, rfl, ho0, hb, hkp⟩; refine ⟨_, rfl, ?_⟩; have d5 := sd (Kd.R_mono (ok' := fun k_ => True) ho0 (fun k_ hk_ => trivial)); have HB := sd (hb); clear hb hkp ho0))
           go_roundg k1
           case measure => have := HK1.out; omega
           case rel => exact ⟨(b1), (wrap64 (x5_1 + 6)), tF, H', ⟨by have := HK1.out; omega⟩, ⟨uR d5.out⟩, ⟨tB⟩⟩
         ·replace c11 := Bool.eq_false_iff.mpr c11
          subst c11
          rw [if_neg (show ¬ (false = true) by decide)] at H
          replace H := Option.bind_eq_some_iff.mp H
          obtain ⟨b2, c1, H⟩ := H
          try dsimp only at H
          have A25 := sd c1
          clear c1
          have H' := sd H
          clear H
          have p6 : 0 ≤ (x5_1 : Int) := of_decide_eq_true (by first | (with_reducible assumption) | assumption)
          have q6 : x5_1 < (sx18_0.size : Int) := of_decide_eq_true (by first | (with_reducible assumption) | assumption)
          have hx6 := bt_at sx18_0 x5_1
          replace p6 := eq_true p6
          replace q6 := eq_true q6
          go_wp2_with (first | ((with_reducible refine gate_callee (f := 47) rfl ?_); refine goesL_ (some 34) rfl rfl Tryz.func47 (by kernel_rfl) rfl #[.string sx18_0, .int .i64 x5_1] rfl tM ?_; (with_reducible refine (spec_unit.calls k1 sx18_0 x5_1 a1 true _ A8.out).mono ?_); rintro e w' ⟨rfl, ⟨nd, rfl⟩⟩; refine ⟨_, rfl, ?_⟩) | ((with_reducible refine gate_callee (f := 47) rfl ?_); refine goesL_ (some 54) rfl rfl Tryz.func47 (by kernel_rfl) rfl #[.string sx18_0, .int .i64 (wrap64 (x5_1 + 6))] rfl tM ?_; (with_reducible refine (spec_unit.calls k1 sx18_0 (wrap64 (x5_1 + 6)) a4 false _ A10.out).mono ?_); rintro e w' ⟨rfl, ⟨nd, rfl⟩⟩; refine ⟨_, rfl, ?_⟩; obtain ⟨Ao26, co26, eo26⟩ := Kd.R_slice HO_3.out; subst eo26) | ((with_reducible refine gate_callee (f := 51) rfl ?_); refine goesL_ (some 77) rfl rfl Tryz.func51 (by kernel_rfl) rfl #[.slice Ao26 x3_1.length co26, .int .i64 a1] rfl tM ?_; (with_reducible refine (spec_appendUTF8.calls k1 (fun k_ => some k_ = (.slice Ao26 x3_1.length co26 : Value).ownBlock) (.slice Ao26 x3_1.length co26) x3_1 a1 b2 w _ ?_ ?_ A25.out).mono ?_); exact tB; exact Kd.R_tight rfl HO_3.out; rintro e w27 ⟨e8, rfl, ho0, hb, hkp⟩; refine ⟨_, rfl, ?_⟩; have d6 := sd (Kd.R_mono (ok' := fun k_ => True) ho0 (fun k_ hk_ => trivial)); have HB := sd (hb); clear hb hkp ho0))
          go_roundg k1
          case measure => have := HK1.out; omega
          case rel => exact ⟨(b2), (wrap64 (x5_1 + 6)), tF, H', ⟨by have := HK1.out; omega⟩, ⟨uR d6.out⟩, ⟨tB⟩⟩
        ·replace c9 := Bool.eq_false_iff.mpr c9
         subst c9
         rw [if_neg (show ¬ (false = true) by decide)] at H
         obtain ⟨ji28, hji28⟩ : ∃ j_ : Int, (wrap64 (x5_1 + 1)) = j_ := ⟨_, rfl⟩
         replace H : (if 0 ≤ (ji28) then (if (ji28) < (sx18_0.size : Int) then ((spec_short.f (bt sx18_0 (ji28))).bind fun a3 => (if x3_1.length < 140737488355328 then (spec_Unquote.l0 k1 (x3_1 ++ [a3]) sx18_0 (wrap64 (x5_1 + 2))) else (none))) else (none)) else (none)) = some r := by first | (rw [hji28] at H; exact H) | (simp only [hji28] at H ⊢; exact H)
         (try rw [hji28] at A8)
         have hji28w : (IntKind.i64.wrap (x5_1 + 1)) = ji28 := (i64_w _).trans hji28
         by_cases c29 : 0 ≤ (ji28)
         ·rw [if_pos c29] at H
          have c29b0 : decide (0 ≤ (ji28)) = true := decide_eq_true c29
          clear c29
          by_cases c30 : (ji28) < (sx18_0.size : Int)
          ·rw [if_pos c30] at H
           have c30b0 : decide ((ji28) < (sx18_0.size : Int)) = true := decide_eq_true c30
           clear c30
           replace H := Option.bind_eq_some_iff.mp H
           obtain ⟨a3, c6, H⟩ := H
           try dsimp only at H
           have A32 := sd c6
           clear c6
           by_cases c33 : x3_1.length < 140737488355328
           ·rw [if_pos c33] at H
            have LMc33 := sd c33
            clear c33
            obtain ⟨d0, a6⟩ : ∃ y_ : List Int, y_ = (x3_1 ++ [a3]) := ⟨_, rfl⟩
            replace H : (spec_Unquote.l0 k1 d0 sx18_0 (wrap64 (x5_1 + 2))) = some r := by first | (rw [a6]; with_reducible exact H) | (have H2_ := (Option.bind_some _ _).symm.trans H; rw [a6]; with_reducible exact H2_) | (have H2_ := (Option.bind_some _ _).symm.trans H; with_reducible exact H2_) | with_reducible exact H | (rw [a6]; exact H) | exact H
            have d7 := sd a6
            clear a6
            have H' := sd H
            clear H
            have p6 : 0 ≤ (x5_1 : Int) := of_decide_eq_true (by first | (with_reducible assumption) | assumption)
            have q6 : x5_1 < (sx18_0.size : Int) := of_decide_eq_true (by first | (with_reducible assumption) | assumption)
            have hx6 := bt_at sx18_0 x5_1
            replace p6 := eq_true p6
            replace q6 := eq_true q6
            go_wp2_with (first | ((with_reducible refine gate_callee (f := 47) rfl ?_); refine goesL_ (some 34) rfl rfl Tryz.func47 (by kernel_rfl) rfl #[.string sx18_0, .int .i64 x5_1] rfl tM ?_; (with_reducible refine (spec_unit.calls k1 sx18_0 x5_1 a1 false _ A8.out).mono ?_); rintro e w' ⟨rfl, ⟨nd, rfl⟩⟩; refine ⟨_, rfl, ?_⟩; have p31 : 0 ≤ ((ji28) : Int) := of_decide_eq_true (by first | (with_reducible assumption) | assumption); have q31 : (ji28) < (sx18_0.size : Int) := of_decide_eq_true (by first | (with_reducible assumption) | assumption); have hx31 := bt_at sx18_0 (ji28); replace p31 := eq_true p31; replace q31 := eq_true q31) | ((with_reducible refine gate_callee (f := 48) rfl ?_); refine goesL_ (some 44) rfl rfl Tryz.func48 (by kernel_rfl) rfl #[.int .u8 (bt sx18_0 (ji28))] rfl (by (try simp only [List.map_toArray, List.map_cons, List.map_nil]); first | done | (simp only [hji28]; rfl) | rfl | (simp only [List.length_drop, List.length_take]; rfl)) ?_; (with_reducible refine (spec_short.calls (bt sx18_0 (ji28)) a3 _ A32.out).mono ?_); rintro e w' ⟨rfl, ⟨nd, rfl⟩⟩; refine ⟨_, rfl, ?_⟩) | ((with_reducible refine gate_builtin (b := .append) (xs := #[.tmp 39, .tmp 45]) rfl ?_); at_builtin; refine Kd.R_append (Kd.int .u8) (w0 := w) w.heap.size rfl (.tmp 39) (.tmp 45) 44 5 (.int .u8 0) 1 rfl Tryz.underlying44 info5 rfl (by decide) (by omega) u3 x3_1 a3 [.int .u8 a3] (fun _ => True) (fun _ => False) rfl rfl ?aP (fun _ hk => hk.elim) ?aF ?aO ?aB ?aS ?aL ?_; (case aP => exact rfl); (case aB => exact tB); (case aF => exact (fun _ _ => trivial)); (case aO => exact (uR HO_3.out)); (case aS => exact (below_size tB)); (case aL => have := LMc33.out; omega); intro e9 w34 ho hb hg hat; rw [← d7.out] at ho; have HB := sd (hb); have d8 := sd (ho); clear ho hb hg hat))
            go_roundg k1
            case measure => have := HK1.out; omega
            case rel => exact ⟨(d0), (wrap64 (x5_1 + 2)), tF, H', ⟨by have := HK1.out; omega⟩, ⟨uR d8.out⟩, ⟨tB⟩⟩
           ·rw [if_neg c33] at H
            exact absurd H (by simp)
          ·rw [if_neg c30] at H
           exact absurd H (by simp)
         ·rw [if_neg c29] at H
          exact absurd H (by simp)
       ·rw [if_neg c7] at H
        have c7b0 : ((bt sx18_0 x5_1) == 92) = false := beq_eq_false_iff_ne.mpr c7
        have c7b1 : ((bt sx18_0 x5_1) != 92) = true := bne_iff_ne.mpr c7
        by_cases c36 : x3_1.length < 140737488355328
        ·rw [if_pos c36] at H
         have LMc36 := sd c36
         clear c36
         obtain ⟨d1, a7⟩ : ∃ y_ : List Int, y_ = (x3_1 ++ [bt sx18_0 x5_1]) := ⟨_, rfl⟩
         replace H : (spec_Unquote.l0 k1 d1 sx18_0 (wrap64 (x5_1 + 1))) = some r := by first | (rw [a7]; with_reducible exact H) | (have H2_ := (Option.bind_some _ _).symm.trans H; rw [a7]; with_reducible exact H2_) | (have H2_ := (Option.bind_some _ _).symm.trans H; with_reducible exact H2_) | with_reducible exact H | (rw [a7]; exact H) | exact H
         have d9 := sd a7
         clear a7
         have H' := sd H
         clear H
         have p6 : 0 ≤ (x5_1 : Int) := of_decide_eq_true (by first | (with_reducible assumption) | assumption)
         have q6 : x5_1 < (sx18_0.size : Int) := of_decide_eq_true (by first | (with_reducible assumption) | assumption)
         have hx6 := bt_at sx18_0 x5_1
         replace p6 := eq_true p6
         replace q6 := eq_true q6
         have p35 : 0 ≤ (x5_1 : Int) := of_decide_eq_true (by first | (with_reducible assumption) | assumption)
         have q35 : x5_1 < (sx18_0.size : Int) := of_decide_eq_true (by first | (with_reducible assumption) | assumption)
         have hx35 := bt_at sx18_0 x5_1
         replace p35 := eq_true p35
         replace q35 := eq_true q35
         go_wp2_with (first | ((with_reducible refine gate_builtin (b := .append) (xs := #[.tmp 23, .tmp 27]) rfl ?_); at_builtin; refine Kd.R_append (Kd.int .u8) (w0 := w) w.heap.size rfl (.tmp 23) (.tmp 27) 44 5 (.int .u8 0) 1 rfl Tryz.underlying44 info5 rfl (by decide) (by omega) u3 x3_1 (bt sx18_0 x5_1) [.int .u8 (bt sx18_0 x5_1)] (fun _ => True) (fun _ => False) rfl rfl ?aP (fun _ hk => hk.elim) ?aF ?aO ?aB ?aS ?aL ?_; (case aP => exact rfl); (case aB => exact tB); (case aF => exact (fun _ _ => trivial)); (case aO => exact (uR HO_3.out)); (case aS => exact (below_size tB)); (case aL => have := LMc36.out; omega); intro f0 w37 ho hb hg hat; rw [← d9.out] at ho; have HB := sd (hb); have e0 := sd (ho); clear ho hb hg hat))
         go_roundg k1
         case measure => have := HK1.out; omega
         case rel => exact ⟨(d1), (wrap64 (x5_1 + 1)), tF, H', ⟨by have := HK1.out; omega⟩, ⟨uR e0.out⟩, ⟨tB⟩⟩
        ·rw [if_neg c36] at H
         exact absurd H (by simp)
      ·rw [if_neg c5] at H
       exact absurd H (by simp)
     ·rw [if_neg c4] at H
      have c4b0 : decide (x5_1 < (sx18_0.size : Int)) = false := decide_eq_false c4
      clear c4
      obtain rfl := Option.some.inj H
      have hcv38 := own_string (P := Tryz.prog) Tryz.underlying44 Tryz.underlying5 Tryz.underlying9 (Kd.own_of_R HO_3.out)
      go_wp2
      go_ret
      exact ⟨tE, tB⟩
  ·rw [if_neg c3] at H
   exact absurd H (by simp)
 ·rw [if_neg c2] at H
  exact absurd H (by simp)
/-! ### spec_Index: function 32 -/
mutual
def spec_Index.j0 : Nat → ByteArray → Bool → Option (Int × Bool)
 | 0, _, _ => none
 | k + 1, x0, x18 => if x18 = true then (some (0, false)) else (spec_Index.l0 k x0 0 0)
def spec_Index.l0 : Nat → ByteArray → Int → Int → Option (Int × Bool)
 | 0, _, _, _ => none
 | k + 1, x0, x4, x5 => if x5 < (x0.size : Int) then (if 0 ≤ x5 then (if (bt x0 x5) < 48 then (spec_Index.j2 k x0 x4 x5 (bt x0 x5) true) else (spec_Index.j2 k x0 x4 x5 (bt x0 x5) (decide ((bt x0 x5) > 57)))) else (none)) else (some (x4, true))
def spec_Index.j2 : Nat → ByteArray → Int → Int → Int → Bool → Option (Int × Bool)
 | 0, _, _, _, _, _ => none
 | k + 1, x0, x4, x5, x6, x33 => if x33 = true then (some (0, false)) else (if x4 < 288230376151711744 then (spec_Index.l0 k x0 (wrap64 ((wrap64 (x4 * 10)) + ((x6 - 48) % 256))) (wrap64 (x5 + 1))) else (spec_Index.l0 k x0 4611686018427387904 (wrap64 (x5 + 1))))
end
def spec_Index.f (k : Nat) (a0 : ByteArray) : Option (Int × Bool) := if a0.toList = ([] : List UInt8) then (spec_Index.j0 k a0 true) else (if (a0.size : Int) > 1 then (if 0 < (a0.size : Int) then (spec_Index.j0 k a0 ((bt a0 0) == 48)) else (none)) else (spec_Index.j0 k a0 false))
theorem spec_Index.mono_l : ∀ k, (∀ y0 y1, LeO (spec_Index.j0 k y0 y1) (spec_Index.j0 (k + 1) y0 y1)) ∧ (∀ y0 y1 y2, LeO (spec_Index.l0 k y0 y1 y2) (spec_Index.l0 (k + 1) y0 y1 y2)) ∧ (∀ y0 y1 y2 y3 y4, LeO (spec_Index.j2 k y0 y1 y2 y3 y4) (spec_Index.j2 (k + 1) y0 y1 y2 y3 y4))
 | 0 => ⟨fun _ _ r h => by simp [spec_Index.j0] at h, fun _ _ _ r h => by simp [spec_Index.l0] at h, fun _ _ _ _ _ r h => by simp [spec_Index.j2] at h⟩
 | k + 1 => by
  obtain ⟨ih0, ih1, ih2⟩ := spec_Index.mono_l k
  refine ⟨?_, ?_, ?_⟩
  ·intro y0 y1
   unfold spec_Index.j0
   repeat' first
   | (with_reducible exact ih0 _ _)
   | (with_reducible exact ih1 _ _ _)
   | (with_reducible exact ih2 _ _ _ _ _)
   | (with_reducible exact LeO.refl _)
   | (with_reducible exact LeO.none _)
   | (with_reducible refine LeO.ite ?_ ?_)
   | (with_reducible refine LeO.bind ?_ (fun _ => ?_))
   | exact ih0 _ _
   | exact ih1 _ _ _
   | exact ih2 _ _ _ _ _
   | exact LeO.none _
   | refine LeO.ite ?_ ?_
   | refine LeO.bind ?_ (fun _ => ?_)
  ·intro y0 y1 y2
   unfold spec_Index.l0
   repeat' first
   | (with_reducible exact ih0 _ _)
   | (with_reducible exact ih1 _ _ _)
   | (with_reducible exact ih2 _ _ _ _ _)
   | (with_reducible exact LeO.refl _)
   | (with_reducible exact LeO.none _)
   | (with_reducible refine LeO.ite ?_ ?_)
   | (with_reducible refine LeO.bind ?_ (fun _ => ?_))
   | exact ih0 _ _
   | exact ih1 _ _ _
   | exact ih2 _ _ _ _ _
   | exact LeO.none _
   | refine LeO.ite ?_ ?_
   | refine LeO.bind ?_ (fun _ => ?_)
  ·intro y0 y1 y2 y3 y4
   unfold spec_Index.j2
   repeat' first
   | (with_reducible exact ih0 _ _)
   | (with_reducible exact ih1 _ _ _)
   | (with_reducible exact ih2 _ _ _ _ _)
   | (with_reducible exact LeO.refl _)
   | (with_reducible exact LeO.none _)
   | (with_reducible refine LeO.ite ?_ ?_)
   | (with_reducible refine LeO.bind ?_ (fun _ => ?_))
   | exact ih0 _ _
   | exact ih1 _ _ _
   | exact ih2 _ _ _ _ _
   | exact LeO.none _
   | refine LeO.ite ?_ ?_
   | refine LeO.bind ?_ (fun _ => ?_)
theorem spec_Index.mono : ∀ a0 k, LeO (spec_Index.f k a0) (spec_Index.f (k + 1) a0) := by
 intro a0 k
 obtain ⟨ih0, ih1, ih2⟩ := spec_Index.mono_l k
 unfold spec_Index.f
 repeat' first
   | (with_reducible exact ih0 _ _)
   | (with_reducible exact ih1 _ _ _)
   | (with_reducible exact ih2 _ _ _ _ _)
   | (with_reducible exact LeO.refl _)
   | (with_reducible exact LeO.none _)
   | (with_reducible refine LeO.ite ?_ ?_)
   | (with_reducible refine LeO.bind ?_ (fun _ => ?_))
   | exact ih0 _ _
   | exact ih1 _ _ _
   | exact ih2 _ _ _ _ _
   | exact LeO.none _
   | refine LeO.ite ?_ ?_
   | refine LeO.bind ?_ (fun _ => ?_)
set_option maxHeartbeats 8000000 in
set_option maxRecDepth 100000 in
theorem spec_Index.calls (k : Nat) (a0 : ByteArray) (r1 : Int) (r2 : Bool) (w : World) (h : spec_Index.f k a0 = some (r1, r2)) :
  Calls Tryz.prog 32 #[.string a0] w fun e w' => e = .returned (.tuple #[.int .i64 r1, .bool r2]) ∧ Drawn0 w w' := by
 have H : (if a0.toList = ([] : List UInt8) then (spec_Index.j0 k a0 true) else (if (a0.size : Int) > 1 then (if 0 < (a0.size : Int) then (spec_Index.j0 k a0 ((bt a0 0) == 48)) else (none)) else (spec_Index.j0 k a0 false))) = some (r1, r2) := h
 clear h
 have HC2 := sd H
 clear H
 go_enter Tryz.func32, Tryz.ntmps32
 go_upto_region 1 with (fail)
 go_cut [18] (fun v18 wc => ∃ (kq : Nat) (x18_1 : Bool), v18 = .bool x18_1 ∧ Aside0 (spec_Index.j0 kq a0 x18_1 = some (r1, r2)) ∧ Aside0 (kq ≤ k) ∧ Drawn0 w wc)
 case first =>
  have H := HC2.out
  clear HC2
  by_cases c3 : a0.toList = ([] : List UInt8)
  ·rw [if_pos c3] at H
   have c3b0 : (a0.toList == ([] : List UInt8)) = true := beq_iff_eq.mpr c3
   have c3b1 : (a0.toList != ([] : List UInt8)) = false := bne_eq_false_iff_eq.mpr c3
   clear c3
   (first | rw [c3b0] | (simp only [i64_w, i32_w]; rw [c3b0]) | skip)
   have H' := sd H
   clear H
   go_wp2
   go_meet
   case rel => exact ⟨_, (true), tF, H', ⟨by first | omega | exact Nat.le_refl _⟩, by repeat (first | exact Drawn0.refl _ | apply Drawn0.step)⟩
  ·rw [if_neg c3] at H
   have c3b0 : (a0.toList == ([] : List UInt8)) = false := beq_eq_false_iff_ne.mpr c3
   have c3b1 : (a0.toList != ([] : List UInt8)) = true := bne_iff_ne.mpr c3
   (first | rw [c3b0] | (simp only [i64_w, i32_w]; rw [c3b0]) | skip)
   by_cases c4 : (a0.size : Int) > 1
   ·rw [if_pos c4] at H
    have c4b0 : decide (1 < (a0.size : Int)) = true := decide_eq_true c4
    have c4b1 : decide (1 < a0.size) = true := decide_eq_true (by omega)
    clear c4
    by_cases c5 : 0 < (a0.size : Int)
    ·rw [if_pos c5] at H
     have c5b0 : decide (0 < (a0.size : Int)) = true := decide_eq_true c5
     have c5b1 : decide (0 < a0.size) = true := decide_eq_true (by omega)
     clear c5
     have H' := sd H
     clear H
     have p6 : 0 ≤ (0 : Int) := (by omega)
     have q6 : 0 < a0.size := (by have : (0 : Int) < (a0.size : Int) := of_decide_eq_true (by first | (with_reducible assumption) | assumption); omega)
     have hx6 : ∀ h : 0 < a0.size, ((a0[0]'h).toNat : Int) = bt a0 0 := bt_at a0 0
     clear p6
     have qi6 : (0 < (a0.size : Int)) = True := eq_true tX
     replace q6 := eq_true q6
     go_wp2
     go_meet
     case rel => exact ⟨_, (((bt a0 0) == 48)), tF, H', ⟨by first | omega | exact Nat.le_refl _⟩, by repeat (first | exact Drawn0.refl _ | apply Drawn0.step)⟩
    ·rw [if_neg c5] at H
     exact absurd H (by simp)
   ·rw [if_neg c4] at H
    have c4b0 : decide (1 < (a0.size : Int)) = false := decide_eq_false c4
    have c4b1 : decide (1 < a0.size) = false := decide_eq_false (by omega)
    clear c4
    have H' := sd H
    clear H
    go_wp2
    go_meet
    case rel => exact ⟨_, (false), tF, H', ⟨by first | omega | exact Nat.le_refl _⟩, by repeat (first | exact Drawn0.refl _ | apply Drawn0.step)⟩
 case rest =>
  clear HC2
  obtain ⟨kq, x18_1, rfl, HA, HJ1, ⟨mc1, rfl⟩⟩ := hcut
  cases kq with
  | zero => exact absurd HA.out (by simp [spec_Index.j0])
  | succ kj1 =>
   have H := HA.out
   clear HA
   simp only [spec_Index.j0] at H
   by_cases c7 : x18_1 = true
   ·subst c7
    rw [if_pos rfl] at H
    simp only [Option.some.injEq, Prod.mk.injEq] at H
    obtain ⟨rfl, rfl⟩ := H
    go_wp2
    go_ret2
    exact ⟨by first | rfl | (simp; done) | (simp [*]; done), by repeat (first | exact Drawn0.refl _ | apply Drawn0.step)⟩
   ·replace c7 := Bool.eq_false_iff.mpr c7
    subst c7
    rw [if_neg (show ¬ (false = true) by decide)] at H
    have H' := sd H
    clear H
    go_wp2
    (try simp only [Act.put, List.setIfInBounds_toArray, List.set_cons_zero, List.set_cons_succ])
    go_loopg [4, 5] kj1 (fun kq v4 v5 w' => ∃ (x4_2 : Int) (x5_2 : Int), v4 = .int .i64 x4_2 ∧ v5 = .int .i64 x5_2 ∧ Aside0 (spec_Index.l0 kq a0 x4_2 x5_2 = some (r1, r2)) ∧ Aside0 (kq ≤ kj1) ∧ Drawn0 w w')
    case atStart => exact ⟨(0), (0), tF, tF, H', ⟨Nat.le_refl _⟩, by repeat (first | exact Drawn0.refl _ | apply Drawn0.step)⟩
    case round =>
     clear H'
     obtain ⟨x4_2, x5_2, rfl, rfl, HA, HK2, ⟨m2, rfl⟩⟩ := hrel
     cases gk with
     | zero => exact absurd HA.out (by simp [spec_Index.l0])
     | succ k2 =>
      have H := HA.out
      clear HA
      simp only [spec_Index.l0] at H
      by_cases c8 : x5_2 < (a0.size : Int)
      ·rw [if_pos c8] at H
       have c8b0 : decide (x5_2 < (a0.size : Int)) = true := decide_eq_true c8
       clear c8
       by_cases c9 : 0 ≤ x5_2
       ·rw [if_pos c9] at H
        have c9b0 : decide (0 ≤ x5_2) = true := decide_eq_true c9
        clear c9
        have HC11 := sd H
        clear H
        have p10 : 0 ≤ (x5_2 : Int) := of_decide_eq_true (by first | (with_reducible assumption) | assumption)
        have q10 : x5_2 < (a0.size : Int) := of_decide_eq_true (by first | (with_reducible assumption) | assumption)
        have hx10 := bt_at a0 x5_2
        replace p10 := eq_true p10
        replace q10 := eq_true q10
        go_upto_region 8 with (fail)
        go_cut [33] (fun v33 wc => ∃ (kq : Nat) (x33_10 : Bool), v33 = .bool x33_10 ∧ Aside0 (spec_Index.j2 kq a0 x4_2 x5_2 (bt a0 x5_2) x33_10 = some (r1, r2)) ∧ Aside0 (kq ≤ k2) ∧ Drawn0 w wc)
        case first =>
         have H := HC11.out
         clear HC11
         by_cases c12 : (bt a0 x5_2) < 48
         ·rw [if_pos c12] at H
          have c12b0 : decide ((bt a0 x5_2) < 48) = true := decide_eq_true c12
          clear c12
          (first | rw [c12b0] | (simp only [i64_w, i32_w]; rw [c12b0]) | skip)
          have H' := sd H
          clear H
          go_wp2
          go_meet
          case rel => exact ⟨_, (true), tF, H', ⟨by have := HJ1.out; have := HK2.out; first | omega | exact Nat.le_refl _⟩, by repeat (first | exact Drawn0.refl _ | apply Drawn0.step)⟩
         ·rw [if_neg c12] at H
          have c12b0 : decide ((bt a0 x5_2) < 48) = false := decide_eq_false c12
          clear c12
          (first | rw [c12b0] | (simp only [i64_w, i32_w]; rw [c12b0]) | skip)
          have H' := sd H
          clear H
          go_wp2
          go_meet
          case rel => exact ⟨_, (decide ((bt a0 x5_2) > 57)), tF, H', ⟨by have := HJ1.out; have := HK2.out; first | omega | exact Nat.le_refl _⟩, by repeat (first | exact Drawn0.refl _ | apply Drawn0.step)⟩
        case rest =>
         clear HC11
         obtain ⟨kq, x33_10, rfl, HA, HJ10, ⟨mc10, rfl⟩⟩ := hcut
         cases kq with
         | zero => exact absurd HA.out (by simp [spec_Index.j2])
         | succ kj10 =>
          have H := HA.out
          clear HA
          simp only [spec_Index.j2] at H
          by_cases c13 : x33_10 = true
          ·subst c13
           rw [if_pos rfl] at H
           simp only [Option.some.injEq, Prod.mk.injEq] at H
           obtain ⟨rfl, rfl⟩ := H
           go_wp2
           go_ret2
           exact ⟨by first | rfl | (simp; done) | (simp [*]; done), by repeat (first | exact Drawn0.refl _ | apply Drawn0.step)⟩
          ·replace c13 := Bool.eq_false_iff.mpr c13
           subst c13
           rw [if_neg (show ¬ (false = true) by decide)] at H
           by_cases c14 : x4_2 < 288230376151711744
           ·rw [if_pos c14] at H
            have c14b0 : decide (x4_2 < 288230376151711744) = true := decide_eq_true c14
            clear c14
            have H' := sd H
            clear H
            go_wp2
            go_roundg kj10
            case measure => have := HJ1.out; have := HK2.out; have := HJ10.out; omega
            case rel => exact ⟨(wrap64 ((wrap64 (x4_2 * 10)) + (((bt a0 x5_2) - 48) % 256))), (wrap64 (x5_2 + 1)), tF, tF, H', ⟨by have := HJ1.out; have := HK2.out; have := HJ10.out; omega⟩, by repeat (first | exact Drawn0.refl _ | apply Drawn0.step)⟩
           ·rw [if_neg c14] at H
            have c14b0 : decide (x4_2 < 288230376151711744) = false := decide_eq_false c14
            clear c14
            have H' := sd H
            clear H
            go_wp2
            go_roundg kj10
            case measure => have := HJ1.out; have := HK2.out; have := HJ10.out; omega
            case rel => exact ⟨(4611686018427387904), (wrap64 (x5_2 + 1)), tF, tF, H', ⟨by have := HJ1.out; have := HK2.out; have := HJ10.out; omega⟩, by repeat (first | exact Drawn0.refl _ | apply Drawn0.step)⟩
       ·rw [if_neg c9] at H
        exact absurd H (by simp)
      ·rw [if_neg c8] at H
       have c8b0 : decide (x5_2 < (a0.size : Int)) = false := decide_eq_false c8
       clear c8
       simp only [Option.some.injEq, Prod.mk.injEq] at H
       obtain ⟨rfl, rfl⟩ := H
       go_wp2
       go_ret2
       exact ⟨by first | rfl | (simp; done) | (simp [*]; done), by repeat (first | exact Drawn0.refl _ | apply Drawn0.step)⟩
/-! ### spec_Bracket: function 18 -/
def spec_Bracket.f (k : Nat) (a0 : ByteArray) : Option (Int × Bool) := if (a0.size : Int) < 3 then (some (0, false)) else (if 0 < (a0.size : Int) then (if (bt a0 0) = 91 then (if 0 ≤ (wrap64 ((a0.size : Int) - 1)) then (if (wrap64 ((a0.size : Int) - 1)) < (a0.size : Int) then (if (bt a0 (wrap64 ((a0.size : Int) - 1))) = 93 then (if 1 ≤ (wrap64 ((a0.size : Int) - 1)) then (if (wrap64 ((a0.size : Int) - 1)) ≤ (a0.size : Int) then ((spec_Index.f k (a0.extract 1 ((wrap64 ((a0.size : Int) - 1)) : Int).toNat)).bind fun a2 => (some (a2.1, a2.2))) else (none)) else (none)) else (some (0, false))) else (none)) else (none)) else (some (0, false))) else (none))
theorem spec_Bracket.mono : ∀ a0 k, LeO (spec_Bracket.f k a0) (spec_Bracket.f (k + 1) a0) := by
 intro a0 k
 unfold spec_Bracket.f
 repeat' first
   | (with_reducible exact spec_Index.mono _ _)
   | (with_reducible exact LeO.refl _)
   | (with_reducible exact LeO.none _)
   | (with_reducible refine LeO.ite ?_ ?_)
   | (with_reducible refine LeO.bind ?_ (fun _ => ?_))
   | exact spec_Index.mono _ _
   | exact LeO.none _
   | refine LeO.ite ?_ ?_
   | refine LeO.bind ?_ (fun _ => ?_)
set_option maxHeartbeats 8000000 in
set_option maxRecDepth 100000 in
theorem spec_Bracket.calls (k : Nat) (a0 : ByteArray) (r1 : Int) (r2 : Bool) (w : World) (h : spec_Bracket.f k a0 = some (r1, r2)) :
  Calls Tryz.prog 18 #[.string a0] w fun e w' => e = .returned (.tuple #[.int .i64 r1, .bool r2]) ∧ Drawn0 w w' := by
 have H : (if (a0.size : Int) < 3 then (some (0, false)) else (if 0 < (a0.size : Int) then (if (bt a0 0) = 91 then (if 0 ≤ (wrap64 ((a0.size : Int) - 1)) then (if (wrap64 ((a0.size : Int) - 1)) < (a0.size : Int) then (if (bt a0 (wrap64 ((a0.size : Int) - 1))) = 93 then (if 1 ≤ (wrap64 ((a0.size : Int) - 1)) then (if (wrap64 ((a0.size : Int) - 1)) ≤ (a0.size : Int) then ((spec_Index.f k (a0.extract 1 ((wrap64 ((a0.size : Int) - 1)) : Int).toNat)).bind fun a2 => (some (a2.1, a2.2))) else (none)) else (none)) else (some (0, false))) else (none)) else (none)) else (some (0, false))) else (none))) = some (r1, r2) := h
 clear h
 by_cases c2 : (a0.size : Int) < 3
 ·rw [if_pos c2] at H
  have c2b0 : decide ((a0.size : Int) < 3) = true := decide_eq_true c2
  have c2b1 : decide (a0.size < 3) = true := decide_eq_true (by omega)
  clear c2
  simp only [Option.some.injEq, Prod.mk.injEq] at H
  obtain ⟨rfl, rfl⟩ := H
  go_enter Tryz.func18, Tryz.ntmps18
  go_wp2
  go_ret2
  exact ⟨by first | rfl | (simp; done) | (simp [*]; done), by repeat (first | exact Drawn0.refl _ | apply Drawn0.step)⟩
 ·rw [if_neg c2] at H
  have c2b0 : decide ((a0.size : Int) < 3) = false := decide_eq_false c2
  have c2b1 : decide (a0.size < 3) = false := decide_eq_false (by omega)
  clear c2
  by_cases c3 : 0 < (a0.size : Int)
  ·rw [if_pos c3] at H
   have c3b0 : decide (0 < (a0.size : Int)) = true := decide_eq_true c3
   have c3b1 : decide (0 < a0.size) = true := decide_eq_true (by omega)
   clear c3
   by_cases c5 : (bt a0 0) = 91
   ·rw [if_pos c5] at H
    have c5b0 : ((bt a0 0) == 91) = true := beq_iff_eq.mpr c5
    have c5b1 : ((bt a0 0) != 91) = false := bne_eq_false_iff_eq.mpr c5
    clear c5
    obtain ⟨ji6, hji6⟩ : ∃ j_ : Int, (wrap64 ((a0.size : Int) - 1)) = j_ := ⟨_, rfl⟩
    replace H : (if 0 ≤ (ji6) then (if (ji6) < (a0.size : Int) then (if (bt a0 (ji6)) = 93 then (if 1 ≤ (ji6) then (if (ji6) ≤ (a0.size : Int) then ((spec_Index.f k (a0.extract 1 ((ji6) : Int).toNat)).bind fun a2 => (some (a2.1, a2.2))) else (none)) else (none)) else (some (0, false))) else (none)) else (none)) = some (r1, r2) := by first | (rw [hji6] at H; exact H) | (simp only [hji6] at H ⊢; exact H)
    have hji6w : (IntKind.i64.wrap ((a0.size : Int) - 1)) = ji6 := (i64_w _).trans hji6
    by_cases c7 : 0 ≤ (ji6)
    ·rw [if_pos c7] at H
     have c7b0 : decide (0 ≤ (ji6)) = true := decide_eq_true c7
     clear c7
     by_cases c8 : (ji6) < (a0.size : Int)
     ·rw [if_pos c8] at H
      have c8b0 : decide ((ji6) < (a0.size : Int)) = true := decide_eq_true c8
      clear c8
      by_cases c10 : (bt a0 (ji6)) = 93
      ·rw [if_pos c10] at H
       have c10b0 : ((bt a0 (ji6)) == 93) = true := beq_iff_eq.mpr c10
       have c10b1 : ((bt a0 (ji6)) != 93) = false := bne_eq_false_iff_eq.mpr c10
       clear c10
       by_cases c11 : 1 ≤ (ji6)
       ·rw [if_pos c11] at H
        have c11b0 := eq_true c11
        have c11b1 : decide (1 ≤ (ji6)) = true := decide_eq_true c11
        clear c11
        by_cases c12 : (ji6) ≤ (a0.size : Int)
        ·rw [if_pos c12] at H
         have c12b0 := eq_true c12
         have c12b1 : decide ((ji6) ≤ (a0.size : Int)) = true := decide_eq_true c12
         clear c12
         replace H := Option.bind_eq_some_iff.mp H
         obtain ⟨⟨e3, e4⟩, d2, H⟩ := H
         try dsimp only at H
         have A13 := sd d2
         clear d2
         simp only [Option.some.injEq, Prod.mk.injEq] at H
         obtain ⟨rfl, rfl⟩ := H
         have p4 : 0 ≤ (0 : Int) := (by omega)
         have q4 : 0 < a0.size := (by have : (0 : Int) < (a0.size : Int) := of_decide_eq_true (by first | (with_reducible assumption) | assumption); omega)
         have hx4 : ∀ h : 0 < a0.size, ((a0[0]'h).toNat : Int) = bt a0 0 := bt_at a0 0
         clear p4
         have qi4 : (0 < (a0.size : Int)) = True := eq_true tX
         replace q4 := eq_true q4
         have p9 : 0 ≤ ((ji6) : Int) := of_decide_eq_true (by first | (with_reducible assumption) | assumption)
         have q9 : (ji6) < (a0.size : Int) := of_decide_eq_true (by first | (with_reducible assumption) | assumption)
         have hx9 := bt_at a0 (ji6)
         replace p9 := eq_true p9
         replace q9 := eq_true q9
         go_enter Tryz.func18, Tryz.ntmps18
         go_wp2_with (first | ((with_reducible refine gate_callee (f := 32) rfl ?_); refine goesL_ (some 25) rfl rfl Tryz.func32 (by kernel_rfl) rfl #[.string (a0.extract 1 ((ji6) : Int).toNat)] rfl (by (try simp only [List.map_toArray, List.map_cons, List.map_nil]); first | done | (simp only [hji6]; rfl) | rfl | (simp only [List.length_drop, List.length_take]; rfl)) ?_; (with_reducible refine (spec_Index.calls k (a0.extract 1 ((ji6) : Int).toNat) e3 e4 _ A13.out).mono ?_); rintro e w' ⟨rfl, ⟨nd, rfl⟩⟩; refine ⟨_, rfl, ?_⟩))
         go_ret2
         exact ⟨by first | rfl | (simp; done) | (simp only [← hji6] <;> (first | rfl | simp)) | (simp [*]; done), by repeat (first | exact Drawn0.refl _ | apply Drawn0.step)⟩
        ·rw [if_neg c12] at H
         exact absurd H (by simp)
       ·rw [if_neg c11] at H
        exact absurd H (by simp)
      ·rw [if_neg c10] at H
       have c10b0 : ((bt a0 (ji6)) == 93) = false := beq_eq_false_iff_ne.mpr c10
       have c10b1 : ((bt a0 (ji6)) != 93) = true := bne_iff_ne.mpr c10
       simp only [Option.some.injEq, Prod.mk.injEq] at H
       obtain ⟨rfl, rfl⟩ := H
       have p4 : 0 ≤ (0 : Int) := (by omega)
       have q4 : 0 < a0.size := (by have : (0 : Int) < (a0.size : Int) := of_decide_eq_true (by first | (with_reducible assumption) | assumption); omega)
       have hx4 : ∀ h : 0 < a0.size, ((a0[0]'h).toNat : Int) = bt a0 0 := bt_at a0 0
       clear p4
       have qi4 : (0 < (a0.size : Int)) = True := eq_true tX
       replace q4 := eq_true q4
       have p9 : 0 ≤ ((ji6) : Int) := of_decide_eq_true (by first | (with_reducible assumption) | assumption)
       have q9 : (ji6) < (a0.size : Int) := of_decide_eq_true (by first | (with_reducible assumption) | assumption)
       have hx9 := bt_at a0 (ji6)
       replace p9 := eq_true p9
       replace q9 := eq_true q9
       go_enter Tryz.func18, Tryz.ntmps18
       go_wp2
       go_ret2
       exact ⟨by first | rfl | (simp; done) | (simp only [← hji6] <;> (first | rfl | simp)) | (simp [*]; done), by repeat (first | exact Drawn0.refl _ | apply Drawn0.step)⟩
     ·rw [if_neg c8] at H
      exact absurd H (by simp)
    ·rw [if_neg c7] at H
     exact absurd H (by simp)
   ·rw [if_neg c5] at H
    have c5b0 : ((bt a0 0) == 91) = false := beq_eq_false_iff_ne.mpr c5
    have c5b1 : ((bt a0 0) != 91) = true := bne_iff_ne.mpr c5
    simp only [Option.some.injEq, Prod.mk.injEq] at H
    obtain ⟨rfl, rfl⟩ := H
    have p4 : 0 ≤ (0 : Int) := (by omega)
    have q4 : 0 < a0.size := (by have : (0 : Int) < (a0.size : Int) := of_decide_eq_true (by first | (with_reducible assumption) | assumption); omega)
    have hx4 : ∀ h : 0 < a0.size, ((a0[0]'h).toNat : Int) = bt a0 0 := bt_at a0 0
    clear p4
    have qi4 : (0 < (a0.size : Int)) = True := eq_true tX
    replace q4 := eq_true q4
    go_enter Tryz.func18, Tryz.ntmps18
    go_wp2
    go_ret2
    exact ⟨by first | rfl | (simp; done) | (simp [*]; done), by repeat (first | exact Drawn0.refl _ | apply Drawn0.step)⟩
  ·rw [if_neg c3] at H
   exact absurd H (by simp)
end Go.Proofs.YthgpfljhmhkaiacGreatDoor.PFnJrTypedMisses
