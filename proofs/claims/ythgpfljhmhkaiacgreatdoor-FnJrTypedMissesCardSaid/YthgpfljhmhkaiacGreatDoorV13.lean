/- Walks of the functions that the law calls, printed by program and rewritten. -/
import Derived.Test.YthgpfljhmhkaiacGreatDoorV0
set_option linter.all false
namespace Go.Proofs.YthgpfljhmhkaiacGreatDoor.PFnJrTypedMisses
open Go.RowKit Go.Proofs.YthgpfljhmhkaiacGreatDoorW.PrintWords Go.Proofs.YthgpfljhmhkaiacGreatDoorW.PrintLast Go.Proofs.YthgpfljhmhkaiacGreatDoorW.PrintMore
attribute [local go_sem] max2_int min2_int max_two min_two max_three min_three max_four min_four
/-! ### jsonparser_h2I: function 106 -/
mutual
def jsonparser_h2I.j0 : Nat → Int → Bool → Option (Int)
 | 0, _, _ => none
 | k + 1, x0, x8 => if x8 = true then (some ((x0 - 48) % 256)) else (if x0 ≥ 65 then (jsonparser_h2I.j1 k x0 (decide (x0 ≤ 70))) else (jsonparser_h2I.j1 k x0 false))
def jsonparser_h2I.j1 : Nat → Int → Bool → Option (Int)
 | 0, _, _ => none
 | k + 1, x0, x17 => if x17 = true then (some (((x0 - 65) % 256) + 10)) else (if x0 ≥ 97 then (if x0 ≤ 102 then (some (((x0 - 97) % 256) + 10)) else (some (-1))) else (some (-1)))
end
def jsonparser_h2I.f (k : Nat) (a0 : Int) : Option (Int) := if a0 ≥ 48 then (jsonparser_h2I.j0 k a0 (decide (a0 ≤ 57))) else (jsonparser_h2I.j0 k a0 false)
set_option maxHeartbeats 8000000 in
set_option maxRecDepth 100000 in
theorem jsonparser_h2I.calls (k : Nat) (a0 : Int) (r : Int) (w : World) (h : jsonparser_h2I.f k a0 = some r) :
  Calls Tryz.prog 106 #[.int .u8 a0] w fun e w' => e = .returned (.int .i64 r) ∧ Drawn0 w w' := by
 have H : (if a0 ≥ 48 then (jsonparser_h2I.j0 k a0 (decide (a0 ≤ 57))) else (jsonparser_h2I.j0 k a0 false)) = some r := h
 clear h
 have HC2 := sd H
 clear H
 go_enter Tryz.func106, Tryz.ntmps106
 go_upto_region 1 with (fail)
 go_cut [8] (fun v8 wc => ∃ (kq : Nat) (x8_1 : Bool), v8 = .bool x8_1 ∧ Aside0 (jsonparser_h2I.j0 kq a0 x8_1 = some r) ∧ Aside0 (kq ≤ k) ∧ Drawn0 w wc)
 case first =>
  have H := HC2.out
  clear HC2
  by_cases c3 : a0 ≥ 48
  ·rw [if_pos c3] at H
   have c3b0 : decide (48 ≤ a0) = true := decide_eq_true c3
   clear c3
   (first | rw [c3b0] | (simp only [i64_w, i32_w]; rw [c3b0]) | skip)
   have H' := sd H
   clear H
   go_wp2
   go_meet
   case rel => exact ⟨_, (decide (a0 ≤ 57)), tF, H', ⟨by first | omega | exact Nat.le_refl _⟩, by repeat (first | exact Drawn0.refl _ | apply Drawn0.step)⟩
  ·rw [if_neg c3] at H
   have c3b0 : decide (48 ≤ a0) = false := decide_eq_false c3
   clear c3
   (first | rw [c3b0] | (simp only [i64_w, i32_w]; rw [c3b0]) | skip)
   have H' := sd H
   clear H
   go_wp2
   go_meet
   case rel => exact ⟨_, (false), tF, H', ⟨by first | omega | exact Nat.le_refl _⟩, by repeat (first | exact Drawn0.refl _ | apply Drawn0.step)⟩
 case rest =>
  clear HC2
  obtain ⟨kq, x8_1, rfl, HA, HJ1, ⟨mc1, rfl⟩⟩ := hcut
  cases kq with
  | zero => exact absurd HA.out (by simp [jsonparser_h2I.j0])
  | succ kj1 =>
   have H := HA.out
   clear HA
   simp only [jsonparser_h2I.j0] at H
   by_cases c4 : x8_1 = true
   ·subst c4
    rw [if_pos rfl] at H
    obtain rfl := Option.some.inj H
    go_wp2
    go_ret
    exact ⟨by first | rfl | (simp; done) | (simp [*]; done), by repeat (first | exact Drawn0.refl _ | apply Drawn0.step)⟩
   ·replace c4 := Bool.eq_false_iff.mpr c4
    subst c4
    rw [if_neg (show ¬ (false = true) by decide)] at H
    have HC5 := sd H
    clear H
    go_upto_region 3 with (fail)
    go_cut [17] (fun v17 wc => ∃ (kq : Nat) (x17_4 : Bool), v17 = .bool x17_4 ∧ Aside0 (jsonparser_h2I.j1 kq a0 x17_4 = some r) ∧ Aside0 (kq ≤ kj1) ∧ Drawn0 w wc)
    case first =>
     have H := HC5.out
     clear HC5
     by_cases c6 : a0 ≥ 65
     ·rw [if_pos c6] at H
      have c6b0 : decide (65 ≤ a0) = true := decide_eq_true c6
      clear c6
      (first | rw [c6b0] | (simp only [i64_w, i32_w]; rw [c6b0]) | skip)
      have H' := sd H
      clear H
      go_wp2
      go_meet
      case rel => exact ⟨_, (decide (a0 ≤ 70)), tF, H', ⟨by have := HJ1.out; first | omega | exact Nat.le_refl _⟩, by repeat (first | exact Drawn0.refl _ | apply Drawn0.step)⟩
     ·rw [if_neg c6] at H
      have c6b0 : decide (65 ≤ a0) = false := decide_eq_false c6
      clear c6
      (first | rw [c6b0] | (simp only [i64_w, i32_w]; rw [c6b0]) | skip)
      have H' := sd H
      clear H
      go_wp2
      go_meet
      case rel => exact ⟨_, (false), tF, H', ⟨by have := HJ1.out; first | omega | exact Nat.le_refl _⟩, by repeat (first | exact Drawn0.refl _ | apply Drawn0.step)⟩
    case rest =>
     clear HC5
     obtain ⟨kq, x17_4, rfl, HA, HJ4, ⟨mc4, rfl⟩⟩ := hcut
     cases kq with
     | zero => exact absurd HA.out (by simp [jsonparser_h2I.j1])
     | succ kj4 =>
      have H := HA.out
      clear HA
      simp only [jsonparser_h2I.j1] at H
      by_cases c7 : x17_4 = true
      ·subst c7
       rw [if_pos rfl] at H
       obtain rfl := Option.some.inj H
       go_wp2
       go_ret
       exact ⟨by first | rfl | (simp; done) | (simp [*]; done), by repeat (first | exact Drawn0.refl _ | apply Drawn0.step)⟩
      ·replace c7 := Bool.eq_false_iff.mpr c7
       subst c7
       rw [if_neg (show ¬ (false = true) by decide)] at H
       by_cases c8 : a0 ≥ 97
       ·rw [if_pos c8] at H
        have c8b0 : decide (97 ≤ a0) = true := decide_eq_true c8
        clear c8
        by_cases c9 : a0 ≤ 102
        ·rw [if_pos c9] at H
         have c9b0 : decide (a0 ≤ 102) = true := decide_eq_true c9
         clear c9
         obtain rfl := Option.some.inj H
         go_wp2
         go_ret
         exact ⟨by first | rfl | (simp; done) | (simp [*]; done), by repeat (first | exact Drawn0.refl _ | apply Drawn0.step)⟩
        ·rw [if_neg c9] at H
         have c9b0 : decide (a0 ≤ 102) = false := decide_eq_false c9
         clear c9
         obtain rfl := Option.some.inj H
         go_wp2
         go_ret
         exact ⟨by first | rfl | (simp; done) | (simp [*]; done), by repeat (first | exact Drawn0.refl _ | apply Drawn0.step)⟩
       ·rw [if_neg c8] at H
        have c8b0 : decide (97 ≤ a0) = false := decide_eq_false c8
        clear c8
        obtain rfl := Option.some.inj H
        go_wp2
        go_ret
        exact ⟨by first | rfl | (simp; done) | (simp [*]; done), by repeat (first | exact Drawn0.refl _ | apply Drawn0.step)⟩
/-! ### jsonparser_decodeSingleUnicodeEscape: function 99 -/
def jsonparser_decodeSingleUnicodeEscape.f (k : Nat) (l0 : List Int) : Option (Int × Bool) := if (l0.length : Int) < 6 then (some (65533, false)) else (if 2 < (l0.length : Int) then ((jsonparser_h2I.f k (rd l0 2)).bind fun a4 => (if 3 < (l0.length : Int) then ((jsonparser_h2I.f k (rd l0 3)).bind fun a5 => (if 4 < (l0.length : Int) then ((jsonparser_h2I.f k (rd l0 4)).bind fun a6 => (if 5 < (l0.length : Int) then ((jsonparser_h2I.f k (rd l0 5)).bind fun a7 => (if a4 = (-1) then (some (65533, false)) else (if a5 = (-1) then (some (65533, false)) else (if a6 = (-1) then (some (65533, false)) else (if a7 = (-1) then (some (65533, false)) else (some (wrap32 (wrap64 ((wrap64 ((wrap64 ((wrap64 (a4 * 4096)) + (wrap64 (a5 * 256)))) + (wrap64 (a6 * 16)))) + a7)), true))))))) else (none))) else (none))) else (none))) else (none))
theorem tl13_0 {P : Prop} (h : P := by
 simp only [Option.some.injEq, Prod.mk.injEq] at H
 obtain ⟨rfl, rfl⟩ := H
 have d6 : 0 ≤ (2 : Int) := (by omega)
 have d7 : 2 < (l0.length : Int) := of_decide_eq_true (by first | (with_reducible assumption) | assumption)
 obtain ⟨ad485, e9001, d4⟩ := Kd.at_int HR0.out 2 d6 d7
 cases e9001
 (try simp only [show (2 : Int).toNat = 2 from rfl, Nat.reduceMul, Nat.reduceEqDiff, Go.Addr.add, ↓reduceIte] at d4)
 have qi485 : (2 < l0.length) = True := eq_true (by omega)
 (try rw [show ((2 : Int)).toNat = 2 from rfl] at d4)
 replace d6 := eq_true d6
 replace d7 := eq_true d7
 go_enter Tryz.func99, Tryz.ntmps99
 go_wp2_with (first | (go_at_call 106; (with_reducible refine (jsonparser_h2I.calls k (rd l0 2) a4 _ A4.out).mono ?_); rintro e w' ⟨rfl, ⟨nd, rfl⟩⟩; (try first | exact ⟨rfl, _, World.drewN_drewN _ _ _⟩ | exact ⟨rfl, _, Eq.trans (World.drewN_drewN _ _ _) (congrArg (World.drewN _) (Nat.add_assoc _ _ _))⟩); have b5 : 0 ≤ (3 : Int) := (by omega); have b6 : 3 < (l0.length : Int) := of_decide_eq_true (by first | (with_reducible assumption) | assumption); obtain ⟨ad487, e9002, a9⟩ := Kd.at_int HR0.out 3 b5 b6; obtain rfl : ad485 = ad487 := (by injection e9002); (try simp only [show (3 : Int).toNat = 3 from rfl, Nat.reduceMul, Nat.reduceEqDiff, Go.Addr.add, ↓reduceIte] at a9); have qi487 : (3 < l0.length) = True := eq_true (by omega); (try rw [show ((3 : Int)).toNat = 3 from rfl] at a9); replace b5 := eq_true b5; replace b6 := eq_true b6) | (go_at_call 106; (with_reducible refine (jsonparser_h2I.calls k (rd l0 3) a5 _ A6.out).mono ?_); rintro e w' ⟨rfl, ⟨nd, rfl⟩⟩; (try first | exact ⟨rfl, _, World.drewN_drewN _ _ _⟩ | exact ⟨rfl, _, Eq.trans (World.drewN_drewN _ _ _) (congrArg (World.drewN _) (Nat.add_assoc _ _ _))⟩); have b7 : 0 ≤ (4 : Int) := (by omega); have b8 : 4 < (l0.length : Int) := of_decide_eq_true (by first | (with_reducible assumption) | assumption); obtain ⟨ad489, e9003, b0⟩ := Kd.at_int HR0.out 4 b7 b8; obtain rfl : ad485 = ad489 := (by injection e9003); (try simp only [show (4 : Int).toNat = 4 from rfl, Nat.reduceMul, Nat.reduceEqDiff, Go.Addr.add, ↓reduceIte] at b0); have qi489 : (4 < l0.length) = True := eq_true (by omega); (try rw [show ((4 : Int)).toNat = 4 from rfl] at b0); replace b7 := eq_true b7; replace b8 := eq_true b8) | (go_at_call 106; (with_reducible refine (jsonparser_h2I.calls k (rd l0 4) a6 _ A8.out).mono ?_); rintro e w' ⟨rfl, ⟨nd, rfl⟩⟩; (try first | exact ⟨rfl, _, World.drewN_drewN _ _ _⟩ | exact ⟨rfl, _, Eq.trans (World.drewN_drewN _ _ _) (congrArg (World.drewN _) (Nat.add_assoc _ _ _))⟩); have b9 : 0 ≤ (5 : Int) := (by omega); have c1 : 5 < (l0.length : Int) := of_decide_eq_true (by first | (with_reducible assumption) | assumption); obtain ⟨ad491, e9004, b1⟩ := Kd.at_int HR0.out 5 b9 c1; obtain rfl : ad485 = ad491 := (by injection e9004); (try simp only [show (5 : Int).toNat = 5 from rfl, Nat.reduceMul, Nat.reduceEqDiff, Go.Addr.add, ↓reduceIte] at b1); have qi491 : (5 < l0.length) = True := eq_true (by omega); (try rw [show ((5 : Int)).toNat = 5 from rfl] at b1); replace b9 := eq_true b9; replace c1 := eq_true c1) | (go_at_call 106; (with_reducible refine (jsonparser_h2I.calls k (rd l0 5) a7 _ A10.out).mono ?_); rintro e w' ⟨rfl, ⟨nd, rfl⟩⟩; (try first | exact ⟨rfl, _, World.drewN_drewN _ _ _⟩ | exact ⟨rfl, _, Eq.trans (World.drewN_drewN _ _ _) (congrArg (World.drewN _) (Nat.add_assoc _ _ _))⟩)))
 repeat (go_quiet (first | (go_at_call 106; (with_reducible refine (jsonparser_h2I.calls k (rd l0 2) a4 _ A4.out).mono ?_); rintro e w' ⟨rfl, ⟨nd, rfl⟩⟩; (try first | exact ⟨rfl, _, World.drewN_drewN _ _ _⟩ | exact ⟨rfl, _, Eq.trans (World.drewN_drewN _ _ _) (congrArg (World.drewN _) (Nat.add_assoc _ _ _))⟩); have b5 : 0 ≤ (3 : Int) := (by omega); have b6 : 3 < (l0.length : Int) := of_decide_eq_true (by first | (with_reducible assumption) | assumption); obtain ⟨ad487, e9002, a9⟩ := Kd.at_int HR0.out 3 b5 b6; obtain rfl : ad485 = ad487 := (by injection e9002); (try simp only [show (3 : Int).toNat = 3 from rfl, Nat.reduceMul, Nat.reduceEqDiff, Go.Addr.add, ↓reduceIte] at a9); have qi487 : (3 < l0.length) = True := eq_true (by omega); (try rw [show ((3 : Int)).toNat = 3 from rfl] at a9); replace b5 := eq_true b5; replace b6 := eq_true b6) | (go_at_call 106; (with_reducible refine (jsonparser_h2I.calls k (rd l0 3) a5 _ A6.out).mono ?_); rintro e w' ⟨rfl, ⟨nd, rfl⟩⟩; (try first | exact ⟨rfl, _, World.drewN_drewN _ _ _⟩ | exact ⟨rfl, _, Eq.trans (World.drewN_drewN _ _ _) (congrArg (World.drewN _) (Nat.add_assoc _ _ _))⟩); have b7 : 0 ≤ (4 : Int) := (by omega); have b8 : 4 < (l0.length : Int) := of_decide_eq_true (by first | (with_reducible assumption) | assumption); obtain ⟨ad489, e9003, b0⟩ := Kd.at_int HR0.out 4 b7 b8; obtain rfl : ad485 = ad489 := (by injection e9003); (try simp only [show (4 : Int).toNat = 4 from rfl, Nat.reduceMul, Nat.reduceEqDiff, Go.Addr.add, ↓reduceIte] at b0); have qi489 : (4 < l0.length) = True := eq_true (by omega); (try rw [show ((4 : Int)).toNat = 4 from rfl] at b0); replace b7 := eq_true b7; replace b8 := eq_true b8) | (go_at_call 106; (with_reducible refine (jsonparser_h2I.calls k (rd l0 4) a6 _ A8.out).mono ?_); rintro e w' ⟨rfl, ⟨nd, rfl⟩⟩; (try first | exact ⟨rfl, _, World.drewN_drewN _ _ _⟩ | exact ⟨rfl, _, Eq.trans (World.drewN_drewN _ _ _) (congrArg (World.drewN _) (Nat.add_assoc _ _ _))⟩); have b9 : 0 ≤ (5 : Int) := (by omega); have c1 : 5 < (l0.length : Int) := of_decide_eq_true (by first | (with_reducible assumption) | assumption); obtain ⟨ad491, e9004, b1⟩ := Kd.at_int HR0.out 5 b9 c1; obtain rfl : ad485 = ad491 := (by injection e9004); (try simp only [show (5 : Int).toNat = 5 from rfl, Nat.reduceMul, Nat.reduceEqDiff, Go.Addr.add, ↓reduceIte] at b1); have qi491 : (5 < l0.length) = True := eq_true (by omega); (try rw [show ((5 : Int)).toNat = 5 from rfl] at b1); replace b9 := eq_true b9; replace c1 := eq_true c1) | (go_at_call 106; (with_reducible refine (jsonparser_h2I.calls k (rd l0 5) a7 _ A10.out).mono ?_); rintro e w' ⟨rfl, ⟨nd, rfl⟩⟩; (try first | exact ⟨rfl, _, World.drewN_drewN _ _ _⟩ | exact ⟨rfl, _, Eq.trans (World.drewN_drewN _ _ _) (congrArg (World.drewN _) (Nat.add_assoc _ _ _))⟩))); try go_wp2)
 go_ret2
 exact ⟨by first | rfl | (simp; done) | (simp [*]; done), by repeat (first | exact Drawn0.refl _ | apply Drawn0.step)⟩) : P := h
set_option maxHeartbeats 8000000 in
set_option maxRecDepth 100000 in
theorem jsonparser_decodeSingleUnicodeEscape.calls (k : Nat) (A0 : Option Addr) (c0 : Nat) (l0 : List Int) (r1 : Int) (r2 : Bool) (w : World) (hr0 : Kd.C (Kd.int .u8) w A0 l0.length l0) (hc0 : l0.length ≤ c0) (h : jsonparser_decodeSingleUnicodeEscape.f k l0 = some (r1, r2)) :
  Calls Tryz.prog 99 #[.slice A0 l0.length c0] w fun e w' => e = .returned (.tuple #[.int .i32 r1, .bool r2]) ∧ Drawn0 w w' := by
 have HR0 := sd hr0
 have HC0 := sd hc0
 clear hr0 hc0
 have H : (if (l0.length : Int) < 6 then (some (65533, false)) else (if 2 < (l0.length : Int) then ((jsonparser_h2I.f k (rd l0 2)).bind fun a4 => (if 3 < (l0.length : Int) then ((jsonparser_h2I.f k (rd l0 3)).bind fun a5 => (if 4 < (l0.length : Int) then ((jsonparser_h2I.f k (rd l0 4)).bind fun a6 => (if 5 < (l0.length : Int) then ((jsonparser_h2I.f k (rd l0 5)).bind fun a7 => (if a4 = (-1) then (some (65533, false)) else (if a5 = (-1) then (some (65533, false)) else (if a6 = (-1) then (some (65533, false)) else (if a7 = (-1) then (some (65533, false)) else (some (wrap32 (wrap64 ((wrap64 ((wrap64 ((wrap64 (a4 * 4096)) + (wrap64 (a5 * 256)))) + (wrap64 (a6 * 16)))) + a7)), true))))))) else (none))) else (none))) else (none))) else (none))) = some (r1, r2) := h
 clear h
 by_cases c2 : (l0.length : Int) < 6
 ·rw [if_pos c2] at H
  have c2b0 : decide ((l0.length : Int) < 6) = true := decide_eq_true c2
  have c2b1 : decide (l0.length < 6) = true := decide_eq_true (by omega)
  clear c2
  simp only [Option.some.injEq, Prod.mk.injEq] at H
  obtain ⟨rfl, rfl⟩ := H
  go_enter Tryz.func99, Tryz.ntmps99
  go_wp2
  repeat (go_quiet (fail); try go_wp2)
  go_ret2
  exact ⟨by first | rfl | (simp; done) | (simp [*]; done), by repeat (first | exact Drawn0.refl _ | apply Drawn0.step)⟩
 ·rw [if_neg c2] at H
  have c2b0 : decide ((l0.length : Int) < 6) = false := decide_eq_false c2
  have c2b1 : decide (l0.length < 6) = false := decide_eq_false (by omega)
  clear c2
  by_cases c3 : 2 < (l0.length : Int)
  ·rw [if_pos c3] at H
   have c3b0 : decide (2 < (l0.length : Int)) = true := decide_eq_true c3
   have c3b1 : decide (2 < l0.length) = true := decide_eq_true (by omega)
   clear c3
   replace H := Option.bind_eq_some_iff.mp H
   obtain ⟨a4, A40, H⟩ := H
   try dsimp only at H
   have A4 := sd A40
   clear A40
   by_cases c5 : 3 < (l0.length : Int)
   ·rw [if_pos c5] at H
    have c5b0 : decide (3 < (l0.length : Int)) = true := decide_eq_true c5
    have c5b1 : decide (3 < l0.length) = true := decide_eq_true (by omega)
    clear c5
    replace H := Option.bind_eq_some_iff.mp H
    obtain ⟨a5, A60, H⟩ := H
    try dsimp only at H
    have A6 := sd A60
    clear A60
    by_cases c7 : 4 < (l0.length : Int)
    ·rw [if_pos c7] at H
     have c7b0 : decide (4 < (l0.length : Int)) = true := decide_eq_true c7
     have c7b1 : decide (4 < l0.length) = true := decide_eq_true (by omega)
     clear c7
     replace H := Option.bind_eq_some_iff.mp H
     obtain ⟨a6, A80, H⟩ := H
     try dsimp only at H
     have A8 := sd A80
     clear A80
     by_cases c9 : 5 < (l0.length : Int)
     ·rw [if_pos c9] at H
      have c9b0 : decide (5 < (l0.length : Int)) = true := decide_eq_true c9
      have c9b1 : decide (5 < l0.length) = true := decide_eq_true (by omega)
      clear c9
      replace H := Option.bind_eq_some_iff.mp H
      obtain ⟨a7, e1, H⟩ := H
      try dsimp only at H
      have A10 := sd e1
      clear e1
      by_cases c11 : a4 = (-1)
      ·rw [if_pos c11] at H
       have c11b0 : (a4 == (-1)) = true := beq_iff_eq.mpr c11
       have c11b1 : (a4 != (-1)) = false := bne_eq_false_iff_eq.mpr c11
       clear c11
       exact tl13_0
      ·rw [if_neg c11] at H
       have c11b0 : (a4 == (-1)) = false := beq_eq_false_iff_ne.mpr c11
       have c11b1 : (a4 != (-1)) = true := bne_iff_ne.mpr c11
       by_cases c12 : a5 = (-1)
       ·rw [if_pos c12] at H
        have c12b0 : (a5 == (-1)) = true := beq_iff_eq.mpr c12
        have c12b1 : (a5 != (-1)) = false := bne_eq_false_iff_eq.mpr c12
        clear c12
        exact tl13_0
       ·rw [if_neg c12] at H
        have c12b0 : (a5 == (-1)) = false := beq_eq_false_iff_ne.mpr c12
        have c12b1 : (a5 != (-1)) = true := bne_iff_ne.mpr c12
        by_cases c13 : a6 = (-1)
        ·rw [if_pos c13] at H
         have c13b0 : (a6 == (-1)) = true := beq_iff_eq.mpr c13
         have c13b1 : (a6 != (-1)) = false := bne_eq_false_iff_eq.mpr c13
         clear c13
         exact tl13_0
        ·rw [if_neg c13] at H
         have c13b0 : (a6 == (-1)) = false := beq_eq_false_iff_ne.mpr c13
         have c13b1 : (a6 != (-1)) = true := bne_iff_ne.mpr c13
         by_cases c14 : a7 = (-1)
         ·rw [if_pos c14] at H
          have c14b0 : (a7 == (-1)) = true := beq_iff_eq.mpr c14
          have c14b1 : (a7 != (-1)) = false := bne_eq_false_iff_eq.mpr c14
          clear c14
          exact tl13_0
         ·rw [if_neg c14] at H
          have c14b0 : (a7 == (-1)) = false := beq_eq_false_iff_ne.mpr c14
          have c14b1 : (a7 != (-1)) = true := bne_iff_ne.mpr c14
          exact tl13_0
     ·rw [if_neg c9] at H
      exact absurd H (by simp)
    ·rw [if_neg c7] at H
     exact absurd H (by simp)
   ·rw [if_neg c5] at H
    exact absurd H (by simp)
  ·rw [if_neg c3] at H
   exact absurd H (by simp)
/-! ### jsonparser_isUTF16EncodedRune: function 100 -/
def jsonparser_isUTF16EncodedRune.f (a0 : Int) : Option (Bool) := if 55296 ≤ a0 then (some (decide (a0 ≤ 57343))) else (some false)
set_option maxHeartbeats 8000000 in
set_option maxRecDepth 100000 in
theorem jsonparser_isUTF16EncodedRune.calls (a0 : Int) (r : Bool) (w : World) (h : jsonparser_isUTF16EncodedRune.f a0 = some r) :
  Calls Tryz.prog 100 #[.int .i32 a0] w fun e w' => e = .returned (.bool r) ∧ Drawn0 w w' := by
 have H : (if 55296 ≤ a0 then (some (decide (a0 ≤ 57343))) else (some false)) = some r := h
 clear h
 by_cases c2 : 55296 ≤ a0
 ·rw [if_pos c2] at H
  have c2b0 : decide (55296 ≤ a0) = true := decide_eq_true c2
  clear c2
  obtain rfl := Option.some.inj H
  go_enter Tryz.func100, Tryz.ntmps100
  go_wp2
  go_ret
  exact ⟨by first | rfl | (simp; done) | (simp [*]; done), by repeat (first | exact Drawn0.refl _ | apply Drawn0.step)⟩
 ·rw [if_neg c2] at H
  have c2b0 : decide (55296 ≤ a0) = false := decide_eq_false c2
  clear c2
  obtain rfl := Option.some.inj H
  go_enter Tryz.func100, Tryz.ntmps100
  go_wp2
  go_ret
  exact ⟨by first | rfl | (simp; done) | (simp [*]; done), by repeat (first | exact Drawn0.refl _ | apply Drawn0.step)⟩
/-! ### jsonparser_combineUTF16Surrogates: function 101 -/
def jsonparser_combineUTF16Surrogates.f (a0 : Int) (a1 : Int) : Option (Int) := some (wrap32 ((wrap32 (65536 + (wrap32 ((wrap32 (a0 - 55296)) * 1024)))) + (wrap32 (a1 - 56320))))
set_option maxHeartbeats 8000000 in
set_option maxRecDepth 100000 in
theorem jsonparser_combineUTF16Surrogates.calls (a0 : Int) (a1 : Int) (r : Int) (w : World) (h : jsonparser_combineUTF16Surrogates.f a0 a1 = some r) :
  Calls Tryz.prog 101 #[.int .i32 a0, .int .i32 a1] w fun e w' => e = .returned (.int .i32 r) ∧ Drawn0 w w' := by
 have H : (some (wrap32 ((wrap32 (65536 + (wrap32 ((wrap32 (a0 - 55296)) * 1024)))) + (wrap32 (a1 - 56320))))) = some r := h
 clear h
 obtain rfl := Option.some.inj H
 go_enter Tryz.func101, Tryz.ntmps101
 go_wp2
 go_ret
 exact ⟨by first | rfl | (simp; done) | (simp [*]; done), by repeat (first | exact Drawn0.refl _ | apply Drawn0.step)⟩
/-! ### jsonparser_decodeUnicodeEscape: function 94 -/
def jsonparser_decodeUnicodeEscape.j0 : Nat → List Int → Int → Bool → Option (Int × Int)
 | 0, _, _, _ => none
 | k + 1, x0, x4, x35 => if x35 = true then (some (65533, 6)) else (if 6 ≤ (x0.length : Int) then ((jsonparser_decodeSingleUnicodeEscape.f k (x0.drop 6)).bind fun d2 => (if d2.2 = true then (if d2.1 < 56320 then (some (65533, 6)) else (if d2.1 > 57343 then (some (65533, 6)) else ((jsonparser_combineUTF16Surrogates.f x4 d2.1).bind fun d8 => (some (d8, 12))))) else (some (65533, (-1))))) else (none))
def jsonparser_decodeUnicodeEscape.f (k : Nat) (l0 : List Int) : Option (Int × Int) := (jsonparser_decodeSingleUnicodeEscape.f k l0).bind fun a2 => (if a2.2 = true then ((jsonparser_isUTF16EncodedRune.f a2.1).bind fun d3 => (if d3 = true then (if a2.1 ≥ 56320 then (some (65533, 6)) else (if (l0.length : Int) < 8 then (jsonparser_decodeUnicodeEscape.j0 k l0 a2.1 true) else (if 6 < (l0.length : Int) then (if (rd l0 6) = 92 then (if 7 < (l0.length : Int) then (jsonparser_decodeUnicodeEscape.j0 k l0 a2.1 ((rd l0 7) != 117)) else (none)) else (jsonparser_decodeUnicodeEscape.j0 k l0 a2.1 true)) else (none)))) else (some (a2.1, 6)))) else (some (65533, (-1))))
set_option maxHeartbeats 8000000 in
set_option maxRecDepth 100000 in
theorem jsonparser_decodeUnicodeEscape.calls (k : Nat) (A0 : Option Addr) (c0 : Nat) (l0 : List Int) (r1 : Int) (r2 : Int) (w : World) (hr0 : Kd.C (Kd.int .u8) w A0 l0.length l0) (hc0 : l0.length ≤ c0) (h : jsonparser_decodeUnicodeEscape.f k l0 = some (r1, r2)) :
  Calls Tryz.prog 94 #[.slice A0 l0.length c0] w fun e w' => e = .returned (.tuple #[.int .i32 r1, .int .i64 r2]) ∧ Drawn0 w w' := by
 have HR0 := sd hr0
 have HC0 := sd hc0
 clear hr0 hc0
 have H : ((jsonparser_decodeSingleUnicodeEscape.f k l0).bind fun a2 => (if a2.2 = true then ((jsonparser_isUTF16EncodedRune.f a2.1).bind fun d3 => (if d3 = true then (if a2.1 ≥ 56320 then (some (65533, 6)) else (if (l0.length : Int) < 8 then (jsonparser_decodeUnicodeEscape.j0 k l0 a2.1 true) else (if 6 < (l0.length : Int) then (if (rd l0 6) = 92 then (if 7 < (l0.length : Int) then (jsonparser_decodeUnicodeEscape.j0 k l0 a2.1 ((rd l0 7) != 117)) else (none)) else (jsonparser_decodeUnicodeEscape.j0 k l0 a2.1 true)) else (none)))) else (some (a2.1, 6)))) else (some (65533, (-1))))) = some (r1, r2) := h
 clear h
 replace H := Option.bind_eq_some_iff.mp H
 obtain ⟨⟨a3, e4⟩, A20, H⟩ := H
 try dsimp only at H
 have A2 := sd A20
 clear A20
 by_cases c3 : e4 = true
 ·subst c3
  rw [if_pos rfl] at H
  replace H := Option.bind_eq_some_iff.mp H
  obtain ⟨d3, A40, H⟩ := H
  try dsimp only at H
  have A4 := sd A40
  clear A40
  by_cases c5 : d3 = true
  ·subst c5
   rw [if_pos rfl] at H
   by_cases c6 : a3 ≥ 56320
   ·rw [if_pos c6] at H
    have c6b0 : decide (56320 ≤ a3) = true := decide_eq_true c6
    clear c6
    simp only [Option.some.injEq, Prod.mk.injEq] at H
    obtain ⟨rfl, rfl⟩ := H
    go_enter Tryz.func94, Tryz.ntmps94
    go_wp2_with (first | ((with_reducible refine gate_callee (f := 99) rfl ?_); refine goesL_ (some 10) rfl rfl Tryz.func99 (by kernel_rfl) rfl #[.slice A0 l0.length c0] rfl tM ?_; (with_reducible refine (jsonparser_decodeSingleUnicodeEscape.calls k _ _ l0 a3 true _ ?side1 ?side2 A2.out).mono ?_); (case side1 => repeat (first | exact HR0.out | (with_reducible refine Kd.C_alloc ?_ _) | (with_reducible refine Kd.C_drewN ?_ _) | (with_reducible refine Kd.C_drew ?_))); (case side2 => exact HC0.out); rintro e w' ⟨rfl, ⟨nd, rfl⟩⟩; refine ⟨_, rfl, ?_⟩) | ((with_reducible refine gate_callee (f := 100) rfl ?_); refine goesL_ (some 16) rfl rfl Tryz.func100 (by kernel_rfl) rfl #[.int .i32 a3] rfl tM ?_; (with_reducible refine (jsonparser_isUTF16EncodedRune.calls a3 true _ A4.out).mono ?_); rintro e w' ⟨rfl, ⟨nd, rfl⟩⟩; refine ⟨_, rfl, ?_⟩))
    go_ret2
    exact ⟨by first | rfl | (simp; done) | (simp [*]; done), by repeat (first | exact Drawn0.refl _ | apply Drawn0.step)⟩
   ·rw [if_neg c6] at H
    have c6b0 : decide (56320 ≤ a3) = false := decide_eq_false c6
    clear c6
    have HC7 := sd H
    clear H
    go_enter Tryz.func94, Tryz.ntmps94
    go_upto_region 8 with (first | ((with_reducible refine gate_callee (f := 99) rfl ?_); refine goesL_ (some 10) rfl rfl Tryz.func99 (by kernel_rfl) rfl #[.slice A0 l0.length c0] rfl tM ?_; (with_reducible refine (jsonparser_decodeSingleUnicodeEscape.calls k _ _ l0 a3 true _ ?side1 ?side2 A2.out).mono ?_); (case side1 => repeat (first | exact HR0.out | (with_reducible refine Kd.C_alloc ?_ _) | (with_reducible refine Kd.C_drewN ?_ _) | (with_reducible refine Kd.C_drew ?_))); (case side2 => exact HC0.out); rintro e w' ⟨rfl, ⟨nd, rfl⟩⟩; refine ⟨_, rfl, ?_⟩) | ((with_reducible refine gate_callee (f := 100) rfl ?_); refine goesL_ (some 16) rfl rfl Tryz.func100 (by kernel_rfl) rfl #[.int .i32 a3] rfl tM ?_; (with_reducible refine (jsonparser_isUTF16EncodedRune.calls a3 true _ A4.out).mono ?_); rintro e w' ⟨rfl, ⟨nd, rfl⟩⟩; refine ⟨_, rfl, ?_⟩))
    (try simp only [Act.put, List.setIfInBounds_toArray, List.set_cons_zero, List.set_cons_succ])
    go_cut [35] (fun v35 wc => ∃ (kq : Nat) (x35_6 : Bool), v35 = .bool x35_6 ∧ Aside0 (jsonparser_decodeUnicodeEscape.j0 kq l0 a3 x35_6 = some (r1, r2)) ∧ Aside0 (kq ≤ k) ∧ Drawn0 w wc)
    case first =>
     have H := HC7.out
     clear HC7
     by_cases c8 : (l0.length : Int) < 8
     ·rw [if_pos c8] at H
      have c8b0 : decide ((l0.length : Int) < 8) = true := decide_eq_true c8
      have c8b1 : decide (l0.length < 8) = true := decide_eq_true (by omega)
      clear c8
      (first | rw [c8b0] | (simp only [i64_w, i32_w]; rw [c8b0]) | skip)
      have H' := sd H
      clear H
      go_wp2
      go_meet
      case rel => exact ⟨_, (true), tF, H', ⟨by first | omega | exact Nat.le_refl _⟩, by repeat (first | exact Drawn0.refl _ | apply Drawn0.step)⟩
     ·rw [if_neg c8] at H
      have c8b0 : decide ((l0.length : Int) < 8) = false := decide_eq_false c8
      have c8b1 : decide (l0.length < 8) = false := decide_eq_false (by omega)
      clear c8
      (first | rw [c8b0] | (simp only [i64_w, i32_w]; rw [c8b0]) | skip)
      by_cases c9 : 6 < (l0.length : Int)
      ·rw [if_pos c9] at H
       have c9b0 : decide (6 < (l0.length : Int)) = true := decide_eq_true c9
       have c9b1 : decide (6 < l0.length) = true := decide_eq_true (by omega)
       clear c9
       by_cases c10 : (rd l0 6) = 92
       ·rw [if_pos c10] at H
        have c10b0 : ((rd l0 6) == 92) = true := beq_iff_eq.mpr c10
        have c10b1 : ((rd l0 6) != 92) = false := bne_eq_false_iff_eq.mpr c10
        clear c10
        by_cases c11 : 7 < (l0.length : Int)
        ·rw [if_pos c11] at H
         have c11b0 : decide (7 < (l0.length : Int)) = true := decide_eq_true c11
         have c11b1 : decide (7 < l0.length) = true := decide_eq_true (by omega)
         clear c11
         have H' := sd H
         clear H
         have d0 : 0 ≤ (6 : Int) := (by omega)
         have d1 : 6 < (l0.length : Int) := of_decide_eq_true (by first | (with_reducible assumption) | assumption)
         obtain ⟨ad496, e496, b2⟩ := Kd.at_int HR0.out 6 d0 d1
         cases e496
         (try simp only [show (6 : Int).toNat = 6 from rfl, Nat.reduceMul, Nat.reduceEqDiff, Go.Addr.add, ↓reduceIte] at b2)
         have qi496 : (6 < l0.length) = True := eq_true (by omega)
         (try rw [show ((6 : Int)).toNat = 6 from rfl] at b2)
         replace d0 := eq_true d0
         replace d1 := eq_true d1
         have d9 : 0 ≤ (7 : Int) := (by omega)
         have e0 : 7 < (l0.length : Int) := of_decide_eq_true (by first | (with_reducible assumption) | assumption)
         obtain ⟨ad497, e497, d5⟩ := Kd.at_int HR0.out 7 d9 e0
         obtain rfl : ad496 = ad497 := (by injection e497)
         (try simp only [show (7 : Int).toNat = 7 from rfl, Nat.reduceMul, Nat.reduceEqDiff, Go.Addr.add, ↓reduceIte] at d5)
         have qi497 : (7 < l0.length) = True := eq_true (by omega)
         (try rw [show ((7 : Int)).toNat = 7 from rfl] at d5)
         replace d9 := eq_true d9
         replace e0 := eq_true e0
         go_wp2
         go_meet
         case rel => exact ⟨_, (((rd l0 7) != 117)), tF, H', ⟨by first | omega | exact Nat.le_refl _⟩, by repeat (first | exact Drawn0.refl _ | apply Drawn0.step)⟩
        ·rw [if_neg c11] at H
         exact absurd H (by simp)
       ·rw [if_neg c10] at H
        have c10b0 : ((rd l0 6) == 92) = false := beq_eq_false_iff_ne.mpr c10
        have c10b1 : ((rd l0 6) != 92) = true := bne_iff_ne.mpr c10
        have H' := sd H
        clear H
        have d0 : 0 ≤ (6 : Int) := (by omega)
        have d1 : 6 < (l0.length : Int) := of_decide_eq_true (by first | (with_reducible assumption) | assumption)
        obtain ⟨ad496, e496, b2⟩ := Kd.at_int HR0.out 6 d0 d1
        cases e496
        (try simp only [show (6 : Int).toNat = 6 from rfl, Nat.reduceMul, Nat.reduceEqDiff, Go.Addr.add, ↓reduceIte] at b2)
        have qi496 : (6 < l0.length) = True := eq_true (by omega)
        (try rw [show ((6 : Int)).toNat = 6 from rfl] at b2)
        replace d0 := eq_true d0
        replace d1 := eq_true d1
        go_wp2
        go_meet
        case rel => exact ⟨_, (true), tF, H', ⟨by first | omega | exact Nat.le_refl _⟩, by repeat (first | exact Drawn0.refl _ | apply Drawn0.step)⟩
      ·rw [if_neg c9] at H
       exact absurd H (by simp)
    case rest =>
     clear HC7
     obtain ⟨kq, x35_6, rfl, HA, HJ6, ⟨mc6, rfl⟩⟩ := hcut
     cases kq with
     | zero => exact absurd HA.out (by simp [jsonparser_decodeUnicodeEscape.j0])
     | succ kj6 =>
      have H := HA.out
      clear HA
      simp only [jsonparser_decodeUnicodeEscape.j0] at H
      by_cases c12 : x35_6 = true
      ·subst c12
       rw [if_pos rfl] at H
       simp only [Option.some.injEq, Prod.mk.injEq] at H
       obtain ⟨rfl, rfl⟩ := H
       go_wp2
       go_ret2
       exact ⟨by first | rfl | (simp; done) | (simp [*]; done), by repeat (first | exact Drawn0.refl _ | apply Drawn0.step)⟩
      ·replace c12 := Bool.eq_false_iff.mpr c12
       subst c12
       rw [if_neg (show ¬ (false = true) by decide)] at H
       by_cases c13 : 6 ≤ (l0.length : Int)
       ·rw [if_pos c13] at H
        have c13b0 := eq_true c13
        have c13b1 : decide (6 ≤ (l0.length : Int)) = true := decide_eq_true c13
        clear c13
        replace H := Option.bind_eq_some_iff.mp H
        obtain ⟨⟨a8, e5⟩, e2, H⟩ := H
        try dsimp only at H
        have A14 := sd e2
        clear e2
        by_cases c15 : e5 = true
        ·subst c15
         rw [if_pos rfl] at H
         by_cases c16 : a8 < 56320
         ·rw [if_pos c16] at H
          have c16b0 : decide (a8 < 56320) = true := decide_eq_true c16
          clear c16
          simp only [Option.some.injEq, Prod.mk.injEq] at H
          obtain ⟨rfl, rfl⟩ := H
          obtain ⟨i017, hi017, _, hsz17, _⟩ := info_parts info5
          obtain ⟨A17, hcut17, hA17, hC17⟩ := print_drop_of (P := Tryz.prog) (Value.int .u8) 0 44 5 .i64 Tryz.underlying44 hi017 hsz17 A0 c0 l0 6 (by omega) tX HC0.out
          have b3 := sd (Kd.C_of_reads (h1 := fun _ => rfl) (hA17 _ (Kd.reads_of_C HR0.out)))
          have b4 := sd hC17
          clear hA17 hC17 hi017 hsz17
          go_wp2_with (first | ((with_reducible refine gate_callee (f := 99) rfl ?_); refine goesL_ (some 39) rfl rfl Tryz.func99 (by kernel_rfl) rfl #[.slice A17 (l0.drop 6).length (c0 - 6)] rfl (by (try simp only [List.map_toArray, List.map_cons, List.map_nil]); first | done | (rw [show (l0.drop 6).length = (l0.length - 6) from List.length_drop] <;> rfl) | rfl | (simp only [List.length_drop, List.length_take]; rfl)) ?_; (with_reducible refine (jsonparser_decodeSingleUnicodeEscape.calls kj6 _ _ (l0.drop 6) a8 true _ ?side1 ?side2 A14.out).mono ?_); (case side1 => repeat (first | exact b3.out | (with_reducible refine Kd.C_alloc ?_ _) | (with_reducible refine Kd.C_drewN ?_ _) | (with_reducible refine Kd.C_drew ?_))); (case side2 => exact b4.out); rintro e w' ⟨rfl, ⟨nd, rfl⟩⟩; refine ⟨_, rfl, ?_⟩))
          go_ret2
          exact ⟨by first | rfl | (simp; done) | (simp [*]; done), by repeat (first | exact Drawn0.refl _ | apply Drawn0.step)⟩
         ·rw [if_neg c16] at H
          have c16b0 : decide (a8 < 56320) = false := decide_eq_false c16
          clear c16
          by_cases c18 : a8 > 57343
          ·rw [if_pos c18] at H
           have c18b0 : decide (57343 < a8) = true := decide_eq_true c18
           clear c18
           simp only [Option.some.injEq, Prod.mk.injEq] at H
           obtain ⟨rfl, rfl⟩ := H
           obtain ⟨i019, hi019, _, hsz19, _⟩ := info_parts info5
           obtain ⟨A19, hcut19, hA19, hC19⟩ := print_drop_of (P := Tryz.prog) (Value.int .u8) 0 44 5 .i64 Tryz.underlying44 hi019 hsz19 A0 c0 l0 6 (by omega) tX HC0.out
           have b3 := sd (Kd.C_of_reads (h1 := fun _ => rfl) (hA19 _ (Kd.reads_of_C HR0.out)))
           have b4 := sd hC19
           clear hA19 hC19 hi019 hsz19
           go_wp2_with (first | ((with_reducible refine gate_callee (f := 99) rfl ?_); refine goesL_ (some 39) rfl rfl Tryz.func99 (by kernel_rfl) rfl #[.slice A19 (l0.drop 6).length (c0 - 6)] rfl (by (try simp only [List.map_toArray, List.map_cons, List.map_nil]); first | done | (rw [show (l0.drop 6).length = (l0.length - 6) from List.length_drop] <;> rfl) | rfl | (simp only [List.length_drop, List.length_take]; rfl)) ?_; (with_reducible refine (jsonparser_decodeSingleUnicodeEscape.calls kj6 _ _ (l0.drop 6) a8 true _ ?side1 ?side2 A14.out).mono ?_); (case side1 => repeat (first | exact b3.out | (with_reducible refine Kd.C_alloc ?_ _) | (with_reducible refine Kd.C_drewN ?_ _) | (with_reducible refine Kd.C_drew ?_))); (case side2 => exact b4.out); rintro e w' ⟨rfl, ⟨nd, rfl⟩⟩; refine ⟨_, rfl, ?_⟩))
           go_ret2
           exact ⟨by first | rfl | (simp; done) | (simp [*]; done), by repeat (first | exact Drawn0.refl _ | apply Drawn0.step)⟩
          ·rw [if_neg c18] at H
           have c18b0 : decide (57343 < a8) = false := decide_eq_false c18
           clear c18
           replace H := Option.bind_eq_some_iff.mp H
           obtain ⟨d8, e3, H⟩ := H
           try dsimp only at H
           have A20 := sd e3
           clear e3
           simp only [Option.some.injEq, Prod.mk.injEq] at H
           obtain ⟨rfl, rfl⟩ := H
           obtain ⟨i021, hi021, _, hsz21, _⟩ := info_parts info5
           obtain ⟨A21, hcut21, hA21, hC21⟩ := print_drop_of (P := Tryz.prog) (Value.int .u8) 0 44 5 .i64 Tryz.underlying44 hi021 hsz21 A0 c0 l0 6 (by omega) tX HC0.out
           have b3 := sd (Kd.C_of_reads (h1 := fun _ => rfl) (hA21 _ (Kd.reads_of_C HR0.out)))
           have b4 := sd hC21
           clear hA21 hC21 hi021 hsz21
           go_wp2_with (first | ((with_reducible refine gate_callee (f := 99) rfl ?_); refine goesL_ (some 39) rfl rfl Tryz.func99 (by kernel_rfl) rfl #[.slice A21 (l0.drop 6).length (c0 - 6)] rfl (by (try simp only [List.map_toArray, List.map_cons, List.map_nil]); first | done | (rw [show (l0.drop 6).length = (l0.length - 6) from List.length_drop] <;> rfl) | rfl | (simp only [List.length_drop, List.length_take]; rfl)) ?_; (with_reducible refine (jsonparser_decodeSingleUnicodeEscape.calls kj6 _ _ (l0.drop 6) a8 true _ ?side1 ?side2 A14.out).mono ?_); (case side1 => repeat (first | exact b3.out | (with_reducible refine Kd.C_alloc ?_ _) | (with_reducible refine Kd.C_drewN ?_ _) | (with_reducible refine Kd.C_drew ?_))); (case side2 => exact b4.out); rintro e w' ⟨rfl, ⟨nd, rfl⟩⟩; refine ⟨_, rfl, ?_⟩) | ((with_reducible refine gate_callee (f := 101) rfl ?_); refine goesL_ (some 52) rfl rfl Tryz.func101 (by kernel_rfl) rfl #[.int .i32 a3, .int .i32 a8] rfl tM ?_; (with_reducible refine (jsonparser_combineUTF16Surrogates.calls a3 a8 d8 _ A20.out).mono ?_); rintro e w' ⟨rfl, ⟨nd, rfl⟩⟩; refine ⟨_, rfl, ?_⟩))
           go_ret2
           exact ⟨by first | rfl | (simp; done) | (simp [*]; done), by repeat (first | exact Drawn0.refl _ | apply Drawn0.step)⟩
        ·replace c15 := Bool.eq_false_iff.mpr c15
         subst c15
         rw [if_neg (show ¬ (false = true) by decide)] at H
         simp only [Option.some.injEq, Prod.mk.injEq] at H
         obtain ⟨rfl, rfl⟩ := H
         obtain ⟨i022, hi022, _, hsz22, _⟩ := info_parts info5
         obtain ⟨A22, hcut22, hA22, hC22⟩ := print_drop_of (P := Tryz.prog) (Value.int .u8) 0 44 5 .i64 Tryz.underlying44 hi022 hsz22 A0 c0 l0 6 (by omega) tX HC0.out
         have b3 := sd (Kd.C_of_reads (h1 := fun _ => rfl) (hA22 _ (Kd.reads_of_C HR0.out)))
         have b4 := sd hC22
         clear hA22 hC22 hi022 hsz22
         go_wp2_with (first | ((with_reducible refine gate_callee (f := 99) rfl ?_); refine goesL_ (some 39) rfl rfl Tryz.func99 (by kernel_rfl) rfl #[.slice A22 (l0.drop 6).length (c0 - 6)] rfl (by (try simp only [List.map_toArray, List.map_cons, List.map_nil]); first | done | (rw [show (l0.drop 6).length = (l0.length - 6) from List.length_drop] <;> rfl) | rfl | (simp only [List.length_drop, List.length_take]; rfl)) ?_; (with_reducible refine (jsonparser_decodeSingleUnicodeEscape.calls kj6 _ _ (l0.drop 6) a8 false _ ?side1 ?side2 A14.out).mono ?_); (case side1 => repeat (first | exact b3.out | (with_reducible refine Kd.C_alloc ?_ _) | (with_reducible refine Kd.C_drewN ?_ _) | (with_reducible refine Kd.C_drew ?_))); (case side2 => exact b4.out); rintro e w' ⟨rfl, ⟨nd, rfl⟩⟩; refine ⟨_, rfl, ?_⟩))
         go_ret2
         exact ⟨by first | rfl | (simp; done) | (simp [*]; done), by repeat (first | exact Drawn0.refl _ | apply Drawn0.step)⟩
       ·rw [if_neg c13] at H
        exact absurd H (by simp)
  ·replace c5 := Bool.eq_false_iff.mpr c5
   subst c5
   rw [if_neg (show ¬ (false = true) by decide)] at H
   simp only [Option.some.injEq, Prod.mk.injEq] at H
   obtain ⟨rfl, rfl⟩ := H
   go_enter Tryz.func94, Tryz.ntmps94
   go_wp2_with (first | ((with_reducible refine gate_callee (f := 99) rfl ?_); refine goesL_ (some 10) rfl rfl Tryz.func99 (by kernel_rfl) rfl #[.slice A0 l0.length c0] rfl tM ?_; (with_reducible refine (jsonparser_decodeSingleUnicodeEscape.calls k _ _ l0 a3 true _ ?side1 ?side2 A2.out).mono ?_); (case side1 => repeat (first | exact HR0.out | (with_reducible refine Kd.C_alloc ?_ _) | (with_reducible refine Kd.C_drewN ?_ _) | (with_reducible refine Kd.C_drew ?_))); (case side2 => exact HC0.out); rintro e w' ⟨rfl, ⟨nd, rfl⟩⟩; refine ⟨_, rfl, ?_⟩) | ((with_reducible refine gate_callee (f := 100) rfl ?_); refine goesL_ (some 16) rfl rfl Tryz.func100 (by kernel_rfl) rfl #[.int .i32 a3] rfl tM ?_; (with_reducible refine (jsonparser_isUTF16EncodedRune.calls a3 false _ A4.out).mono ?_); rintro e w' ⟨rfl, ⟨nd, rfl⟩⟩; refine ⟨_, rfl, ?_⟩))
   go_ret2
   exact ⟨by first | rfl | (simp; done) | (simp [*]; done), by repeat (first | exact Drawn0.refl _ | apply Drawn0.step)⟩
 ·replace c3 := Bool.eq_false_iff.mpr c3
  subst c3
  rw [if_neg (show ¬ (false = true) by decide)] at H
  simp only [Option.some.injEq, Prod.mk.injEq] at H
  obtain ⟨rfl, rfl⟩ := H
  go_enter Tryz.func94, Tryz.ntmps94
  go_wp2_with (first | ((with_reducible refine gate_callee (f := 99) rfl ?_); refine goesL_ (some 10) rfl rfl Tryz.func99 (by kernel_rfl) rfl #[.slice A0 l0.length c0] rfl tM ?_; (with_reducible refine (jsonparser_decodeSingleUnicodeEscape.calls k _ _ l0 a3 false _ ?side1 ?side2 A2.out).mono ?_); (case side1 => repeat (first | exact HR0.out | (with_reducible refine Kd.C_alloc ?_ _) | (with_reducible refine Kd.C_drewN ?_ _) | (with_reducible refine Kd.C_drew ?_))); (case side2 => exact HC0.out); rintro e w' ⟨rfl, ⟨nd, rfl⟩⟩; refine ⟨_, rfl, ?_⟩))
  go_ret2
  exact ⟨by first | rfl | (simp; done) | (simp [*]; done), by repeat (first | exact Drawn0.refl _ | apply Drawn0.step)⟩
end Go.Proofs.YthgpfljhmhkaiacGreatDoor.PFnJrTypedMisses
