/- Walks of the functions that the law calls, printed by program and rewritten. -/
import Derived.Test.YtaihmpdhaikfkaaGreatDoorV0
set_option linter.all false
namespace Go.Proofs.YtaihmpdhaikfkaaGreatDoor.PFnFjFloat
open Go.RowKit Go.Proofs.YtaihmpdhaikfkaaGreatDoorW.PrintWords Go.Proofs.YtaihmpdhaikfkaaGreatDoorW.PrintLast Go.Proofs.YtaihmpdhaikfkaaGreatDoorW.PrintMore
attribute [local go_sem] max2_int min2_int max_two min_two max_three min_three max_four min_four
/-! ### utf16_IsSurrogate: function 78 -/
def utf16_IsSurrogate.f (a0 : Int) : Option (Bool) := if 55296 ≤ a0 then (some (decide (a0 < 57344))) else (some false)
set_option maxHeartbeats 8000000 in
set_option maxRecDepth 100000 in
theorem utf16_IsSurrogate.calls (a0 : Int) (r : Bool) (w : World) (h : utf16_IsSurrogate.f a0 = some r) :
  Calls Tryz.prog 78 #[.int .i32 a0] w fun e w' => e = .returned (.bool r) ∧ Drawn0 w w' := by
 have H : (if 55296 ≤ a0 then (some (decide (a0 < 57344))) else (some false)) = some r := h
 clear h
 by_cases c2 : 55296 ≤ a0
 ·rw [if_pos c2] at H
  have c2b0 : decide (55296 ≤ a0) = true := decide_eq_true c2
  clear c2
  obtain rfl := Option.some.inj H
  go_enter Tryz.func78, Tryz.ntmps78
  go_wp2
  go_ret
  exact ⟨by first | rfl | (simp; done) | (simp [*]; done), by repeat (first | exact Drawn0.refl _ | apply Drawn0.step)⟩
 ·rw [if_neg c2] at H
  have c2b0 : decide (55296 ≤ a0) = false := decide_eq_false c2
  clear c2
  obtain rfl := Option.some.inj H
  go_enter Tryz.func78, Tryz.ntmps78
  go_wp2
  go_ret
  exact ⟨by first | rfl | (simp; done) | (simp [*]; done), by repeat (first | exact Drawn0.refl _ | apply Drawn0.step)⟩
/-! ### utf16_DecodeRune: function 79 -/
def utf16_DecodeRune.f (a0 : Int) (a1 : Int) : Option (Int) := if 55296 ≤ a0 then (if a0 < 56320 then (if 56320 ≤ a1 then (if a1 < 57344 then (some (wrap32 ((Go.bits .or .i32 (wrap32 ((wrap32 (a0 - 55296)) * 1024)) (wrap32 (a1 - 56320))) + 65536))) else (some 65533)) else (some 65533)) else (some 65533)) else (some 65533)
set_option maxHeartbeats 8000000 in
set_option maxRecDepth 100000 in
theorem utf16_DecodeRune.calls (a0 : Int) (a1 : Int) (r : Int) (w : World) (h : utf16_DecodeRune.f a0 a1 = some r) :
  Calls Tryz.prog 79 #[.int .i32 a0, .int .i32 a1] w fun e w' => e = .returned (.int .i32 r) ∧ Drawn0 w w' := by
 have H : (if 55296 ≤ a0 then (if a0 < 56320 then (if 56320 ≤ a1 then (if a1 < 57344 then (some (wrap32 ((Go.bits .or .i32 (wrap32 ((wrap32 (a0 - 55296)) * 1024)) (wrap32 (a1 - 56320))) + 65536))) else (some 65533)) else (some 65533)) else (some 65533)) else (some 65533)) = some r := h
 clear h
 by_cases c3 : 55296 ≤ a0
 ·rw [if_pos c3] at H
  have c3b0 : decide (55296 ≤ a0) = true := decide_eq_true c3
  clear c3
  by_cases c4 : a0 < 56320
  ·rw [if_pos c4] at H
   have c4b0 : decide (a0 < 56320) = true := decide_eq_true c4
   clear c4
   by_cases c5 : 56320 ≤ a1
   ·rw [if_pos c5] at H
    have c5b0 : decide (56320 ≤ a1) = true := decide_eq_true c5
    clear c5
    by_cases c6 : a1 < 57344
    ·rw [if_pos c6] at H
     have c6b0 : decide (a1 < 57344) = true := decide_eq_true c6
     clear c6
     obtain rfl := Option.some.inj H
     go_enter Tryz.func79, Tryz.ntmps79
     go_wp2
     go_ret
     exact ⟨by first | rfl | (simp; done) | (simp [*]; done), by repeat (first | exact Drawn0.refl _ | apply Drawn0.step)⟩
    ·rw [if_neg c6] at H
     have c6b0 : decide (a1 < 57344) = false := decide_eq_false c6
     clear c6
     obtain rfl := Option.some.inj H
     go_enter Tryz.func79, Tryz.ntmps79
     go_wp2
     go_ret
     exact ⟨by first | rfl | (simp; done) | (simp [*]; done), by repeat (first | exact Drawn0.refl _ | apply Drawn0.step)⟩
   ·rw [if_neg c5] at H
    have c5b0 : decide (56320 ≤ a1) = false := decide_eq_false c5
    clear c5
    obtain rfl := Option.some.inj H
    go_enter Tryz.func79, Tryz.ntmps79
    go_wp2
    go_ret
    exact ⟨by first | rfl | (simp; done) | (simp [*]; done), by repeat (first | exact Drawn0.refl _ | apply Drawn0.step)⟩
  ·rw [if_neg c4] at H
   have c4b0 : decide (a0 < 56320) = false := decide_eq_false c4
   clear c4
   obtain rfl := Option.some.inj H
   go_enter Tryz.func79, Tryz.ntmps79
   go_wp2
   go_ret
   exact ⟨by first | rfl | (simp; done) | (simp [*]; done), by repeat (first | exact Drawn0.refl _ | apply Drawn0.step)⟩
 ·rw [if_neg c3] at H
  have c3b0 : decide (55296 ≤ a0) = false := decide_eq_false c3
  clear c3
  obtain rfl := Option.some.inj H
  go_enter Tryz.func79, Tryz.ntmps79
  go_wp2
  go_ret
  exact ⟨by first | rfl | (simp; done) | (simp [*]; done), by repeat (first | exact Drawn0.refl _ | apply Drawn0.step)⟩
/-! ### stringslite_HasPrefix: function 83 -/
def stringslite_HasPrefix.f (a0 : ByteArray) (a1 : ByteArray) : Option (Bool) := if (a0.size : Int) ≥ (a1.size : Int) then (if 0 ≤ (a1.size : Int) then (if (a1.size : Int) ≤ (a0.size : Int) then (some ((a0.extract 0 ((a1.size : Int) : Int).toNat).toList == a1.toList)) else (none)) else (none)) else (some false)
set_option maxHeartbeats 8000000 in
set_option maxRecDepth 100000 in
theorem stringslite_HasPrefix.calls (a0 : ByteArray) (a1 : ByteArray) (r : Bool) (w : World) (h : stringslite_HasPrefix.f a0 a1 = some r) :
  Calls Tryz.prog 83 #[.string a0, .string a1] w fun e w' => e = .returned (.bool r) ∧ Drawn0 w w' := by
 have H : (if (a0.size : Int) ≥ (a1.size : Int) then (if 0 ≤ (a1.size : Int) then (if (a1.size : Int) ≤ (a0.size : Int) then (some ((a0.extract 0 ((a1.size : Int) : Int).toNat).toList == a1.toList)) else (none)) else (none)) else (some false)) = some r := h
 clear h
 by_cases c3 : (a0.size : Int) ≥ (a1.size : Int)
 ·rw [if_pos c3] at H
  have c3b0 : decide ((a1.size : Int) ≤ (a0.size : Int)) = true := decide_eq_true c3
  have c3b1 : decide (a1.size ≤ a0.size) = true := decide_eq_true (Int.ofNat_le.mp c3)
  clear c3
  by_cases c4 : 0 ≤ (a1.size : Int)
  ·rw [if_pos c4] at H
   have c4b0 := eq_true c4
   have c4b1 : decide (0 ≤ (a1.size : Int)) = true := decide_eq_true c4
   clear c4
   by_cases c5 : (a1.size : Int) ≤ (a0.size : Int)
   ·rw [if_pos c5] at H
    have c5b0 := eq_true c5
    have c5b1 : decide ((a1.size : Int) ≤ (a0.size : Int)) = true := decide_eq_true c5
    clear c5
    obtain rfl := Option.some.inj H
    go_enter Tryz.func83, Tryz.ntmps83
    go_wp2
    go_ret
    exact ⟨by first | rfl | (simp; done) | (simp [*]; done), by repeat (first | exact Drawn0.refl _ | apply Drawn0.step)⟩
   ·rw [if_neg c5] at H
    exact absurd H (by simp)
  ·rw [if_neg c4] at H
   exact absurd H (by simp)
 ·rw [if_neg c3] at H
  have c3b0 : decide ((a1.size : Int) ≤ (a0.size : Int)) = false := decide_eq_false c3
  have c3b1 : decide (a1.size ≤ a0.size) = false := decide_eq_false (fun h => c3 (Int.ofNat_le.mpr h))
  clear c3
  obtain rfl := Option.some.inj H
  go_enter Tryz.func83, Tryz.ntmps83
  go_wp2
  go_ret
  exact ⟨by first | rfl | (simp; done) | (simp [*]; done), by repeat (first | exact Drawn0.refl _ | apply Drawn0.step)⟩
/-! ### strings_HasPrefix: function 54 -/
def strings_HasPrefix.f (a0 : ByteArray) (a1 : ByteArray) : Option (Bool) := (stringslite_HasPrefix.f a0 a1).bind fun a2 => (some a2)
set_option maxHeartbeats 8000000 in
set_option maxRecDepth 100000 in
theorem strings_HasPrefix.calls (a0 : ByteArray) (a1 : ByteArray) (r : Bool) (w : World) (h : strings_HasPrefix.f a0 a1 = some r) :
  Calls Tryz.prog 54 #[.string a0, .string a1] w fun e w' => e = .returned (.bool r) ∧ Drawn0 w w' := by
 have H : ((stringslite_HasPrefix.f a0 a1).bind fun a2 => (some a2)) = some r := h
 clear h
 replace H := Option.bind_eq_some_iff.mp H
 obtain ⟨a2, A30, H⟩ := H
 try dsimp only at H
 have A3 := sd A30
 clear A30
 obtain rfl := Option.some.inj H
 go_enter Tryz.func54, Tryz.ntmps54
 go_wp2_with (first | ((with_reducible refine gate_callee (f := 83) rfl ?_); refine goesL_ (some 7) rfl rfl Tryz.func83 (by kernel_rfl) rfl #[.string a0, .string a1] rfl tM ?_; (with_reducible refine (stringslite_HasPrefix.calls a0 a1 a2 _ A3.out).mono ?_); rintro e w' ⟨rfl, ⟨nd, rfl⟩⟩; refine ⟨_, rfl, ?_⟩))
 go_ret
 exact ⟨by first | rfl | (simp; done) | (simp [*]; done), by repeat (first | exact Drawn0.refl _ | apply Drawn0.step)⟩
/-! ### fastfloat_zzFold: function 55 -/
mutual
def fastfloat_zzFold.l0 : Nat → ByteArray → ByteArray → Int → Option (Bool)
 | 0, _, _, _ => none
 | k + 1, x0, x1, x5 => if x5 < (x0.size : Int) then (if 0 ≤ x5 then (if 65 ≤ (bt x0 x5) then (fastfloat_zzFold.j1 k x0 x1 x5 (bt x0 x5) (decide ((bt x0 x5) ≤ 90))) else (fastfloat_zzFold.j1 k x0 x1 x5 (bt x0 x5) false)) else (none)) else (some true)
def fastfloat_zzFold.j1 : Nat → ByteArray → ByteArray → Int → Int → Bool → Option (Bool)
 | 0, _, _, _, _, _ => none
 | k + 1, x0, x1, x5, x6, x26 => if x26 = true then (if 0 ≤ x5 then (if x5 < (x1.size : Int) then (if ((x6 + 32) % 256) = (bt x1 x5) then (fastfloat_zzFold.l0 k x0 x1 (wrap64 (x5 + 1))) else (some false)) else (none)) else (none)) else (if 0 ≤ x5 then (if x5 < (x1.size : Int) then (if x6 = (bt x1 x5) then (fastfloat_zzFold.l0 k x0 x1 (wrap64 (x5 + 1))) else (some false)) else (none)) else (none))
end
def fastfloat_zzFold.f (k : Nat) (a0 : ByteArray) (a1 : ByteArray) : Option (Bool) := if (a0.size : Int) = (a1.size : Int) then (fastfloat_zzFold.l0 k a0 a1 0) else (some false)
set_option maxHeartbeats 8000000 in
set_option maxRecDepth 100000 in
theorem fastfloat_zzFold.calls (k : Nat) (a0 : ByteArray) (a1 : ByteArray) (r : Bool) (w : World) (h : fastfloat_zzFold.f k a0 a1 = some r) :
  Calls Tryz.prog 55 #[.string a0, .string a1] w fun e w' => e = .returned (.bool r) ∧ Drawn0 w w' := by
 have H : (if (a0.size : Int) = (a1.size : Int) then (fastfloat_zzFold.l0 k a0 a1 0) else (some false)) = some r := h
 clear h
 by_cases c3 : (a0.size : Int) = (a1.size : Int)
 ·rw [if_pos c3] at H
  have c3b0 : ((a0.size : Int) == (a1.size : Int)) = true := beq_iff_eq.mpr c3
  have c3b1 : ((a0.size : Int) != (a1.size : Int)) = false := bne_eq_false_iff_eq.mpr c3
  have c3b2 : (a0.size == a1.size) = true := by first | simpa using c3 | (simp at c3 ⊢; omega)
  clear c3
  have H' := sd H
  clear H
  go_enter Tryz.func55, Tryz.ntmps55
  go_wp2
  (try simp only [Act.put, List.setIfInBounds_toArray, List.set_cons_zero, List.set_cons_succ])
  go_loopg [5] k (fun kq v5 w' => ∃ (x5_1 : Int), v5 = .int .i64 x5_1 ∧ Aside0 (fastfloat_zzFold.l0 kq a0 a1 x5_1 = some r) ∧ Aside0 (kq ≤ k) ∧ Drawn0 w w')
  case atStart => exact ⟨(0), tF, H', ⟨Nat.le_refl _⟩, by repeat (first | exact Drawn0.refl _ | apply Drawn0.step)⟩
  case round =>
   clear H'
   obtain ⟨x5_1, rfl, HA, HK1, ⟨m1, rfl⟩⟩ := hrel
   cases gk with
   | zero => exact absurd HA.out (by simp [fastfloat_zzFold.l0])
   | succ k1 =>
    have H := HA.out
    clear HA
    simp only [fastfloat_zzFold.l0] at H
    by_cases c4 : x5_1 < (a0.size : Int)
    ·rw [if_pos c4] at H
     have c4b0 : decide (x5_1 < (a0.size : Int)) = true := decide_eq_true c4
     clear c4
     by_cases c5 : 0 ≤ x5_1
     ·rw [if_pos c5] at H
      have c5b0 : decide (0 ≤ x5_1) = true := decide_eq_true c5
      clear c5
      have HC7 := sd H
      clear H
      have p6 : 0 ≤ (x5_1 : Int) := of_decide_eq_true (by first | (with_reducible assumption) | assumption)
      have q6 : x5_1 < (a0.size : Int) := of_decide_eq_true (by first | (with_reducible assumption) | assumption)
      have hx6 := bt_at a0 x5_1
      replace p6 := eq_true p6
      replace q6 := eq_true q6
      go_upto_region 7 with (fail)
      go_cut [26] (fun v26 wc => ∃ (kq : Nat) (x26_6 : Bool), v26 = .bool x26_6 ∧ Aside0 (fastfloat_zzFold.j1 kq a0 a1 x5_1 (bt a0 x5_1) x26_6 = some r) ∧ Aside0 (kq ≤ k1) ∧ Drawn0 w wc)
      case first =>
       have H := HC7.out
       clear HC7
       by_cases c8 : 65 ≤ (bt a0 x5_1)
       ·rw [if_pos c8] at H
        have c8b0 : decide (65 ≤ (bt a0 x5_1)) = true := decide_eq_true c8
        clear c8
        (first | rw [c8b0] | (simp only [i64_w, i32_w]; rw [c8b0]) | skip)
        have H' := sd H
        clear H
        go_wp2
        go_meet
        case rel => exact ⟨_, (decide ((bt a0 x5_1) ≤ 90)), tF, H', ⟨by have := HK1.out; first | omega | exact Nat.le_refl _⟩, by repeat (first | exact Drawn0.refl _ | apply Drawn0.step)⟩
       ·rw [if_neg c8] at H
        have c8b0 : decide (65 ≤ (bt a0 x5_1)) = false := decide_eq_false c8
        clear c8
        (first | rw [c8b0] | (simp only [i64_w, i32_w]; rw [c8b0]) | skip)
        have H' := sd H
        clear H
        go_wp2
        go_meet
        case rel => exact ⟨_, (false), tF, H', ⟨by have := HK1.out; first | omega | exact Nat.le_refl _⟩, by repeat (first | exact Drawn0.refl _ | apply Drawn0.step)⟩
      case rest =>
       clear HC7
       obtain ⟨kq, x26_6, rfl, HA, HJ6, ⟨mc6, rfl⟩⟩ := hcut
       cases kq with
       | zero => exact absurd HA.out (by simp [fastfloat_zzFold.j1])
       | succ kj6 =>
        have H := HA.out
        clear HA
        simp only [fastfloat_zzFold.j1] at H
        by_cases c9 : x26_6 = true
        ·subst c9
         rw [if_pos rfl] at H
         by_cases c10 : 0 ≤ x5_1
         ·rw [if_pos c10] at H
          have c10b0 : decide (0 ≤ x5_1) = true := decide_eq_true c10
          clear c10
          by_cases c11 : x5_1 < (a1.size : Int)
          ·rw [if_pos c11] at H
           have c11b0 : decide (x5_1 < (a1.size : Int)) = true := decide_eq_true c11
           clear c11
           by_cases c13 : (((bt a0 x5_1) + 32) % 256) = (bt a1 x5_1)
           ·rw [if_pos c13] at H
            have c13b0 : ((((bt a0 x5_1) + 32) % 256) == (bt a1 x5_1)) = true := beq_iff_eq.mpr c13
            have c13b1 : ((((bt a0 x5_1) + 32) % 256) != (bt a1 x5_1)) = false := bne_eq_false_iff_eq.mpr c13
            clear c13
            have H' := sd H
            clear H
            have p12 : 0 ≤ (x5_1 : Int) := of_decide_eq_true (by first | (with_reducible assumption) | assumption)
            have q12 : x5_1 < (a1.size : Int) := of_decide_eq_true (by first | (with_reducible assumption) | assumption)
            have hx12 := bt_at a1 x5_1
            replace p12 := eq_true p12
            replace q12 := eq_true q12
            go_wp2
            go_roundg kj6
            case measure => have := HK1.out; have := HJ6.out; omega
            case rel => exact ⟨(wrap64 (x5_1 + 1)), tF, H', ⟨by have := HK1.out; have := HJ6.out; omega⟩, by repeat (first | exact Drawn0.refl _ | apply Drawn0.step)⟩
           ·rw [if_neg c13] at H
            have c13b0 : ((((bt a0 x5_1) + 32) % 256) == (bt a1 x5_1)) = false := beq_eq_false_iff_ne.mpr c13
            have c13b1 : ((((bt a0 x5_1) + 32) % 256) != (bt a1 x5_1)) = true := bne_iff_ne.mpr c13
            obtain rfl := Option.some.inj H
            have p12 : 0 ≤ (x5_1 : Int) := of_decide_eq_true (by first | (with_reducible assumption) | assumption)
            have q12 : x5_1 < (a1.size : Int) := of_decide_eq_true (by first | (with_reducible assumption) | assumption)
            have hx12 := bt_at a1 x5_1
            replace p12 := eq_true p12
            replace q12 := eq_true q12
            go_wp2
            go_ret
            exact ⟨by first | rfl | (simp; done) | (simp [*]; done), by repeat (first | exact Drawn0.refl _ | apply Drawn0.step)⟩
          ·rw [if_neg c11] at H
           exact absurd H (by simp)
         ·rw [if_neg c10] at H
          exact absurd H (by simp)
        ·replace c9 := Bool.eq_false_iff.mpr c9
         subst c9
         rw [if_neg (show ¬ (false = true) by decide)] at H
         by_cases c14 : 0 ≤ x5_1
         ·rw [if_pos c14] at H
          have c14b0 : decide (0 ≤ x5_1) = true := decide_eq_true c14
          clear c14
          by_cases c15 : x5_1 < (a1.size : Int)
          ·rw [if_pos c15] at H
           have c15b0 : decide (x5_1 < (a1.size : Int)) = true := decide_eq_true c15
           clear c15
           by_cases c17 : (bt a0 x5_1) = (bt a1 x5_1)
           ·rw [if_pos c17] at H
            have c17b0 : ((bt a0 x5_1) == (bt a1 x5_1)) = true := beq_iff_eq.mpr c17
            have c17b1 : ((bt a0 x5_1) != (bt a1 x5_1)) = false := bne_eq_false_iff_eq.mpr c17
            clear c17
            have H' := sd H
            clear H
            have p16 : 0 ≤ (x5_1 : Int) := of_decide_eq_true (by first | (with_reducible assumption) | assumption)
            have q16 : x5_1 < (a1.size : Int) := of_decide_eq_true (by first | (with_reducible assumption) | assumption)
            have hx16 := bt_at a1 x5_1
            replace p16 := eq_true p16
            replace q16 := eq_true q16
            go_wp2
            go_roundg kj6
            case measure => have := HK1.out; have := HJ6.out; omega
            case rel => exact ⟨(wrap64 (x5_1 + 1)), tF, H', ⟨by have := HK1.out; have := HJ6.out; omega⟩, by repeat (first | exact Drawn0.refl _ | apply Drawn0.step)⟩
           ·rw [if_neg c17] at H
            have c17b0 : ((bt a0 x5_1) == (bt a1 x5_1)) = false := beq_eq_false_iff_ne.mpr c17
            have c17b1 : ((bt a0 x5_1) != (bt a1 x5_1)) = true := bne_iff_ne.mpr c17
            obtain rfl := Option.some.inj H
            have p16 : 0 ≤ (x5_1 : Int) := of_decide_eq_true (by first | (with_reducible assumption) | assumption)
            have q16 : x5_1 < (a1.size : Int) := of_decide_eq_true (by first | (with_reducible assumption) | assumption)
            have hx16 := bt_at a1 x5_1
            replace p16 := eq_true p16
            replace q16 := eq_true q16
            go_wp2
            go_ret
            exact ⟨by first | rfl | (simp; done) | (simp [*]; done), by repeat (first | exact Drawn0.refl _ | apply Drawn0.step)⟩
          ·rw [if_neg c15] at H
           exact absurd H (by simp)
         ·rw [if_neg c14] at H
          exact absurd H (by simp)
     ·rw [if_neg c5] at H
      exact absurd H (by simp)
    ·rw [if_neg c4] at H
     have c4b0 : decide (x5_1 < (a0.size : Int)) = false := decide_eq_false c4
     clear c4
     obtain rfl := Option.some.inj H
     go_wp2
     go_ret
     exact ⟨by first | rfl | (simp; done) | (simp [*]; done), by repeat (first | exact Drawn0.refl _ | apply Drawn0.step)⟩
 ·rw [if_neg c3] at H
  have c3b0 : ((a0.size : Int) == (a1.size : Int)) = false := beq_eq_false_iff_ne.mpr c3
  have c3b1 : ((a0.size : Int) != (a1.size : Int)) = true := bne_iff_ne.mpr c3
  have c3b2 : (a0.size == a1.size) = false := by first | simpa using c3 | (simp at c3 ⊢; omega)
  obtain rfl := Option.some.inj H
  go_enter Tryz.func55, Tryz.ntmps55
  go_wp2
  go_ret
  exact ⟨by first | rfl | (simp; done) | (simp [*]; done), by repeat (first | exact Drawn0.refl _ | apply Drawn0.step)⟩
end Go.Proofs.YtaihmpdhaikfkaaGreatDoor.PFnFjFloat
