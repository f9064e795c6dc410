/- Walks of functions that the law calls, printed and rewritten by program. -/
import Derived.Test.YtdacgdjjdifneaaGreatDoorV0
set_option linter.all false
set_option maxHeartbeats 16000000
set_option maxRecDepth 100000
namespace Go.Proofs.YtdacgdjjdifneaaGreatDoor.PFnGjFlattenOften
open Go.RowKit Go.Proofs.YtdacgdjjdifneaaGreatDoorW.PrintWords Go.Proofs.YtdacgdjjdifneaaGreatDoorW.PrintLast Go.Proofs.YtdacgdjjdifneaaGreatDoorW.PrintMore
attribute [local go_sem] max2_int min2_int max_two min_two max_three min_three max_four min_four
def utf16_IsSurrogate.f (a0 : Int) : Option (Bool) := if 55296 ≤ a0 then (some (decide (a0 < 57344))) else (some false)
theorem utf16_IsSurrogate.calls (a0 : Int) (r : Bool) (w : World) (h : utf16_IsSurrogate.f a0 = some r) :
  Calls Tryz.prog 64 #[.int .i32 a0] w fun e w' => e = .returned (.bool r) ∧ Drawn0 w w' := by
 have H : (if 55296 ≤ a0 then (some (decide (a0 < 57344))) else (some false)) = some r := h; clear h
 by_cases c2 : 55296 ≤ a0
 ·rw [if_pos c2] at H; have c2b0 : decide (55296 ≤ a0) = true := decide_eq_true c2; clear c2; obtain rfl := Option.some.inj H; go_enter Tryz.func64, Tryz.ntmps64; go_wp2; go_ret; exact ⟨tF, tD⟩
 ·rw [if_neg c2] at H; have c2b0 : decide (55296 ≤ a0) = false := decide_eq_false c2; clear c2; obtain rfl := Option.some.inj H; go_enter Tryz.func64, Tryz.ntmps64; go_wp2; go_ret; exact ⟨tF, tD⟩
def utf16_DecodeRune.f (a0 : Int) (a1 : Int) : Option (Int) := if 55296 ≤ a0 then (if a0 < 56320 then (if 56320 ≤ a1 then (if a1 < 57344 then (some (wrap32 ((Go.bits .or .i32 (wrap32 ((wrap32 (a0 - 55296)) * 1024)) (wrap32 (a1 - 56320))) + 65536))) else (some 65533)) else (some 65533)) else (some 65533)) else (some 65533)
theorem utf16_DecodeRune.calls (a0 : Int) (a1 : Int) (r : Int) (w : World) (h : utf16_DecodeRune.f a0 a1 = some r) :
  Calls Tryz.prog 65 #[.int .i32 a0, .int .i32 a1] w fun e w' => e = .returned (.int .i32 r) ∧ Drawn0 w w' := by
 have H : (if 55296 ≤ a0 then (if a0 < 56320 then (if 56320 ≤ a1 then (if a1 < 57344 then (some (wrap32 ((Go.bits .or .i32 (wrap32 ((wrap32 (a0 - 55296)) * 1024)) (wrap32 (a1 - 56320))) + 65536))) else (some 65533)) else (some 65533)) else (some 65533)) else (some 65533)) = some r := h; clear h
 by_cases c3 : 55296 ≤ a0
 ·rw [if_pos c3] at H; have c3b0 : decide (55296 ≤ a0) = true := decide_eq_true c3; clear c3
  by_cases c4 : a0 < 56320
  ·rw [if_pos c4] at H; have c4b0 : decide (a0 < 56320) = true := decide_eq_true c4; clear c4
   by_cases c5 : 56320 ≤ a1
   ·rw [if_pos c5] at H; have c5b0 : decide (56320 ≤ a1) = true := decide_eq_true c5; clear c5
    by_cases c6 : a1 < 57344
    ·rw [if_pos c6] at H; have c6b0 : decide (a1 < 57344) = true := decide_eq_true c6; clear c6; obtain rfl := Option.some.inj H; go_enter Tryz.func65, Tryz.ntmps65; go_wp2; go_ret; exact ⟨tF, tD⟩
    ·rw [if_neg c6] at H; have c6b0 : decide (a1 < 57344) = false := decide_eq_false c6; clear c6; obtain rfl := Option.some.inj H; go_enter Tryz.func65, Tryz.ntmps65; go_wp2; go_ret; exact ⟨tF, tD⟩
   ·rw [if_neg c5] at H; have c5b0 : decide (56320 ≤ a1) = false := decide_eq_false c5; clear c5; obtain rfl := Option.some.inj H; go_enter Tryz.func65, Tryz.ntmps65; go_wp2; go_ret; exact ⟨tF, tD⟩
  ·rw [if_neg c4] at H; have c4b0 : decide (a0 < 56320) = false := decide_eq_false c4; clear c4; obtain rfl := Option.some.inj H; go_enter Tryz.func65, Tryz.ntmps65; go_wp2; go_ret; exact ⟨tF, tD⟩
 ·rw [if_neg c3] at H; have c3b0 : decide (55296 ≤ a0) = false := decide_eq_false c3; clear c3; obtain rfl := Option.some.inj H; go_enter Tryz.func65, Tryz.ntmps65; go_wp2; go_ret; exact ⟨tF, tD⟩
end Go.Proofs.YtdacgdjjdifneaaGreatDoor.PFnGjFlattenOften
