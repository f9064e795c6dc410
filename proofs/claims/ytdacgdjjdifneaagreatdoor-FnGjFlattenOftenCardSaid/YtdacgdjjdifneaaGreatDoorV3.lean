/- Walks of functions that the law calls, printed and rewritten by program. -/
import Derived.Test.YtdacgdjjdifneaaGreatDoorV0
import Derived.Test.YtdacgdjjdifneaaGreatDoorV1
set_option linter.all false
set_option maxHeartbeats 16000000
set_option maxRecDepth 100000
namespace Go.Proofs.YtdacgdjjdifneaaGreatDoor.PFnGjFlattenOften
open Go.RowKit Go.Proofs.YtdacgdjjdifneaaGreatDoorW.PrintWords Go.Proofs.YtdacgdjjdifneaaGreatDoorW.PrintLast Go.Proofs.YtdacgdjjdifneaaGreatDoorW.PrintMore
attribute [local go_sem] max2_int min2_int max_two min_two max_three min_three max_four min_four
def spec_reader_word.f (s0_0 : ByteArray) (s0_1 : Int) (a1 : ByteArray) : Option (Bool × ByteArray × Int) := if (wrap64 ((s0_0.size : Int) - s0_1)) < (a1.size : Int) then (some (false, s0_0, s0_1)) else (if 0 ≤ s0_1 then (if s0_1 ≤ (wrap64 (s0_1 + (a1.size : Int))) then (if (wrap64 (s0_1 + (a1.size : Int))) ≤ (s0_0.size : Int) then (if (s0_0.extract (s0_1 : Int).toNat ((wrap64 (s0_1 + (a1.size : Int))) : Int).toNat).toList = a1.toList then (some (true, s0_0, wrap64 (s0_1 + (a1.size : Int)))) else (some (false, s0_0, s0_1))) else (none)) else (none)) else (none))
theorem spec_reader_word.calls (g : Nat) (s0_0 : ByteArray) (s0_1 : Int) (a1 : ByteArray) (r1 : Bool) (r2 : ByteArray) (r3 : Int) (w0 w : World) (hI : IsS41 w0 w g s0_0 s0_1) (hB : Below w0.heap.size w0 w) (h : spec_reader_word.f s0_0 s0_1 a1 = some (r1, r2, r3)) :
  Calls Tryz.prog 25 #[.pointer (some ⟨g, 0, none⟩), .string a1] w fun e w' => e = .returned (.bool r1) ∧ IsS41 w0 w' g r2 r3 ∧ Below w0.heap.size w0 w' ∧ KeepBut w w' g none := by
 have HI0 := sd hI; have HK := sd (KeepBut.refl w g none); have HL := sd hB.size; clear hI; have HW0 := sd hB.size; have HB := sd hB; clear hB; have H : (if (wrap64 ((s0_0.size : Int) - s0_1)) < (a1.size : Int) then (some (false, s0_0, s0_1)) else (if 0 ≤ s0_1 then (if s0_1 ≤ (wrap64 (s0_1 + (a1.size : Int))) then (if (wrap64 (s0_1 + (a1.size : Int))) ≤ (s0_0.size : Int) then (if (s0_0.extract (s0_1 : Int).toNat ((wrap64 (s0_1 + (a1.size : Int))) : Int).toNat).toList = a1.toList then (some (true, s0_0, wrap64 (s0_1 + (a1.size : Int)))) else (some (false, s0_0, s0_1))) else (none)) else (none)) else (none))) = some (r1, r2, r3) := h; clear h
 by_cases c3 : (wrap64 ((s0_0.size : Int) - s0_1)) < (a1.size : Int)
 ·rw [if_pos c3] at H; have c3b0 : decide ((wrap64 ((s0_0.size : Int) - s0_1)) < (a1.size : Int)) = true := decide_eq_true c3; clear c3; simp only [Option.some.injEq, Prod.mk.injEq] at H; obtain ⟨rfl, rfl, rfl⟩ := H; obtain ⟨z0, z1, y0, y1⟩ := IsS41.cells HI0.out; go_enter Tryz.func25, Tryz.ntmps25; go_wp2
  repeat (go_quiet (fail); try go_wp2)
  go_ret; exact ⟨tE, tI, tB, tK⟩
 ·rw [if_neg c3] at H; have c3b0 : decide ((wrap64 ((s0_0.size : Int) - s0_1)) < (a1.size : Int)) = false := decide_eq_false c3; clear c3
  by_cases c5 : 0 ≤ s0_1
  ·rw [if_pos c5] at H; have c5b0 := eq_true c5; have c5b1 : decide (0 ≤ s0_1) = true := decide_eq_true c5; clear c5
   by_cases c6 : s0_1 ≤ (wrap64 (s0_1 + (a1.size : Int)))
   ·rw [if_pos c6] at H; have c6b0 := eq_true c6; have c6b1 : decide (s0_1 ≤ (wrap64 (s0_1 + (a1.size : Int)))) = true := decide_eq_true c6
    by_cases c7 : (wrap64 (s0_1 + (a1.size : Int))) ≤ (s0_0.size : Int)
    ·rw [if_pos c7] at H; have c7b0 := eq_true c7; have c7b1 : decide ((wrap64 (s0_1 + (a1.size : Int))) ≤ (s0_0.size : Int)) = true := decide_eq_true c7
     by_cases c8 : (s0_0.extract (s0_1 : Int).toNat ((wrap64 (s0_1 + (a1.size : Int))) : Int).toNat).toList = a1.toList
     ·rw [if_pos c8] at H; have c8b0 : ((s0_0.extract (s0_1 : Int).toNat ((wrap64 (s0_1 + (a1.size : Int))) : Int).toNat).toList == a1.toList) = true := beq_iff_eq.mpr c8; have c8b1 : ((s0_0.extract (s0_1 : Int).toNat ((wrap64 (s0_1 + (a1.size : Int))) : Int).toNat).toList != a1.toList) = false := bne_eq_false_iff_eq.mpr c8; clear c8; simp only [Option.some.injEq, Prod.mk.injEq] at H; obtain ⟨rfl, rfl, rfl⟩ := H; obtain ⟨z0, z1, y0, y1⟩ := IsS41.cells HI0.out; go_enter Tryz.func25, Tryz.ntmps25; go_wp2
      repeat (go_quiet (fail); try go_wp2)
      go_ret; exact ⟨tE, tI, tB, tK⟩
     ·rw [if_neg c8] at H; have c8b0 : ((s0_0.extract (s0_1 : Int).toNat ((wrap64 (s0_1 + (a1.size : Int))) : Int).toNat).toList == a1.toList) = false := beq_eq_false_iff_ne.mpr c8; have c8b1 : ((s0_0.extract (s0_1 : Int).toNat ((wrap64 (s0_1 + (a1.size : Int))) : Int).toNat).toList != a1.toList) = true := bne_iff_ne.mpr c8; simp only [Option.some.injEq, Prod.mk.injEq] at H; obtain ⟨rfl, rfl, rfl⟩ := H; obtain ⟨z0, z1, y0, y1⟩ := IsS41.cells HI0.out; go_enter Tryz.func25, Tryz.ntmps25; go_wp2
      repeat (go_quiet (fail); try go_wp2)
      go_ret; exact ⟨tE, tI, tB, tK⟩
    ·rw [if_neg c7] at H; exact absurd H (by simp)
   ·rw [if_neg c6] at H; exact absurd H (by simp)
  ·rw [if_neg c5] at H; exact absurd H (by simp)
end Go.Proofs.YtdacgdjjdifneaaGreatDoor.PFnGjFlattenOften
