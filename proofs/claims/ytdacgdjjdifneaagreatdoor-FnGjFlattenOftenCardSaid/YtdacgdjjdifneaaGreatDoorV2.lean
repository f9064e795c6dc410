/- Walks of functions that the law calls, printed and rewritten by program. -/
import Derived.Test.YtdacgdjjdifneaaGreatDoorV0
import Derived.Test.YtdacgdjjdifneaaGreatDoorV1
set_option linter.all false
set_option maxHeartbeats 16000000
set_option maxRecDepth 100000
namespace Go.Proofs.YtdacgdjjdifneaaGreatDoor.PFnGjFlattenOften
open Go.RowKit Go.Proofs.YtdacgdjjdifneaaGreatDoorW.PrintWords Go.Proofs.YtdacgdjjdifneaaGreatDoorW.PrintLast Go.Proofs.YtdacgdjjdifneaaGreatDoorW.PrintMore
attribute [local go_sem] max2_int min2_int max_two min_two max_three min_three max_four min_four
def spec_reader_quoted.l0 : Nat → ByteArray → Int → Option (Bool × ByteArray × Int)
 | 0, _, _ => none
 | k + 1, a5, a4 => if a4 < (a5.size : Int) then (if 0 ≤ a4 then (if (bt a5 a4) = 34 then (some (true, a5, wrap64 (a4 + 1))) else (if (bt a5 a4) < 32 then (some (false, a5, wrap64 (a4 + 1))) else (if (bt a5 a4) = 92 then ((spec_reader_escape.f k a5 (wrap64 (a4 + 1))).bind fun b7 => (if b7.1 = true then (spec_reader_quoted.l0 k b7.2.1 b7.2.2) else (some (false, b7.2.1, b7.2.2)))) else (spec_reader_quoted.l0 k a5 (wrap64 (a4 + 1)))))) else (none)) else (some (false, a5, a4))
def spec_reader_quoted.f (k : Nat) (s0_0 : ByteArray) (s0_1 : Int) : Option (Bool × ByteArray × Int) := spec_reader_quoted.l0 k s0_0 (wrap64 (s0_1 + 1))
theorem spec_reader_quoted.mono_l : ∀ k, (∀ y0 y1, LeO (spec_reader_quoted.l0 k y0 y1) (spec_reader_quoted.l0 (k + 1) y0 y1))
 | 0 => fun _ _ r h => by simp [spec_reader_quoted.l0] at h
 | k + 1 => by
  have ih0 := spec_reader_quoted.mono_l k
  ·intro y0 y1; unfold spec_reader_quoted.l0
   repeat' first
   | (with_reducible exact ih0 _ _)
   | (with_reducible exact spec_reader_escape.mono _ _ _)
   | (with_reducible exact LeO.refl _)
   | (with_reducible exact LeO.none _)
   | (with_reducible refine LeO.ite ?_ ?_)
   | (with_reducible refine LeO.bind ?_ (fun _ => ?_))
   | exact ih0 _ _
   | exact spec_reader_escape.mono _ _ _
   | exact LeO.none _
   | refine LeO.ite ?_ ?_
   | refine LeO.bind ?_ (fun _ => ?_)
theorem spec_reader_quoted.mono : ∀ a0 a1 k, LeO (spec_reader_quoted.f k a0 a1) (spec_reader_quoted.f (k + 1) a0 a1) := by
 intro a0 a1 k; have ih0 := spec_reader_quoted.mono_l k; unfold spec_reader_quoted.f
 repeat' first
   | (with_reducible exact ih0 _ _)
   | (with_reducible exact spec_reader_escape.mono _ _ _)
   | (with_reducible exact LeO.refl _)
   | (with_reducible exact LeO.none _)
   | (with_reducible refine LeO.ite ?_ ?_)
   | (with_reducible refine LeO.bind ?_ (fun _ => ?_))
   | exact ih0 _ _
   | exact spec_reader_escape.mono _ _ _
   | exact LeO.none _
   | refine LeO.ite ?_ ?_
   | refine LeO.bind ?_ (fun _ => ?_)
theorem tl2_1 {P : Prop} (h : P := by
 simp only [Option.some.injEq, Prod.mk.injEq] at H; obtain ⟨rfl, rfl, rfl⟩ := H; obtain ⟨z0, z1, y0, y1⟩ := IsS41.cells HI0.out; have p5 : 0 ≤ (a2 : Int) := tX; have q5 : a2 < (a3.size : Int) := tX; have hx5 := bt_at a3 a2; replace p5 := eq_true p5; replace q5 := eq_true q5; go_wp2
 repeat (go_quiet (fail); try go_wp2)
 go_ret; exact ⟨tE, tI, tB, tK⟩) : P := h
theorem spec_reader_quoted.calls (k : Nat) (g : Nat) (s0_0 : ByteArray) (s0_1 : Int) (r1 : Bool) (r2 : ByteArray) (r3 : Int) (w0 w : World) (hI : IsS41 w0 w g s0_0 s0_1) (hB : Below w0.heap.size w0 w) (h : spec_reader_quoted.f k s0_0 s0_1 = some (r1, r2, r3)) :
  Calls Tryz.prog 23 #[.pointer (some ⟨g, 0, none⟩)] w fun e w' => e = .returned (.bool r1) ∧ IsS41 w0 w' g r2 r3 ∧ Below w0.heap.size w0 w' ∧ KeepBut w w' g none := by
 have HI0 := sd hI; have HK := sd (KeepBut.refl w g none); have HL := sd hB.size; clear hI; have HW0 := sd hB.size; have HB := sd hB; clear hB; have H : (spec_reader_quoted.l0 k s0_0 (wrap64 (s0_1 + 1))) = some (r1, r2, r3) := h; clear h; have H' := sd H; clear H; obtain ⟨z0, z1, y0, y1⟩ := IsS41.cells HI0.out; go_enter Tryz.func23, Tryz.ntmps23; go_wp2
 repeat (go_quiet (fail); try go_wp2)
 (try simp only [Act.put, List.setIfInBounds_toArray, List.set_cons_zero, List.set_cons_succ]); go_loopg [] k (fun kq w' => ∃ (a3 : ByteArray) (a2 : Int), Aside0 (spec_reader_quoted.l0 kq a3 a2 = some (r1, r2, r3)) ∧ Aside0 (kq ≤ k) ∧ Aside0 (IsS41 w0 w' g a3 a2) ∧ Aside0 (KeepBut w w' g none) ∧ Aside0 (Below w0.heap.size w0 w'))
 case atStart => exact ⟨(s0_0), (wrap64 (s0_1 + 1)), H', ⟨Nat.le_refl _⟩, ⟨tI⟩, ⟨tK⟩, ⟨tB⟩⟩
 case round =>
  clear H'; obtain ⟨a3, a2, HA, HK1, HI0, HK, HB⟩ := hrel
  cases gk with
  | zero => exact absurd HA.out (by simp [spec_reader_quoted.l0])
  | succ k1 =>
   have H := HA.out; clear HA; simp only [spec_reader_quoted.l0] at H
   by_cases c3 : a2 < (a3.size : Int)
   ·rw [if_pos c3] at H; have c3b0 : decide (a2 < (a3.size : Int)) = true := decide_eq_true c3; clear c3
    by_cases c4 : 0 ≤ a2
    ·rw [if_pos c4] at H; have c4b0 : decide (0 ≤ a2) = true := decide_eq_true c4; clear c4
     by_cases c6 : (bt a3 a2) = 34
     ·rw [if_pos c6] at H; have c6b0 : ((bt a3 a2) == 34) = true := beq_iff_eq.mpr c6; have c6b1 : ((bt a3 a2) != 34) = false := bne_eq_false_iff_eq.mpr c6; clear c6; exact tl2_1
     ·rw [if_neg c6] at H; have c6b0 : ((bt a3 a2) == 34) = false := beq_eq_false_iff_ne.mpr c6; have c6b1 : ((bt a3 a2) != 34) = true := bne_iff_ne.mpr c6
      by_cases c8 : (bt a3 a2) < 32
      ·rw [if_pos c8] at H; have c8b0 : decide ((bt a3 a2) < 32) = true := decide_eq_true c8; clear c8; exact tl2_1
      ·rw [if_neg c8] at H; have c8b0 : decide ((bt a3 a2) < 32) = false := decide_eq_false c8; clear c8
       by_cases c10 : (bt a3 a2) = 92
       ·rw [if_pos c10] at H; have c10b0 : ((bt a3 a2) == 92) = true := beq_iff_eq.mpr c10; have c10b1 : ((bt a3 a2) != 92) = false := bne_eq_false_iff_eq.mpr c10; clear c10; replace H := Option.bind_eq_some_iff.mp H; obtain ⟨⟨g9, b5, b6⟩, e3, H⟩ := H
        try dsimp only at H
        have A11 := sd e3; clear e3
        by_cases c12 : g9 = true
        ·subst c12; rw [if_pos rfl] at H; have H' := sd H; clear H; obtain ⟨z0, z1, y0, y1⟩ := IsS41.cells HI0.out; have p5 : 0 ≤ (a2 : Int) := tX; have q5 : a2 < (a3.size : Int) := tX; have hx5 := bt_at a3 a2; replace p5 := eq_true p5; replace q5 := eq_true q5; go_wp2_with (first | (go_at_call 33; (with_reducible refine (spec_reader_escape.calls k1 g a3 (wrap64 (a2 + 1)) true b5 b6 w0 _ ?_ ?_ A11.out).mono ?_); exact tI; exact tB; rintro e w14 ⟨rfl, hi, hb, hk⟩; obtain ⟨HK, HB, HI0⟩ := k3 (kt hk) hb hi; clear hb hk hi))
         repeat (go_quiet (first | (go_at_call 33; (with_reducible refine (spec_reader_escape.calls k1 g a3 (wrap64 (a2 + 1)) true b5 b6 w0 _ ?_ ?_ A11.out).mono ?_); exact tI; exact tB; rintro e w14 ⟨rfl, hi, hb, hk⟩; obtain ⟨HK, HB, HI0⟩ := k3 (kt hk) hb hi; clear hb hk hi)); try go_wp2_with (first | (go_at_call 33; (with_reducible refine (spec_reader_escape.calls k1 g a3 (wrap64 (a2 + 1)) true b5 b6 w0 _ ?_ ?_ A11.out).mono ?_); exact tI; exact tB; rintro e w14 ⟨rfl, hi, hb, hk⟩; obtain ⟨HK, HB, HI0⟩ := k3 (kt hk) hb hi; clear hb hk hi)))
         go_roundg k1
         case measure => have := HK1.out; omega
         case rel => exact ⟨(b5), (b6), H', ⟨by have := HK1.out; omega⟩, ⟨tI⟩, ⟨tK⟩, ⟨tB⟩⟩
        ·replace c12 := Bool.eq_false_iff.mpr c12; subst c12; rw [if_neg (show ¬ (false = true) by decide)] at H; simp only [Option.some.injEq, Prod.mk.injEq] at H; obtain ⟨rfl, rfl, rfl⟩ := H; obtain ⟨z0, z1, y0, y1⟩ := IsS41.cells HI0.out; have p5 : 0 ≤ (a2 : Int) := tX; have q5 : a2 < (a3.size : Int) := tX; have hx5 := bt_at a3 a2; replace p5 := eq_true p5; replace q5 := eq_true q5; go_wp2_with (first | (go_at_call 33; (with_reducible refine (spec_reader_escape.calls k1 g a3 (wrap64 (a2 + 1)) false b5 b6 w0 _ ?_ ?_ A11.out).mono ?_); exact tI; exact tB; rintro e w16 ⟨rfl, hi, hb, hk⟩; obtain ⟨HK, HB, HI0⟩ := k3 (kt hk) hb hi; clear hb hk hi))
         repeat (go_quiet (first | (go_at_call 33; (with_reducible refine (spec_reader_escape.calls k1 g a3 (wrap64 (a2 + 1)) false b5 b6 w0 _ ?_ ?_ A11.out).mono ?_); exact tI; exact tB; rintro e w16 ⟨rfl, hi, hb, hk⟩; obtain ⟨HK, HB, HI0⟩ := k3 (kt hk) hb hi; clear hb hk hi)); try go_wp2_with (first | (go_at_call 33; (with_reducible refine (spec_reader_escape.calls k1 g a3 (wrap64 (a2 + 1)) false b5 b6 w0 _ ?_ ?_ A11.out).mono ?_); exact tI; exact tB; rintro e w16 ⟨rfl, hi, hb, hk⟩; obtain ⟨HK, HB, HI0⟩ := k3 (kt hk) hb hi; clear hb hk hi)))
         go_ret; exact ⟨tE, tI, tB, tK⟩
       ·rw [if_neg c10] at H; have c10b0 : ((bt a3 a2) == 92) = false := beq_eq_false_iff_ne.mpr c10; have c10b1 : ((bt a3 a2) != 92) = true := bne_iff_ne.mpr c10; have H' := sd H; clear H; obtain ⟨z0, z1, y0, y1⟩ := IsS41.cells HI0.out; have p5 : 0 ≤ (a2 : Int) := tX; have q5 : a2 < (a3.size : Int) := tX; have hx5 := bt_at a3 a2; replace p5 := eq_true p5; replace q5 := eq_true q5; go_wp2
        repeat (go_quiet (fail); try go_wp2)
        go_roundg k1
        case measure => have := HK1.out; omega
        case rel => exact ⟨(a3), (wrap64 (a2 + 1)), H', ⟨by have := HK1.out; omega⟩, ⟨tI⟩, ⟨tK⟩, ⟨tB⟩⟩
    ·rw [if_neg c4] at H; exact absurd H (by simp)
   ·rw [if_neg c3] at H; have c3b0 : decide (a2 < (a3.size : Int)) = false := decide_eq_false c3; clear c3; simp only [Option.some.injEq, Prod.mk.injEq] at H; obtain ⟨rfl, rfl, rfl⟩ := H; obtain ⟨z0, z1, y0, y1⟩ := IsS41.cells HI0.out; go_wp2
    repeat (go_quiet (fail); try go_wp2)
    go_ret; exact ⟨tE, tI, tB, tK⟩
def spec_reader_take.f (s0_0 : ByteArray) (s0_1 : Int) (a1 : Int) : Option (Bool × ByteArray × Int) := if s0_1 < (s0_0.size : Int) then (if 0 ≤ s0_1 then (if (bt s0_0 s0_1) = a1 then (some (true, s0_0, wrap64 (s0_1 + 1))) else (some (false, s0_0, s0_1))) else (none)) else (some (false, s0_0, s0_1))
theorem tl2_0 {P : Prop} (h : P := by
 simp only [Option.some.injEq, Prod.mk.injEq] at H; obtain ⟨rfl, rfl, rfl⟩ := H; obtain ⟨z0, z1, y0, y1⟩ := IsS41.cells HI0.out; have p5 : 0 ≤ (s0_1 : Int) := tX; have q5 : s0_1 < (s0_0.size : Int) := tX; have hx5 := bt_at s0_0 s0_1; replace p5 := eq_true p5; replace q5 := eq_true q5; go_enter Tryz.func32, Tryz.ntmps32; go_wp2
 repeat (go_quiet (fail); try go_wp2)
 go_ret; exact ⟨tE, tI, tB, tK⟩) : P := h
theorem spec_reader_take.calls (g : Nat) (s0_0 : ByteArray) (s0_1 : Int) (a1 : Int) (r1 : Bool) (r2 : ByteArray) (r3 : Int) (w0 w : World) (hI : IsS41 w0 w g s0_0 s0_1) (hB : Below w0.heap.size w0 w) (h : spec_reader_take.f s0_0 s0_1 a1 = some (r1, r2, r3)) :
  Calls Tryz.prog 32 #[.pointer (some ⟨g, 0, none⟩), .int .u8 a1] w fun e w' => e = .returned (.bool r1) ∧ IsS41 w0 w' g r2 r3 ∧ Below w0.heap.size w0 w' ∧ KeepBut w w' g none := by
 have HI0 := sd hI; have HK := sd (KeepBut.refl w g none); have HL := sd hB.size; clear hI; have HW0 := sd hB.size; have HB := sd hB; clear hB; have H : (if s0_1 < (s0_0.size : Int) then (if 0 ≤ s0_1 then (if (bt s0_0 s0_1) = a1 then (some (true, s0_0, wrap64 (s0_1 + 1))) else (some (false, s0_0, s0_1))) else (none)) else (some (false, s0_0, s0_1))) = some (r1, r2, r3) := h; clear h
 by_cases c3 : s0_1 < (s0_0.size : Int)
 ·rw [if_pos c3] at H; have c3b0 : decide (s0_1 < (s0_0.size : Int)) = true := decide_eq_true c3; clear c3
  by_cases c4 : 0 ≤ s0_1
  ·rw [if_pos c4] at H; have c4b0 : decide (0 ≤ s0_1) = true := decide_eq_true c4; clear c4
   by_cases c6 : (bt s0_0 s0_1) = a1
   ·rw [if_pos c6] at H; have c6b0 : ((bt s0_0 s0_1) == a1) = true := beq_iff_eq.mpr c6; have c6b1 : ((bt s0_0 s0_1) != a1) = false := bne_eq_false_iff_eq.mpr c6; clear c6; exact tl2_0
   ·rw [if_neg c6] at H; have c6b0 : ((bt s0_0 s0_1) == a1) = false := beq_eq_false_iff_ne.mpr c6; have c6b1 : ((bt s0_0 s0_1) != a1) = true := bne_iff_ne.mpr c6; exact tl2_0
  ·rw [if_neg c4] at H; exact absurd H (by simp)
 ·rw [if_neg c3] at H; have c3b0 : decide (s0_1 < (s0_0.size : Int)) = false := decide_eq_false c3; clear c3; simp only [Option.some.injEq, Prod.mk.injEq] at H; obtain ⟨rfl, rfl, rfl⟩ := H; obtain ⟨z0, z1, y0, y1⟩ := IsS41.cells HI0.out; go_enter Tryz.func32, Tryz.ntmps32; go_wp2
  repeat (go_quiet (fail); try go_wp2)
  go_ret; exact ⟨tE, tI, tB, tK⟩
def spec_reader_digits.l0 : Nat → Int → Int → ByteArray → Int → Option (Bool × ByteArray × Int)
 | 0, _, _, _, _ => none
 | k + 1, x3, x4, a5, a4 => if 48 ≤ x4 then (if x4 ≤ 57 then ((spec_reader_here.f a5 (wrap64 (a4 + 1))).bind fun c2 => (spec_reader_digits.l0 k x3 c2.1 c2.2.1 c2.2.2)) else (some (decide (a4 > x3), a5, a4))) else (some (decide (a4 > x3), a5, a4))
def spec_reader_digits.f (k : Nat) (s0_0 : ByteArray) (s0_1 : Int) : Option (Bool × ByteArray × Int) := (spec_reader_here.f s0_0 s0_1).bind fun b3 => (spec_reader_digits.l0 k s0_1 b3.1 b3.2.1 b3.2.2)
theorem spec_reader_digits.mono_l : ∀ k, (∀ y0 y1 y2 y3, LeO (spec_reader_digits.l0 k y0 y1 y2 y3) (spec_reader_digits.l0 (k + 1) y0 y1 y2 y3))
 | 0 => fun _ _ _ _ r h => by simp [spec_reader_digits.l0] at h
 | k + 1 => by
  have ih0 := spec_reader_digits.mono_l k
  ·intro y0 y1 y2 y3; unfold spec_reader_digits.l0
   repeat' first
   | (with_reducible exact ih0 _ _ _ _)
   | (with_reducible exact LeO.refl _)
   | (with_reducible exact LeO.none _)
   | (with_reducible refine LeO.ite ?_ ?_)
   | (with_reducible refine LeO.bind ?_ (fun _ => ?_))
   | exact ih0 _ _ _ _
   | exact LeO.none _
   | refine LeO.ite ?_ ?_
   | refine LeO.bind ?_ (fun _ => ?_)
theorem spec_reader_digits.mono : ∀ a0 a1 k, LeO (spec_reader_digits.f k a0 a1) (spec_reader_digits.f (k + 1) a0 a1) := by
 intro a0 a1 k; have ih0 := spec_reader_digits.mono_l k; unfold spec_reader_digits.f
 repeat' first
   | (with_reducible exact ih0 _ _ _ _)
   | (with_reducible exact LeO.refl _)
   | (with_reducible exact LeO.none _)
   | (with_reducible refine LeO.ite ?_ ?_)
   | (with_reducible refine LeO.bind ?_ (fun _ => ?_))
   | exact ih0 _ _ _ _
   | exact LeO.none _
   | refine LeO.ite ?_ ?_
   | refine LeO.bind ?_ (fun _ => ?_)
theorem spec_reader_digits.calls (k : Nat) (g : Nat) (s0_0 : ByteArray) (s0_1 : Int) (r1 : Bool) (r2 : ByteArray) (r3 : Int) (w0 w : World) (hI : IsS41 w0 w g s0_0 s0_1) (hB : Below w0.heap.size w0 w) (h : spec_reader_digits.f k s0_0 s0_1 = some (r1, r2, r3)) :
  Calls Tryz.prog 34 #[.pointer (some ⟨g, 0, none⟩)] w fun e w' => e = .returned (.bool r1) ∧ IsS41 w0 w' g r2 r3 ∧ Below w0.heap.size w0 w' ∧ KeepBut w w' g none := by
 have HI0 := sd hI; have HK := sd (KeepBut.refl w g none); have HL := sd hB.size; clear hI; have HW0 := sd hB.size; have HB := sd hB; clear hB; have H : ((spec_reader_here.f s0_0 s0_1).bind fun b3 => (spec_reader_digits.l0 k s0_1 b3.1 b3.2.1 b3.2.2)) = some (r1, r2, r3) := h; clear h; replace H := Option.bind_eq_some_iff.mp H; obtain ⟨⟨e4, e5, e6⟩, A20, H⟩ := H
 try dsimp only at H
 have A2 := sd A20; clear A20; have H' := sd H; clear H; obtain ⟨z0, z1, y0, y1⟩ := IsS41.cells HI0.out; go_enter Tryz.func34, Tryz.ntmps34; go_wp2_with (first | ((with_reducible refine gate_callee (f := 20) rfl ?_); refine goesL_ (some 10) rfl rfl Tryz.func20 (by kernel_rfl) rfl #[.pointer (some ⟨g, 0, none⟩)] rfl tM ?_; (with_reducible refine (spec_reader_here.calls g s0_0 s0_1 e4 e5 e6 w0 _ ?_ ?_ A2.out).mono ?_); exact tI; exact tB; rintro e w4 ⟨rfl, hi, hb, hk⟩; refine ⟨_, rfl, ?_⟩; obtain ⟨HK, HB, HI0⟩ := k3 (kt hk) hb hi; clear hb hk hi)); (try simp only [Act.put, List.setIfInBounds_toArray, List.set_cons_zero, List.set_cons_succ])
 go_loopg [4] k (fun kq v4 w' => ∃ (x4_1 : Int) (a3 : ByteArray) (a2 : Int), v4 = .int .u8 x4_1 ∧ Aside0 (spec_reader_digits.l0 kq s0_1 x4_1 a3 a2 = some (r1, r2, r3)) ∧ Aside0 (kq ≤ k) ∧ Aside0 (IsS41 w0 w' g a3 a2) ∧ Aside0 (KeepBut w w' g none) ∧ Aside0 (Below w0.heap.size w0 w'))
 case atStart => exact ⟨(e4), (e5), (e6), tF, H', ⟨Nat.le_refl _⟩, ⟨tI⟩, ⟨tK⟩, ⟨tB⟩⟩
 case round =>
  clear H'; obtain ⟨x4_1, a3, a2, rfl, HA, HK1, HI0, HK, HB⟩ := hrel
  cases gk with
  | zero => exact absurd HA.out (by simp [spec_reader_digits.l0])
  | succ k1 =>
   have H := HA.out; clear HA; simp only [spec_reader_digits.l0] at H
   by_cases c5 : 48 ≤ x4_1
   ·rw [if_pos c5] at H; have c5b0 : decide (48 ≤ x4_1) = true := decide_eq_true c5; clear c5
    by_cases c6 : x4_1 ≤ 57
    ·rw [if_pos c6] at H; have c6b0 : decide (x4_1 ≤ 57) = true := decide_eq_true c6; clear c6; replace H := Option.bind_eq_some_iff.mp H; obtain ⟨⟨e7, e8, e9⟩, A70, H⟩ := H
     try dsimp only at H
     have A7 := sd A70; clear A70; have H' := sd H; clear H; obtain ⟨z0, z1, y0, y1⟩ := IsS41.cells HI0.out; go_wp2_with (first | ((with_reducible refine gate_callee (f := 20) rfl ?_); refine goesL_ (some 18) rfl rfl Tryz.func20 (by kernel_rfl) rfl #[.pointer (some ⟨g, 0, none⟩)] rfl tM ?_; (with_reducible refine (spec_reader_here.calls g a3 (wrap64 (a2 + 1)) e7 e8 e9 w0 _ ?_ ?_ A7.out).mono ?_); exact tI; exact tB; rintro e w9 ⟨rfl, hi, hb, hk⟩; refine ⟨_, rfl, ?_⟩; obtain ⟨HK, HB, HI0⟩ := k3 (kt hk) hb hi; clear hb hk hi)); go_roundg k1
     case measure => have := HK1.out; omega
     case rel => exact ⟨(e7), (e8), (e9), tF, H', ⟨by have := HK1.out; omega⟩, ⟨tI⟩, ⟨tK⟩, ⟨tB⟩⟩
    ·rw [if_neg c6] at H; have c6b0 : decide (x4_1 ≤ 57) = false := decide_eq_false c6; clear c6; simp only [Option.some.injEq, Prod.mk.injEq] at H; obtain ⟨rfl, rfl, rfl⟩ := H; obtain ⟨z0, z1, y0, y1⟩ := IsS41.cells HI0.out; go_wp2; go_ret; exact ⟨tE, tI, tB, tK⟩
   ·rw [if_neg c5] at H; have c5b0 : decide (48 ≤ x4_1) = false := decide_eq_false c5; clear c5; simp only [Option.some.injEq, Prod.mk.injEq] at H; obtain ⟨rfl, rfl, rfl⟩ := H; obtain ⟨z0, z1, y0, y1⟩ := IsS41.cells HI0.out; go_wp2; go_ret; exact ⟨tE, tI, tB, tK⟩
mutual
def spec_reader_number.j0 : Nat → Bool → ByteArray → Int → Option (Bool × ByteArray × Int)
 | 0, _, _, _ => none
 | k + 1, x12, a5, a4 => if x12 = true then (some (false, a5, a4)) else ((spec_reader_take.f a5 a4 46).bind fun b8 => (if b8.1 = true then ((spec_reader_digits.f k b8.2.1 b8.2.2).bind fun c7 => (spec_reader_number.j1 k (!c7.1) c7.2.1 c7.2.2)) else (spec_reader_number.j1 k false b8.2.1 b8.2.2)))
def spec_reader_number.j1 : Nat → Bool → ByteArray → Int → Option (Bool × ByteArray × Int)
 | 0, _, _, _ => none
 | k + 1, x19, a5, a4 => if x19 = true then (some (false, a5, a4)) else ((spec_reader_take.f a5 a4 101).bind fun b9 => (if b9.1 = true then (spec_reader_number.j2 k true b9.2.1 b9.2.2) else ((spec_reader_take.f b9.2.1 b9.2.2 69).bind fun c9 => (spec_reader_number.j2 k c9.1 c9.2.1 c9.2.2))))
def spec_reader_number.j2 : Nat → Bool → ByteArray → Int → Option (Bool × ByteArray × Int)
 | 0, _, _, _ => none
 | k + 1, x25, a5, a4 => if x25 = true then ((spec_reader_take.f a5 a4 43).bind fun c0 => (if c0.1 = true then ((spec_reader_digits.f k c0.2.1 c0.2.2).bind fun d0 => (some (d0.1, d0.2.1, d0.2.2))) else ((spec_reader_take.f c0.2.1 c0.2.2 45).bind fun e2 => ((spec_reader_digits.f k e2.2.1 e2.2.2).bind fun d1 => (some (d1.1, d1.2.1, d1.2.2)))))) else (some (true, a5, a4))
end
def spec_reader_number.f (k : Nat) (s0_0 : ByteArray) (s0_1 : Int) : Option (Bool × ByteArray × Int) := (spec_reader_take.f s0_0 s0_1 45).bind fun c1 => ((spec_reader_take.f c1.2.1 c1.2.2 48).bind fun a6 => (if a6.1 = true then (spec_reader_number.j0 k false a6.2.1 a6.2.2) else ((spec_reader_digits.f k a6.2.1 a6.2.2).bind fun b4 => (spec_reader_number.j0 k (!b4.1) b4.2.1 b4.2.2))))
theorem spec_reader_number.mono_l : ∀ k, (∀ y0 y1 y2, LeO (spec_reader_number.j0 k y0 y1 y2) (spec_reader_number.j0 (k + 1) y0 y1 y2)) ∧ (∀ y0 y1 y2, LeO (spec_reader_number.j1 k y0 y1 y2) (spec_reader_number.j1 (k + 1) y0 y1 y2)) ∧ (∀ y0 y1 y2, LeO (spec_reader_number.j2 k y0 y1 y2) (spec_reader_number.j2 (k + 1) y0 y1 y2))
 | 0 => ⟨fun _ _ _ r h => by simp [spec_reader_number.j0] at h, fun _ _ _ r h => by simp [spec_reader_number.j1] at h, fun _ _ _ r h => by simp [spec_reader_number.j2] at h⟩
 | k + 1 => by
  obtain ⟨ih0, ih1, ih2⟩ := spec_reader_number.mono_l k; refine ⟨?_, ?_, ?_⟩
  ·intro y0 y1 y2; unfold spec_reader_number.j0
   repeat' first
   | (with_reducible exact ih0 _ _ _)
   | (with_reducible exact ih1 _ _ _)
   | (with_reducible exact ih2 _ _ _)
   | (with_reducible exact spec_reader_digits.mono _ _ _)
   | (with_reducible exact LeO.refl _)
   | (with_reducible exact LeO.none _)
   | (with_reducible refine LeO.ite ?_ ?_)
   | (with_reducible refine LeO.bind ?_ (fun _ => ?_))
   | exact ih0 _ _ _
   | exact ih1 _ _ _
   | exact ih2 _ _ _
   | exact spec_reader_digits.mono _ _ _
   | exact LeO.none _
   | refine LeO.ite ?_ ?_
   | refine LeO.bind ?_ (fun _ => ?_)
  ·intro y0 y1 y2; unfold spec_reader_number.j1
   repeat' first
   | (with_reducible exact ih0 _ _ _)
   | (with_reducible exact ih1 _ _ _)
   | (with_reducible exact ih2 _ _ _)
   | (with_reducible exact spec_reader_digits.mono _ _ _)
   | (with_reducible exact LeO.refl _)
   | (with_reducible exact LeO.none _)
   | (with_reducible refine LeO.ite ?_ ?_)
   | (with_reducible refine LeO.bind ?_ (fun _ => ?_))
   | exact ih0 _ _ _
   | exact ih1 _ _ _
   | exact ih2 _ _ _
   | exact spec_reader_digits.mono _ _ _
   | exact LeO.none _
   | refine LeO.ite ?_ ?_
   | refine LeO.bind ?_ (fun _ => ?_)
  ·intro y0 y1 y2; unfold spec_reader_number.j2
   repeat' first
   | (with_reducible exact ih0 _ _ _)
   | (with_reducible exact ih1 _ _ _)
   | (with_reducible exact ih2 _ _ _)
   | (with_reducible exact spec_reader_digits.mono _ _ _)
   | (with_reducible exact LeO.refl _)
   | (with_reducible exact LeO.none _)
   | (with_reducible refine LeO.ite ?_ ?_)
   | (with_reducible refine LeO.bind ?_ (fun _ => ?_))
   | exact ih0 _ _ _
   | exact ih1 _ _ _
   | exact ih2 _ _ _
   | exact spec_reader_digits.mono _ _ _
   | exact LeO.none _
   | refine LeO.ite ?_ ?_
   | refine LeO.bind ?_ (fun _ => ?_)
theorem spec_reader_number.mono : ∀ a0 a1 k, LeO (spec_reader_number.f k a0 a1) (spec_reader_number.f (k + 1) a0 a1) := by
 intro a0 a1 k; obtain ⟨ih0, ih1, ih2⟩ := spec_reader_number.mono_l k; unfold spec_reader_number.f
 repeat' first
   | (with_reducible exact ih0 _ _ _)
   | (with_reducible exact ih1 _ _ _)
   | (with_reducible exact ih2 _ _ _)
   | (with_reducible exact spec_reader_digits.mono _ _ _)
   | (with_reducible exact LeO.refl _)
   | (with_reducible exact LeO.none _)
   | (with_reducible refine LeO.ite ?_ ?_)
   | (with_reducible refine LeO.bind ?_ (fun _ => ?_))
   | exact ih0 _ _ _
   | exact ih1 _ _ _
   | exact ih2 _ _ _
   | exact spec_reader_digits.mono _ _ _
   | exact LeO.none _
   | refine LeO.ite ?_ ?_
   | refine LeO.bind ?_ (fun _ => ?_)
theorem spec_reader_number.calls (k : Nat) (g : Nat) (s0_0 : ByteArray) (s0_1 : Int) (r1 : Bool) (r2 : ByteArray) (r3 : Int) (w0 w : World) (hI : IsS41 w0 w g s0_0 s0_1) (hB : Below w0.heap.size w0 w) (h : spec_reader_number.f k s0_0 s0_1 = some (r1, r2, r3)) :
  Calls Tryz.prog 24 #[.pointer (some ⟨g, 0, none⟩)] w fun e w' => e = .returned (.bool r1) ∧ IsS41 w0 w' g r2 r3 ∧ Below w0.heap.size w0 w' ∧ KeepBut w w' g none := by
 have HI0 := sd hI; have HK := sd (KeepBut.refl w g none); have HL := sd hB.size; clear hI; have HW0 := sd hB.size; have HB := sd hB; clear hB; have H : ((spec_reader_take.f s0_0 s0_1 45).bind fun c1 => ((spec_reader_take.f c1.2.1 c1.2.2 48).bind fun a6 => (if a6.1 = true then (spec_reader_number.j0 k false a6.2.1 a6.2.2) else ((spec_reader_digits.f k a6.2.1 a6.2.2).bind fun b4 => (spec_reader_number.j0 k (!b4.1) b4.2.1 b4.2.2))))) = some (r1, r2, r3) := h; clear h; replace H := Option.bind_eq_some_iff.mp H; obtain ⟨⟨i0, e0, e1⟩, A20, H⟩ := H
 try dsimp only at H
 have A2 := sd A20; clear A20; have HC3 := sd H; clear H; go_enter Tryz.func24, Tryz.ntmps24; go_upto_region 2 with (first | ((with_reducible refine gate_callee (f := 32) rfl ?_); refine goesL_ (some 4) rfl rfl Tryz.func32 (by kernel_rfl) rfl #[.pointer (some ⟨g, 0, none⟩), .int .u8 45] rfl tM ?_; (with_reducible refine (spec_reader_take.calls g s0_0 s0_1 45 i0 e0 e1 w0 _ ?_ ?_ A2.out).mono ?_); exact tI; exact tB; rintro e w4 ⟨rfl, hi, hb, hk⟩; refine ⟨_, rfl, ?_⟩; obtain ⟨HK, HB, HI0⟩ := k3 (kt hk) hb hi; clear hb hk hi))
 (try simp only [Act.put, List.setIfInBounds_toArray, List.set_cons_zero, List.set_cons_succ]); go_cut [12] (fun v12 wc => ∃ (kq : Nat) (x12_2 : Bool) (b1 : ByteArray) (b2 : Int), v12 = .bool x12_2 ∧ Aside0 (spec_reader_number.j0 kq x12_2 b1 b2 = some (r1, r2, r3)) ∧ Aside0 (kq ≤ k) ∧ Aside0 (IsS41 w0 wc g b1 b2) ∧ Aside0 (KeepBut w wc g none) ∧ Aside0 (Below w0.heap.size w0 wc))
 case first =>
  have H := HC3.out; clear HC3; replace H := Option.bind_eq_some_iff.mp H; obtain ⟨⟨i1, d2, d3⟩, A50, H⟩ := H
  try dsimp only at H
  have A5 := sd A50; clear A50
  by_cases c6 : i1 = true
  ·subst c6; rw [if_pos rfl] at H; have H' := sd H; clear H; go_wp2_with (first | ((with_reducible refine gate_callee (f := 32) rfl ?_); refine goesL_ (some 6) rfl rfl Tryz.func32 (by kernel_rfl) rfl #[.pointer (some ⟨g, 0, none⟩), .int .u8 48] rfl tM ?_; (with_reducible refine (spec_reader_take.calls g e0 e1 48 true d2 d3 w0 _ ?_ ?_ A5.out).mono ?_); exact tI; exact tB; rintro e w7 ⟨rfl, hi, hb, hk⟩; refine ⟨_, rfl, ?_⟩; obtain ⟨HK, HB, HI0⟩ := k3 (kt hk) hb hi; clear hb hk hi)); go_meet
   case rel => exact ⟨_, (false), (d2), (d3), tF, H', ⟨by first | omega | exact Nat.le_refl _⟩, ⟨tI⟩, ⟨tK⟩, ⟨tB⟩⟩
  ·replace c6 := Bool.eq_false_iff.mpr c6; subst c6; rw [if_neg (show ¬ (false = true) by decide)] at H; replace H := Option.bind_eq_some_iff.mp H; obtain ⟨⟨f0, f1, f2⟩, A80, H⟩ := H
   try dsimp only at H
   have A8 := sd A80; clear A80; have H' := sd H; clear H; go_wp2_with (first | ((with_reducible refine gate_callee (f := 32) rfl ?_); refine goesL_ (some 6) rfl rfl Tryz.func32 (by kernel_rfl) rfl #[.pointer (some ⟨g, 0, none⟩), .int .u8 48] rfl tM ?_; (with_reducible refine (spec_reader_take.calls g e0 e1 48 false d2 d3 w0 _ ?_ ?_ A5.out).mono ?_); exact tI; exact tB; rintro e w9 ⟨rfl, hi, hb, hk⟩; refine ⟨_, rfl, ?_⟩; obtain ⟨HK, HB, HI0⟩ := k3 (kt hk) hb hi; clear hb hk hi) | (go_at_call 34; (with_reducible refine (spec_reader_digits.calls k g d2 d3 f0 f1 f2 w0 _ ?_ ?_ A8.out).mono ?_); exact tI; exact tB; rintro e w10 ⟨rfl, hi, hb, hk⟩; obtain ⟨HK, HB, HI0⟩ := k3 (kt hk) hb hi; clear hb hk hi)); go_meet
   case rel => exact ⟨_, (!f0), (f1), (f2), tF, H', ⟨by first | omega | exact Nat.le_refl _⟩, ⟨tI⟩, ⟨tK⟩, ⟨tB⟩⟩
 case rest =>
  clear HC3; obtain ⟨kq, x12_2, b1, b2, rfl, HA, HJ2, HI0, HK, HB⟩ := hcut
  cases kq with
  | zero => exact absurd HA.out (by simp [spec_reader_number.j0])
  | succ kj2 =>
   have H := HA.out; clear HA; simp only [spec_reader_number.j0] at H
   by_cases c11 : x12_2 = true
   ·subst c11; rw [if_pos rfl] at H; simp only [Option.some.injEq, Prod.mk.injEq] at H; obtain ⟨rfl, rfl, rfl⟩ := H; go_wp2; go_ret; exact ⟨tE, tI, tB, tK⟩
   ·replace c11 := Bool.eq_false_iff.mpr c11; subst c11; rw [if_neg (show ¬ (false = true) by decide)] at H; have HC12 := sd H; clear H; go_upto_region 4 with (fail)
    go_cut [19] (fun v19 wc => ∃ (kq : Nat) (x19_11 : Bool) (a7 : ByteArray) (a8 : Int), v19 = .bool x19_11 ∧ Aside0 (spec_reader_number.j1 kq x19_11 a7 a8 = some (r1, r2, r3)) ∧ Aside0 (kq ≤ kj2) ∧ Aside0 (IsS41 w0 wc g a7 a8) ∧ Aside0 (KeepBut w wc g none) ∧ Aside0 (Below w0.heap.size w0 wc))
    case first =>
     have H := HC12.out; clear HC12; replace H := Option.bind_eq_some_iff.mp H; obtain ⟨⟨i2, d4, d5⟩, f3, H⟩ := H
     try dsimp only at H
     have A13 := sd f3; clear f3
     by_cases c14 : i2 = true
     ·subst c14; rw [if_pos rfl] at H; replace H := Option.bind_eq_some_iff.mp H; obtain ⟨⟨f4, f5, f6⟩, f7, H⟩ := H
      try dsimp only at H
      have A15 := sd f7; clear f7; have H' := sd H; clear H; go_wp2_with (first | ((with_reducible refine gate_callee (f := 32) rfl ?_); refine goesL_ (some 14) rfl rfl Tryz.func32 (by kernel_rfl) rfl #[.pointer (some ⟨g, 0, none⟩), .int .u8 46] rfl tM ?_; (with_reducible refine (spec_reader_take.calls g b1 b2 46 true d4 d5 w0 _ ?_ ?_ A13.out).mono ?_); exact tI; exact tB; rintro e w16 ⟨rfl, hi, hb, hk⟩; refine ⟨_, rfl, ?_⟩; obtain ⟨HK, HB, HI0⟩ := k3 (kt hk) hb hi; clear hb hk hi) | (go_at_call 34; (with_reducible refine (spec_reader_digits.calls kj2 g d4 d5 f4 f5 f6 w0 _ ?_ ?_ A15.out).mono ?_); exact tI; exact tB; rintro e w17 ⟨rfl, hi, hb, hk⟩; obtain ⟨HK, HB, HI0⟩ := k3 (kt hk) hb hi; clear hb hk hi)); go_meet
      case rel => exact ⟨_, (!f4), (f5), (f6), tF, H', ⟨by have := HJ2.out; first | omega | exact Nat.le_refl _⟩, ⟨tI⟩, ⟨tK⟩, ⟨tB⟩⟩
     ·replace c14 := Bool.eq_false_iff.mpr c14; subst c14; rw [if_neg (show ¬ (false = true) by decide)] at H; have H' := sd H; clear H; go_wp2_with (first | ((with_reducible refine gate_callee (f := 32) rfl ?_); refine goesL_ (some 14) rfl rfl Tryz.func32 (by kernel_rfl) rfl #[.pointer (some ⟨g, 0, none⟩), .int .u8 46] rfl tM ?_; (with_reducible refine (spec_reader_take.calls g b1 b2 46 false d4 d5 w0 _ ?_ ?_ A13.out).mono ?_); exact tI; exact tB; rintro e w18 ⟨rfl, hi, hb, hk⟩; refine ⟨_, rfl, ?_⟩; obtain ⟨HK, HB, HI0⟩ := k3 (kt hk) hb hi; clear hb hk hi)); go_meet
      case rel => exact ⟨_, (false), (d4), (d5), tF, H', ⟨by have := HJ2.out; first | omega | exact Nat.le_refl _⟩, ⟨tI⟩, ⟨tK⟩, ⟨tB⟩⟩
    case rest =>
     clear HC12; obtain ⟨kq, x19_11, a7, a8, rfl, HA, HJ11, HI0, HK, HB⟩ := hcut
     cases kq with
     | zero => exact absurd HA.out (by simp [spec_reader_number.j1])
     | succ kj11 =>
      have H := HA.out; clear HA; simp only [spec_reader_number.j1] at H
      by_cases c19 : x19_11 = true
      ·subst c19; rw [if_pos rfl] at H; simp only [Option.some.injEq, Prod.mk.injEq] at H; obtain ⟨rfl, rfl, rfl⟩ := H; go_wp2; go_ret; exact ⟨tE, tI, tB, tK⟩
      ·replace c19 := Bool.eq_false_iff.mpr c19; subst c19; rw [if_neg (show ¬ (false = true) by decide)] at H; have HC20 := sd H; clear H; go_upto_region 6 with (fail)
       go_cut [25] (fun v25 wc => ∃ (kq : Nat) (x25_19 : Bool) (a9 : ByteArray) (b0 : Int), v25 = .bool x25_19 ∧ Aside0 (spec_reader_number.j2 kq x25_19 a9 b0 = some (r1, r2, r3)) ∧ Aside0 (kq ≤ kj11) ∧ Aside0 (IsS41 w0 wc g a9 b0) ∧ Aside0 (KeepBut w wc g none) ∧ Aside0 (Below w0.heap.size w0 wc))
       case first =>
        have H := HC20.out; clear HC20; replace H := Option.bind_eq_some_iff.mp H; obtain ⟨⟨i3, d6, d7⟩, f8, H⟩ := H
        try dsimp only at H
        have A21 := sd f8; clear f8
        by_cases c22 : i3 = true
        ·subst c22; rw [if_pos rfl] at H; have H' := sd H; clear H; go_wp2_with (first | ((with_reducible refine gate_callee (f := 32) rfl ?_); refine goesL_ (some 21) rfl rfl Tryz.func32 (by kernel_rfl) rfl #[.pointer (some ⟨g, 0, none⟩), .int .u8 101] rfl tM ?_; (with_reducible refine (spec_reader_take.calls g a7 a8 101 true d6 d7 w0 _ ?_ ?_ A21.out).mono ?_); exact tI; exact tB; rintro e w23 ⟨rfl, hi, hb, hk⟩; refine ⟨_, rfl, ?_⟩; obtain ⟨HK, HB, HI0⟩ := k3 (kt hk) hb hi; clear hb hk hi)); go_meet
         case rel => exact ⟨_, (true), (d6), (d7), tF, H', ⟨by have := HJ2.out; have := HJ11.out; first | omega | exact Nat.le_refl _⟩, ⟨tI⟩, ⟨tK⟩, ⟨tB⟩⟩
        ·replace c22 := Bool.eq_false_iff.mpr c22; subst c22; rw [if_neg (show ¬ (false = true) by decide)] at H; replace H := Option.bind_eq_some_iff.mp H; obtain ⟨⟨f9, g0, g1⟩, g2, H⟩ := H
         try dsimp only at H
         have A24 := sd g2; clear g2; have H' := sd H; clear H; go_wp2_with (first | ((with_reducible refine gate_callee (f := 32) rfl ?_); refine goesL_ (some 21) rfl rfl Tryz.func32 (by kernel_rfl) rfl #[.pointer (some ⟨g, 0, none⟩), .int .u8 101] rfl tM ?_; (with_reducible refine (spec_reader_take.calls g a7 a8 101 false d6 d7 w0 _ ?_ ?_ A21.out).mono ?_); exact tI; exact tB; rintro e w25 ⟨rfl, hi, hb, hk⟩; refine ⟨_, rfl, ?_⟩; obtain ⟨HK, HB, HI0⟩ := k3 (kt hk) hb hi; clear hb hk hi) | (go_at_call 32; (with_reducible refine (spec_reader_take.calls g d6 d7 69 f9 g0 g1 w0 _ ?_ ?_ A24.out).mono ?_); exact tI; exact tB; rintro e w26 ⟨rfl, hi, hb, hk⟩; obtain ⟨HK, HB, HI0⟩ := k3 (kt hk) hb hi; clear hb hk hi)); go_meet
         case rel => exact ⟨_, (f9), (g0), (g1), tF, H', ⟨by have := HJ2.out; have := HJ11.out; first | omega | exact Nat.le_refl _⟩, ⟨tI⟩, ⟨tK⟩, ⟨tB⟩⟩
       case rest =>
        clear HC20; obtain ⟨kq, x25_19, a9, b0, rfl, HA, HJ19, HI0, HK, HB⟩ := hcut
        cases kq with
        | zero => exact absurd HA.out (by simp [spec_reader_number.j2])
        | succ kj19 =>
         have H := HA.out; clear HA; simp only [spec_reader_number.j2] at H
         by_cases c27 : x25_19 = true
         ·subst c27; rw [if_pos rfl] at H; replace H := Option.bind_eq_some_iff.mp H; obtain ⟨⟨i4, d8, d9⟩, g3, H⟩ := H
          try dsimp only at H
          have A28 := sd g3; clear g3
          by_cases c29 : i4 = true
          ·subst c29; rw [if_pos rfl] at H; replace H := Option.bind_eq_some_iff.mp H; obtain ⟨⟨i5, i6, i7⟩, g4, H⟩ := H
           try dsimp only at H
           have A30 := sd g4; clear g4; simp only [Option.some.injEq, Prod.mk.injEq] at H; obtain ⟨rfl, rfl, rfl⟩ := H
           go_wp2_with (first | ((with_reducible refine gate_callee (f := 32) rfl ?_); refine goesL_ (some 27) rfl rfl Tryz.func32 (by kernel_rfl) rfl #[.pointer (some ⟨g, 0, none⟩), .int .u8 43] rfl tM ?_; (with_reducible refine (spec_reader_take.calls g a9 b0 43 true d8 d9 w0 _ ?_ ?_ A28.out).mono ?_); exact tI; exact tB; rintro e w31 ⟨rfl, hi, hb, hk⟩; refine ⟨_, rfl, ?_⟩; obtain ⟨HK, HB, HI0⟩ := k3 (kt hk) hb hi; clear hb hk hi) | ((with_reducible refine gate_callee (f := 34) rfl ?_); refine goesL_ (some 32) rfl rfl Tryz.func34 (by kernel_rfl) rfl #[.pointer (some ⟨g, 0, none⟩)] rfl tM ?_; (with_reducible refine (spec_reader_digits.calls kj19 g d8 d9 i5 i6 i7 w0 _ ?_ ?_ A30.out).mono ?_); exact tI; exact tB; rintro e w32 ⟨rfl, hi, hb, hk⟩; refine ⟨_, rfl, ?_⟩; obtain ⟨HK, HB, HI0⟩ := k3 (kt hk) hb hi; clear hb hk hi)); go_ret; exact ⟨tE, tI, tB, tK⟩
          ·replace c29 := Bool.eq_false_iff.mpr c29; subst c29; rw [if_neg (show ¬ (false = true) by decide)] at H; replace H := Option.bind_eq_some_iff.mp H; obtain ⟨⟨i8, g5, g6⟩, g7, H⟩ := H
           try dsimp only at H
           have A33 := sd g7; clear g7; replace H := Option.bind_eq_some_iff.mp H; obtain ⟨⟨i9, j3, j4⟩, g8, H⟩ := H
           try dsimp only at H
           have A34 := sd g8; clear g8; simp only [Option.some.injEq, Prod.mk.injEq] at H; obtain ⟨rfl, rfl, rfl⟩ := H
           go_wp2_with (first | ((with_reducible refine gate_callee (f := 32) rfl ?_); refine goesL_ (some 27) rfl rfl Tryz.func32 (by kernel_rfl) rfl #[.pointer (some ⟨g, 0, none⟩), .int .u8 43] rfl tM ?_; (with_reducible refine (spec_reader_take.calls g a9 b0 43 false d8 d9 w0 _ ?_ ?_ A28.out).mono ?_); exact tI; exact tB; rintro e w35 ⟨rfl, hi, hb, hk⟩; refine ⟨_, rfl, ?_⟩; obtain ⟨HK, HB, HI0⟩ := k3 (kt hk) hb hi; clear hb hk hi) | ((with_reducible refine gate_callee (f := 32) rfl ?_); refine goesL_ (some 30) rfl rfl Tryz.func32 (by kernel_rfl) rfl #[.pointer (some ⟨g, 0, none⟩), .int .u8 45] rfl tM ?_; (with_reducible refine (spec_reader_take.calls g d8 d9 45 i8 g5 g6 w0 _ ?_ ?_ A33.out).mono ?_); exact tI; exact tB; rintro e w36 ⟨rfl, hi, hb, hk⟩; refine ⟨_, rfl, ?_⟩; obtain ⟨HK, HB, HI0⟩ := k3 (kt hk) hb hi; clear hb hk hi) | ((with_reducible refine gate_callee (f := 34) rfl ?_); refine goesL_ (some 32) rfl rfl Tryz.func34 (by kernel_rfl) rfl #[.pointer (some ⟨g, 0, none⟩)] rfl tM ?_; (with_reducible refine (spec_reader_digits.calls kj19 g g5 g6 i9 j3 j4 w0 _ ?_ ?_ A34.out).mono ?_); exact tI; exact tB; rintro e w37 ⟨rfl, hi, hb, hk⟩; refine ⟨_, rfl, ?_⟩; obtain ⟨HK, HB, HI0⟩ := k3 (kt hk) hb hi; clear hb hk hi))
           go_ret; exact ⟨tE, tI, tB, tK⟩
         ·replace c27 := Bool.eq_false_iff.mpr c27; subst c27; rw [if_neg (show ¬ (false = true) by decide)] at H; simp only [Option.some.injEq, Prod.mk.injEq] at H; obtain ⟨rfl, rfl, rfl⟩ := H; go_wp2; go_ret; exact ⟨tE, tI, tB, tK⟩
end Go.Proofs.YtdacgdjjdifneaaGreatDoor.PFnGjFlattenOften
