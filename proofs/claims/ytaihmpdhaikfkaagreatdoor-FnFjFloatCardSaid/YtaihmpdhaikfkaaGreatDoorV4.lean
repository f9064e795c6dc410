/- Walks of the functions that the law calls, printed by program and rewritten. -/
import Derived.Test.YtaihmpdhaikfkaaGreatDoorV0
import Derived.Test.YtaihmpdhaikfkaaGreatDoorV2
import Derived.Test.YtaihmpdhaikfkaaGreatDoorV3
set_option linter.all false
namespace Go.Proofs.YtaihmpdhaikfkaaGreatDoor.PFnFjFloat
open Go.RowKit Go.Proofs.YtaihmpdhaikfkaaGreatDoorW.PrintWords Go.Proofs.YtaihmpdhaikfkaaGreatDoorW.PrintLast Go.Proofs.YtaihmpdhaikfkaaGreatDoorW.PrintMore
attribute [local go_sem] max2_int min2_int max_two min_two max_three min_three max_four min_four
/-! ### spec_reader_escape: function 84 -/
mutual
def spec_reader_escape.j0 : Nat → Int → Bool → ByteArray → Int → Option (Bool × ByteArray × Int)
 | 0, _, _, _, _ => none
 | k + 1, x7, x8, a7, a6 => if x8 = true then (some (true, a7, wrap64 (a6 + 1))) else (if x7 = 117 then (spec_reader_escape.l0 k 0 a7 (wrap64 (a6 + 1))) else (some (false, a7, a6)))
def spec_reader_escape.l0 : Nat → Int → ByteArray → Int → Option (Bool × ByteArray × Int)
 | 0, _, _, _ => none
 | k + 1, x3, a7, a6 => if x3 < 4 then ((spec_reader_here.f a7 a6).bind fun b2 => ((spec_hexDigit.f k b2.1).bind fun d0 => (if d0.2 = true then (spec_reader_escape.l0 k (wrap64 (x3 + 1)) b2.2.1 (wrap64 (b2.2.2 + 1))) else (some (false, b2.2.1, b2.2.2))))) else (some (true, a7, a6))
end
def spec_reader_escape.f (k : Nat) (s0_0 : ByteArray) (s0_1 : Int) : Option (Bool × ByteArray × Int) := (spec_reader_here.f s0_0 s0_1).bind fun a2 => (if a2.1 = 34 then (spec_reader_escape.j0 k a2.1 (a2.1 == 34) a2.2.1 a2.2.2) else (if a2.1 = 92 then (spec_reader_escape.j0 k a2.1 (a2.1 == 92) a2.2.1 a2.2.2) else (if a2.1 = 47 then (spec_reader_escape.j0 k a2.1 (a2.1 == 47) a2.2.1 a2.2.2) else (if a2.1 = 98 then (spec_reader_escape.j0 k a2.1 (a2.1 == 98) a2.2.1 a2.2.2) else (if a2.1 = 102 then (spec_reader_escape.j0 k a2.1 (a2.1 == 102) a2.2.1 a2.2.2) else (if a2.1 = 110 then (spec_reader_escape.j0 k a2.1 (a2.1 == 110) a2.2.1 a2.2.2) else (if a2.1 = 114 then (spec_reader_escape.j0 k a2.1 (a2.1 == 114) a2.2.1 a2.2.2) else (spec_reader_escape.j0 k a2.1 (a2.1 == 116) a2.2.1 a2.2.2))))))))
theorem spec_reader_escape.mono_l : ∀ k, (∀ y0 y1 y2 y3, LeO (spec_reader_escape.j0 k y0 y1 y2 y3) (spec_reader_escape.j0 (k + 1) y0 y1 y2 y3)) ∧ (∀ y0 y1 y2, LeO (spec_reader_escape.l0 k y0 y1 y2) (spec_reader_escape.l0 (k + 1) y0 y1 y2))
 | 0 => ⟨fun _ _ _ _ r h => by simp [spec_reader_escape.j0] at h, fun _ _ _ r h => by simp [spec_reader_escape.l0] at h⟩
 | k + 1 => by
  obtain ⟨ih0, ih1⟩ := spec_reader_escape.mono_l k
  refine ⟨?_, ?_⟩
  ·intro y0 y1 y2 y3
   unfold spec_reader_escape.j0
   repeat' first
   | (with_reducible exact ih0 _ _ _ _)
   | (with_reducible exact ih1 _ _ _)
   | (with_reducible exact spec_hexDigit.mono _ _)
   | (with_reducible exact LeO.refl _)
   | (with_reducible exact LeO.none _)
   | (with_reducible refine LeO.ite ?_ ?_)
   | (with_reducible refine LeO.bind ?_ (fun _ => ?_))
   | exact ih0 _ _ _ _
   | exact ih1 _ _ _
   | exact spec_hexDigit.mono _ _
   | exact LeO.none _
   | refine LeO.ite ?_ ?_
   | refine LeO.bind ?_ (fun _ => ?_)
  ·intro y0 y1 y2
   unfold spec_reader_escape.l0
   repeat' first
   | (with_reducible exact ih0 _ _ _ _)
   | (with_reducible exact ih1 _ _ _)
   | (with_reducible exact spec_hexDigit.mono _ _)
   | (with_reducible exact LeO.refl _)
   | (with_reducible exact LeO.none _)
   | (with_reducible refine LeO.ite ?_ ?_)
   | (with_reducible refine LeO.bind ?_ (fun _ => ?_))
   | exact ih0 _ _ _ _
   | exact ih1 _ _ _
   | exact spec_hexDigit.mono _ _
   | exact LeO.none _
   | refine LeO.ite ?_ ?_
   | refine LeO.bind ?_ (fun _ => ?_)
theorem spec_reader_escape.mono : ∀ a0 a1 k, LeO (spec_reader_escape.f k a0 a1) (spec_reader_escape.f (k + 1) a0 a1) := by
 intro a0 a1 k
 obtain ⟨ih0, ih1⟩ := spec_reader_escape.mono_l k
 unfold spec_reader_escape.f
 repeat' first
   | (with_reducible exact ih0 _ _ _ _)
   | (with_reducible exact ih1 _ _ _)
   | (with_reducible exact spec_hexDigit.mono _ _)
   | (with_reducible exact LeO.refl _)
   | (with_reducible exact LeO.none _)
   | (with_reducible refine LeO.ite ?_ ?_)
   | (with_reducible refine LeO.bind ?_ (fun _ => ?_))
   | exact ih0 _ _ _ _
   | exact ih1 _ _ _
   | exact spec_hexDigit.mono _ _
   | exact LeO.none _
   | refine LeO.ite ?_ ?_
   | refine LeO.bind ?_ (fun _ => ?_)
set_option maxHeartbeats 8000000 in
set_option maxRecDepth 100000 in
theorem spec_reader_escape.calls (k : Nat) (g : Nat) (s0_0 : ByteArray) (s0_1 : Int) (r1 : Bool) (r2 : ByteArray) (r3 : Int) (w0 w : World) (hI : IsS70 w0 w g s0_0 s0_1) (hB : Below w0.heap.size w0 w) (h : spec_reader_escape.f k s0_0 s0_1 = some (r1, r2, r3)) :
  Calls Tryz.prog 84 #[.pointer (some ⟨g, 0, none⟩)] w fun e w' => e = .returned (.bool r1) ∧ IsS70 w0 w' g r2 r3 ∧ Below w0.heap.size w0 w' ∧ KeepBut w w' g none := by
 have HI0 := sd hI
 have HK := sd (KeepBut.refl w g none)
 have HL := sd hB.size
 clear hI
 have HW0 := sd hB.size
 have HB := sd hB
 clear hB
 have H : ((spec_reader_here.f s0_0 s0_1).bind fun a2 => (if a2.1 = 34 then (spec_reader_escape.j0 k a2.1 (a2.1 == 34) a2.2.1 a2.2.2) else (if a2.1 = 92 then (spec_reader_escape.j0 k a2.1 (a2.1 == 92) a2.2.1 a2.2.2) else (if a2.1 = 47 then (spec_reader_escape.j0 k a2.1 (a2.1 == 47) a2.2.1 a2.2.2) else (if a2.1 = 98 then (spec_reader_escape.j0 k a2.1 (a2.1 == 98) a2.2.1 a2.2.2) else (if a2.1 = 102 then (spec_reader_escape.j0 k a2.1 (a2.1 == 102) a2.2.1 a2.2.2) else (if a2.1 = 110 then (spec_reader_escape.j0 k a2.1 (a2.1 == 110) a2.2.1 a2.2.2) else (if a2.1 = 114 then (spec_reader_escape.j0 k a2.1 (a2.1 == 114) a2.2.1 a2.2.2) else (spec_reader_escape.j0 k a2.1 (a2.1 == 116) a2.2.1 a2.2.2))))))))) = some (r1, r2, r3) := h
 clear h
 replace H := Option.bind_eq_some_iff.mp H
 obtain ⟨⟨a5, b5, b6⟩, A20, H⟩ := H
 try dsimp only at H
 have A2 := sd A20
 clear A20
 have HC3 := sd H
 clear H
 go_enter Tryz.func84, Tryz.ntmps84
 go_upto_if 8 with (first | ((with_reducible refine gate_callee (f := 60) rfl ?_); refine goesL_ (some 7) rfl rfl Tryz.func60 (by kernel_rfl) rfl #[.pointer (some ⟨g, 0, none⟩)] rfl tM ?_; (with_reducible refine (spec_reader_here.calls g s0_0 s0_1 a5 b5 b6 w0 _ ?_ ?_ A2.out).mono ?_); exact tI; exact tB; rintro e w4 ⟨rfl, hi, hb, hk⟩; refine ⟨_, rfl, ?_⟩; have HK := sd (KeepBut.trans tK hk (.inl rfl)); have HB := sd (hb); have HI0 := sd (hi); clear hb hk hi))
 (try simp only [Act.put, List.setIfInBounds_toArray, List.set_cons_zero, List.set_cons_succ])
 go_cut [8] (fun v8 wc => ∃ (kq : Nat) (x8_2 : Bool), v8 = .bool x8_2 ∧ Aside0 (spec_reader_escape.j0 kq a5 x8_2 b5 b6 = some (r1, r2, r3)) ∧ Aside0 (kq ≤ k) ∧ Aside0 (IsS70 w0 wc g b5 b6) ∧ Aside0 (KeepBut w wc g none) ∧ Aside0 (Below w0.heap.size w0 wc))
 case first =>
  have H := HC3.out
  clear HC3
  by_cases c5 : a5 = 34
  ·rw [if_pos c5] at H
   have c5b0 : (a5 == 34) = true := beq_iff_eq.mpr c5
   have c5b1 : (a5 != 34) = false := bne_eq_false_iff_eq.mpr c5
   clear c5
   (first | rw [c5b0] | (simp only [i64_w, i32_w]; rw [c5b0]) | skip)
   have H' := sd H
   clear H
   go_wp2
   go_meet
   case rel => exact ⟨_, ((a5 == 34)), tF, H', ⟨by first | omega | exact Nat.le_refl _⟩, ⟨tI⟩, ⟨tK⟩, ⟨tB⟩⟩
  ·rw [if_neg c5] at H
   have c5b0 : (a5 == 34) = false := beq_eq_false_iff_ne.mpr c5
   have c5b1 : (a5 != 34) = true := bne_iff_ne.mpr c5
   (first | rw [c5b0] | (simp only [i64_w, i32_w]; rw [c5b0]) | skip)
   by_cases c6 : a5 = 92
   ·rw [if_pos c6] at H
    have c6b0 : (a5 == 92) = true := beq_iff_eq.mpr c6
    have c6b1 : (a5 != 92) = false := bne_eq_false_iff_eq.mpr c6
    clear c6
    have H' := sd H
    clear H
    go_wp2
    go_meet
    case rel => exact ⟨_, ((a5 == 92)), tF, H', ⟨by first | omega | exact Nat.le_refl _⟩, ⟨tI⟩, ⟨tK⟩, ⟨tB⟩⟩
   ·rw [if_neg c6] at H
    have c6b0 : (a5 == 92) = false := beq_eq_false_iff_ne.mpr c6
    have c6b1 : (a5 != 92) = true := bne_iff_ne.mpr c6
    by_cases c7 : a5 = 47
    ·rw [if_pos c7] at H
     have c7b0 : (a5 == 47) = true := beq_iff_eq.mpr c7
     have c7b1 : (a5 != 47) = false := bne_eq_false_iff_eq.mpr c7
     clear c7
     have H' := sd H
     clear H
     go_wp2
     go_meet
     case rel => exact ⟨_, ((a5 == 47)), tF, H', ⟨by first | omega | exact Nat.le_refl _⟩, ⟨tI⟩, ⟨tK⟩, ⟨tB⟩⟩
    ·rw [if_neg c7] at H
     have c7b0 : (a5 == 47) = false := beq_eq_false_iff_ne.mpr c7
     have c7b1 : (a5 != 47) = true := bne_iff_ne.mpr c7
     by_cases c8 : a5 = 98
     ·rw [if_pos c8] at H
      have c8b0 : (a5 == 98) = true := beq_iff_eq.mpr c8
      have c8b1 : (a5 != 98) = false := bne_eq_false_iff_eq.mpr c8
      clear c8
      have H' := sd H
      clear H
      go_wp2
      go_meet
      case rel => exact ⟨_, ((a5 == 98)), tF, H', ⟨by first | omega | exact Nat.le_refl _⟩, ⟨tI⟩, ⟨tK⟩, ⟨tB⟩⟩
     ·rw [if_neg c8] at H
      have c8b0 : (a5 == 98) = false := beq_eq_false_iff_ne.mpr c8
      have c8b1 : (a5 != 98) = true := bne_iff_ne.mpr c8
      by_cases c9 : a5 = 102
      ·rw [if_pos c9] at H
       have c9b0 : (a5 == 102) = true := beq_iff_eq.mpr c9
       have c9b1 : (a5 != 102) = false := bne_eq_false_iff_eq.mpr c9
       clear c9
       have H' := sd H
       clear H
       go_wp2
       go_meet
       case rel => exact ⟨_, ((a5 == 102)), tF, H', ⟨by first | omega | exact Nat.le_refl _⟩, ⟨tI⟩, ⟨tK⟩, ⟨tB⟩⟩
      ·rw [if_neg c9] at H
       have c9b0 : (a5 == 102) = false := beq_eq_false_iff_ne.mpr c9
       have c9b1 : (a5 != 102) = true := bne_iff_ne.mpr c9
       by_cases c10 : a5 = 110
       ·rw [if_pos c10] at H
        have c10b0 : (a5 == 110) = true := beq_iff_eq.mpr c10
        have c10b1 : (a5 != 110) = false := bne_eq_false_iff_eq.mpr c10
        clear c10
        have H' := sd H
        clear H
        go_wp2
        go_meet
        case rel => exact ⟨_, ((a5 == 110)), tF, H', ⟨by first | omega | exact Nat.le_refl _⟩, ⟨tI⟩, ⟨tK⟩, ⟨tB⟩⟩
       ·rw [if_neg c10] at H
        have c10b0 : (a5 == 110) = false := beq_eq_false_iff_ne.mpr c10
        have c10b1 : (a5 != 110) = true := bne_iff_ne.mpr c10
        by_cases c11 : a5 = 114
        ·rw [if_pos c11] at H
         have c11b0 : (a5 == 114) = true := beq_iff_eq.mpr c11
         have c11b1 : (a5 != 114) = false := bne_eq_false_iff_eq.mpr c11
         clear c11
         have H' := sd H
         clear H
         go_wp2
         go_meet
         case rel => exact ⟨_, ((a5 == 114)), tF, H', ⟨by first | omega | exact Nat.le_refl _⟩, ⟨tI⟩, ⟨tK⟩, ⟨tB⟩⟩
        ·rw [if_neg c11] at H
         have c11b0 : (a5 == 114) = false := beq_eq_false_iff_ne.mpr c11
         have c11b1 : (a5 != 114) = true := bne_iff_ne.mpr c11
         have H' := sd H
         clear H
         go_wp2
         go_meet
         case rel => exact ⟨_, ((a5 == 116)), tF, H', ⟨by first | omega | exact Nat.le_refl _⟩, ⟨tI⟩, ⟨tK⟩, ⟨tB⟩⟩
 case rest =>
  clear HC3
  obtain ⟨kq, x8_2, rfl, HA, HJ2, HI0, HK, HB⟩ := hcut
  cases kq with
  | zero => exact absurd HA.out (by simp [spec_reader_escape.j0])
  | succ kj2 =>
   have H := HA.out
   clear HA
   simp only [spec_reader_escape.j0] at H
   by_cases c12 : x8_2 = true
   ·subst c12
    rw [if_pos rfl] at H
    simp only [Option.some.injEq, Prod.mk.injEq] at H
    obtain ⟨rfl, rfl, rfl⟩ := H
    obtain ⟨z0, z1, y0, y1⟩ := IsS70.cells HI0.out
    go_wp2
    go_ret
    exact ⟨tE, tI, tB, tK⟩
   ·replace c12 := Bool.eq_false_iff.mpr c12
    subst c12
    rw [if_neg (show ¬ (false = true) by decide)] at H
    by_cases c14 : a5 = 117
    ·rw [if_pos c14] at H
     have c14b0 : (a5 == 117) = true := beq_iff_eq.mpr c14
     have c14b1 : (a5 != 117) = false := bne_eq_false_iff_eq.mpr c14
     clear c14
     have H' := sd H
     clear H
     obtain ⟨z0, z1, y0, y1⟩ := IsS70.cells HI0.out
     go_wp2
     (try simp only [Act.put, List.setIfInBounds_toArray, List.set_cons_zero, List.set_cons_succ])
     go_loopg [3] kj2 (fun kq v3 w' => ∃ (x3_2 : Int) (a8 : ByteArray) (a9 : Int), v3 = .int .i64 x3_2 ∧ Aside0 (spec_reader_escape.l0 kq x3_2 a8 a9 = some (r1, r2, r3)) ∧ Aside0 (kq ≤ kj2) ∧ Aside0 (IsS70 w0 w' g a8 a9) ∧ Aside0 (KeepBut w w' g none) ∧ Aside0 (Below w0.heap.size w0 w'))
     case atStart => exact ⟨(0), (b5), (wrap64 (b6 + 1)), tF, H', ⟨Nat.le_refl _⟩, ⟨tI⟩, ⟨tK⟩, ⟨tB⟩⟩
     case round =>
      clear H'
      obtain ⟨x3_2, a8, a9, rfl, HA, HK2, HI0, HK, HB⟩ := hrel
      cases gk with
      | zero => exact absurd HA.out (by simp [spec_reader_escape.l0])
      | succ k2 =>
       have H := HA.out
       clear HA
       simp only [spec_reader_escape.l0] at H
       by_cases c16 : x3_2 < 4
       ·rw [if_pos c16] at H
        have c16b0 : decide (x3_2 < 4) = true := decide_eq_true c16
        clear c16
        replace H := Option.bind_eq_some_iff.mp H
        obtain ⟨⟨b4, b7, b8⟩, b9, H⟩ := H
        try dsimp only at H
        have A17 := sd b9
        clear b9
        replace H := Option.bind_eq_some_iff.mp H
        obtain ⟨⟨c0, d1⟩, c1, H⟩ := H
        try dsimp only at H
        have A18 := sd c1
        clear c1
        by_cases c19 : d1 = true
        ·subst c19
         rw [if_pos rfl] at H
         have H' := sd H
         clear H
         go_wp2_with (first | ((with_reducible refine gate_callee (f := 60) rfl ?_); refine goesL_ (some 39) rfl rfl Tryz.func60 (by kernel_rfl) rfl #[.pointer (some ⟨g, 0, none⟩)] rfl tM ?_; (with_reducible refine (spec_reader_here.calls g a8 a9 b4 b7 b8 w0 _ ?_ ?_ A17.out).mono ?_); exact tI; exact tB; rintro e w20 ⟨rfl, hi, hb, hk⟩; refine ⟨_, rfl, ?_⟩; have HK := sd (KeepBut.trans tK hk (.inl rfl)); have HB := sd (hb); have HI0 := sd (hi); clear hb hk hi) | ((with_reducible refine gate_callee (f := 35) rfl ?_); refine goesL_ (some 40) rfl rfl Tryz.func35 (by kernel_rfl) rfl #[.int .u8 b4] rfl tM ?_; (with_reducible refine (spec_hexDigit.calls k2 b4 c0 true _ A18.out).mono ?_); rintro e w' ⟨rfl, ⟨nd, rfl⟩⟩; refine ⟨_, rfl, ?_⟩; (try (rw [drewN_self w20]; generalize hq_ : World.drewN w20 _ = w20; have n0_ : Aside0 (IsS70 w0 w20 g b7 b8) := ⟨by rw [← hq_]; exact tI⟩; have n1_ : Aside0 (KeepBut w w20 g none) := ⟨by rw [← hq_]; exact tK⟩; have n2_ : Aside0 (Below w0.heap.size w0 w20) := ⟨by rw [← hq_]; exact tB⟩; clear HI0 HK HB hq_; have HI0 := n0_; have HK := n1_; have HB := n2_; clear n0_ n1_ n2_)); obtain ⟨z0, z1, y0, y1⟩ := IsS70.cells HI0.out))
         go_roundg k2
         case measure => have := HJ2.out; have := HK2.out; omega
         case rel => exact ⟨(wrap64 (x3_2 + 1)), (b7), (wrap64 (b8 + 1)), tF, H', ⟨by have := HJ2.out; have := HK2.out; omega⟩, ⟨tI⟩, ⟨tK⟩, ⟨tB⟩⟩
        ·replace c19 := Bool.eq_false_iff.mpr c19
         subst c19
         rw [if_neg (show ¬ (false = true) by decide)] at H
         simp only [Option.some.injEq, Prod.mk.injEq] at H
         obtain ⟨rfl, rfl, rfl⟩ := H
         go_wp2_with (first | ((with_reducible refine gate_callee (f := 60) rfl ?_); refine goesL_ (some 39) rfl rfl Tryz.func60 (by kernel_rfl) rfl #[.pointer (some ⟨g, 0, none⟩)] rfl tM ?_; (with_reducible refine (spec_reader_here.calls g a8 a9 b4 b7 b8 w0 _ ?_ ?_ A17.out).mono ?_); exact tI; exact tB; rintro e w22 ⟨rfl, hi, hb, hk⟩; refine ⟨_, rfl, ?_⟩; have HK := sd (KeepBut.trans tK hk (.inl rfl)); have HB := sd (hb); have HI0 := sd (hi); clear hb hk hi) | ((with_reducible refine gate_callee (f := 35) rfl ?_); refine goesL_ (some 40) rfl rfl Tryz.func35 (by kernel_rfl) rfl #[.int .u8 b4] rfl tM ?_; (with_reducible refine (spec_hexDigit.calls k2 b4 c0 false _ A18.out).mono ?_); rintro e w' ⟨rfl, ⟨nd, rfl⟩⟩; refine ⟨_, rfl, ?_⟩))
         go_ret
         exact ⟨tE, tI, tB, tK⟩
       ·rw [if_neg c16] at H
        have c16b0 : decide (x3_2 < 4) = false := decide_eq_false c16
        clear c16
        simp only [Option.some.injEq, Prod.mk.injEq] at H
        obtain ⟨rfl, rfl, rfl⟩ := H
        go_wp2
        go_ret
        exact ⟨tE, tI, tB, tK⟩
    ·rw [if_neg c14] at H
     have c14b0 : (a5 == 117) = false := beq_eq_false_iff_ne.mpr c14
     have c14b1 : (a5 != 117) = true := bne_iff_ne.mpr c14
     simp only [Option.some.injEq, Prod.mk.injEq] at H
     obtain ⟨rfl, rfl, rfl⟩ := H
     go_wp2
     go_ret
     exact ⟨tE, tI, tB, tK⟩
/-! ### spec_reader_quoted: function 63 -/
def spec_reader_quoted.l0 : Nat → ByteArray → Int → Option (Bool × ByteArray × Int)
 | 0, _, _ => none
 | k + 1, a7, a6 => if a6 < (a7.size : Int) then (if 0 ≤ a6 then (if (bt a7 a6) = 34 then (some (true, a7, wrap64 (a6 + 1))) else (if (bt a7 a6) < 32 then (some (false, a7, wrap64 (a6 + 1))) else (if (bt a7 a6) = 92 then ((spec_reader_escape.f k a7 (wrap64 (a6 + 1))).bind fun b3 => (if b3.1 = true then (spec_reader_quoted.l0 k b3.2.1 b3.2.2) else (some (false, b3.2.1, b3.2.2)))) else (spec_reader_quoted.l0 k a7 (wrap64 (a6 + 1)))))) else (none)) else (some (false, a7, a6))
def spec_reader_quoted.f (k : Nat) (s0_0 : ByteArray) (s0_1 : Int) : Option (Bool × ByteArray × Int) := spec_reader_quoted.l0 k s0_0 (wrap64 (s0_1 + 1))
theorem spec_reader_quoted.mono_l : ∀ k, (∀ y0 y1, LeO (spec_reader_quoted.l0 k y0 y1) (spec_reader_quoted.l0 (k + 1) y0 y1))
 | 0 => fun _ _ r h => by simp [spec_reader_quoted.l0] at h
 | k + 1 => by
  have ih0 := spec_reader_quoted.mono_l k
  ·intro y0 y1
   unfold spec_reader_quoted.l0
   repeat' first
   | (with_reducible exact ih0 _ _)
   | (with_reducible exact spec_reader_escape.mono _ _ _)
   | (with_reducible exact LeO.refl _)
   | (with_reducible exact LeO.none _)
   | (with_reducible refine LeO.ite ?_ ?_)
   | (with_reducible refine LeO.bind ?_ (fun _ => ?_))
   | exact ih0 _ _
   | exact spec_reader_escape.mono _ _ _
   | exact LeO.none _
   | refine LeO.ite ?_ ?_
   | refine LeO.bind ?_ (fun _ => ?_)
theorem spec_reader_quoted.mono : ∀ a0 a1 k, LeO (spec_reader_quoted.f k a0 a1) (spec_reader_quoted.f (k + 1) a0 a1) := by
 intro a0 a1 k
 have ih0 := spec_reader_quoted.mono_l k
 unfold spec_reader_quoted.f
 repeat' first
   | (with_reducible exact ih0 _ _)
   | (with_reducible exact spec_reader_escape.mono _ _ _)
   | (with_reducible exact LeO.refl _)
   | (with_reducible exact LeO.none _)
   | (with_reducible refine LeO.ite ?_ ?_)
   | (with_reducible refine LeO.bind ?_ (fun _ => ?_))
   | exact ih0 _ _
   | exact spec_reader_escape.mono _ _ _
   | exact LeO.none _
   | refine LeO.ite ?_ ?_
   | refine LeO.bind ?_ (fun _ => ?_)
theorem tl4_0 {P : Prop} (h : P := by
 simp only [Option.some.injEq, Prod.mk.injEq] at H
 obtain ⟨rfl, rfl, rfl⟩ := H
 obtain ⟨z0, z1, y0, y1⟩ := IsS70.cells HI0.out
 have p5 : 0 ≤ (a3 : Int) := of_decide_eq_true (by first | (with_reducible assumption) | assumption)
 have q5 : a3 < (a4.size : Int) := of_decide_eq_true (by first | (with_reducible assumption) | assumption)
 have hx5 := bt_at a4 a3
 replace p5 := eq_true p5
 replace q5 := eq_true q5
 go_wp2
 repeat (go_quiet (fail); try go_wp2)
 go_ret
 exact ⟨tE, tI, tB, tK⟩) : P := h
set_option maxHeartbeats 8000000 in
set_option maxRecDepth 100000 in
theorem spec_reader_quoted.calls (k : Nat) (g : Nat) (s0_0 : ByteArray) (s0_1 : Int) (r1 : Bool) (r2 : ByteArray) (r3 : Int) (w0 w : World) (hI : IsS70 w0 w g s0_0 s0_1) (hB : Below w0.heap.size w0 w) (h : spec_reader_quoted.f k s0_0 s0_1 = some (r1, r2, r3)) :
  Calls Tryz.prog 63 #[.pointer (some ⟨g, 0, none⟩)] w fun e w' => e = .returned (.bool r1) ∧ IsS70 w0 w' g r2 r3 ∧ Below w0.heap.size w0 w' ∧ KeepBut w w' g none := by
 have HI0 := sd hI
 have HK := sd (KeepBut.refl w g none)
 have HL := sd hB.size
 clear hI
 have HW0 := sd hB.size
 have HB := sd hB
 clear hB
 have H : (spec_reader_quoted.l0 k s0_0 (wrap64 (s0_1 + 1))) = some (r1, r2, r3) := h
 clear h
 have H' := sd H
 clear H
 obtain ⟨z0, z1, y0, y1⟩ := IsS70.cells HI0.out
 go_enter Tryz.func63, Tryz.ntmps63
 go_wp2
 repeat (go_quiet (fail); try go_wp2)
 (try simp only [Act.put, List.setIfInBounds_toArray, List.set_cons_zero, List.set_cons_succ])
 go_loopg [] k (fun kq w' => ∃ (a4 : ByteArray) (a3 : Int), Aside0 (spec_reader_quoted.l0 kq a4 a3 = some (r1, r2, r3)) ∧ Aside0 (kq ≤ k) ∧ Aside0 (IsS70 w0 w' g a4 a3) ∧ Aside0 (KeepBut w w' g none) ∧ Aside0 (Below w0.heap.size w0 w'))
 case atStart => exact ⟨(s0_0), (wrap64 (s0_1 + 1)), H', ⟨Nat.le_refl _⟩, ⟨tI⟩, ⟨tK⟩, ⟨tB⟩⟩
 case round =>
  clear H'
  obtain ⟨a4, a3, HA, HK1, HI0, HK, HB⟩ := hrel
  cases gk with
  | zero => exact absurd HA.out (by simp [spec_reader_quoted.l0])
  | succ k1 =>
   have H := HA.out
   clear HA
   simp only [spec_reader_quoted.l0] at H
   by_cases c3 : a3 < (a4.size : Int)
   ·rw [if_pos c3] at H
    have c3b0 : decide (a3 < (a4.size : Int)) = true := decide_eq_true c3
    clear c3
    by_cases c4 : 0 ≤ a3
    ·rw [if_pos c4] at H
     have c4b0 : decide (0 ≤ a3) = true := decide_eq_true c4
     clear c4
     by_cases c6 : (bt a4 a3) = 34
     ·rw [if_pos c6] at H
      have c6b0 : ((bt a4 a3) == 34) = true := beq_iff_eq.mpr c6
      have c6b1 : ((bt a4 a3) != 34) = false := bne_eq_false_iff_eq.mpr c6
      clear c6
      exact tl4_0
     ·rw [if_neg c6] at H
      have c6b0 : ((bt a4 a3) == 34) = false := beq_eq_false_iff_ne.mpr c6
      have c6b1 : ((bt a4 a3) != 34) = true := bne_iff_ne.mpr c6
      by_cases c8 : (bt a4 a3) < 32
      ·rw [if_pos c8] at H
       have c8b0 : decide ((bt a4 a3) < 32) = true := decide_eq_true c8
       clear c8
       exact tl4_0
      ·rw [if_neg c8] at H
       have c8b0 : decide ((bt a4 a3) < 32) = false := decide_eq_false c8
       clear c8
       by_cases c10 : (bt a4 a3) = 92
       ·rw [if_pos c10] at H
        have c10b0 : ((bt a4 a3) == 92) = true := beq_iff_eq.mpr c10
        have c10b1 : ((bt a4 a3) != 92) = false := bne_eq_false_iff_eq.mpr c10
        clear c10
        replace H := Option.bind_eq_some_iff.mp H
        obtain ⟨⟨d2, b0, b1⟩, c2, H⟩ := H
        try dsimp only at H
        have A11 := sd c2
        clear c2
        by_cases c12 : d2 = true
        ·subst c12
         rw [if_pos rfl] at H
         have H' := sd H
         clear H
         obtain ⟨z0, z1, y0, y1⟩ := IsS70.cells HI0.out
         have p5 : 0 ≤ (a3 : Int) := of_decide_eq_true (by first | (with_reducible assumption) | assumption)
         have q5 : a3 < (a4.size : Int) := of_decide_eq_true (by first | (with_reducible assumption) | assumption)
         have hx5 := bt_at a4 a3
         replace p5 := eq_true p5
         replace q5 := eq_true q5
         go_wp2_with (first | (go_at_call 84; (with_reducible refine (spec_reader_escape.calls k1 g a4 (wrap64 (a3 + 1)) true b0 b1 w0 _ ?_ ?_ A11.out).mono ?_); exact tI; exact tB; rintro e w14 ⟨rfl, hi, hb, hk⟩; have HK := sd (KeepBut.trans tK hk (.inl rfl)); have HB := sd (hb); have HI0 := sd (hi); clear hb hk hi))
         repeat (go_quiet (first | (go_at_call 84; (with_reducible refine (spec_reader_escape.calls k1 g a4 (wrap64 (a3 + 1)) true b0 b1 w0 _ ?_ ?_ A11.out).mono ?_); exact tI; exact tB; rintro e w14 ⟨rfl, hi, hb, hk⟩; have HK := sd (KeepBut.trans tK hk (.inl rfl)); have HB := sd (hb); have HI0 := sd (hi); clear hb hk hi)); try go_wp2_with (first | (go_at_call 84; (with_reducible refine (spec_reader_escape.calls k1 g a4 (wrap64 (a3 + 1)) true b0 b1 w0 _ ?_ ?_ A11.out).mono ?_); exact tI; exact tB; rintro e w14 ⟨rfl, hi, hb, hk⟩; have HK := sd (KeepBut.trans tK hk (.inl rfl)); have HB := sd (hb); have HI0 := sd (hi); clear hb hk hi)))
         go_roundg k1
         case measure => have := HK1.out; omega
         case rel => exact ⟨(b0), (b1), H', ⟨by have := HK1.out; omega⟩, ⟨tI⟩, ⟨tK⟩, ⟨tB⟩⟩
        ·replace c12 := Bool.eq_false_iff.mpr c12
         subst c12
         rw [if_neg (show ¬ (false = true) by decide)] at H
         simp only [Option.some.injEq, Prod.mk.injEq] at H
         obtain ⟨rfl, rfl, rfl⟩ := H
         obtain ⟨z0, z1, y0, y1⟩ := IsS70.cells HI0.out
         have p5 : 0 ≤ (a3 : Int) := of_decide_eq_true (by first | (with_reducible assumption) | assumption)
         have q5 : a3 < (a4.size : Int) := of_decide_eq_true (by first | (with_reducible assumption) | assumption)
         have hx5 := bt_at a4 a3
         replace p5 := eq_true p5
         replace q5 := eq_true q5
         go_wp2_with (first | (go_at_call 84; (with_reducible refine (spec_reader_escape.calls k1 g a4 (wrap64 (a3 + 1)) false b0 b1 w0 _ ?_ ?_ A11.out).mono ?_); exact tI; exact tB; rintro e w16 ⟨rfl, hi, hb, hk⟩; have HK := sd (KeepBut.trans tK hk (.inl rfl)); have HB := sd (hb); have HI0 := sd (hi); clear hb hk hi))
         repeat (go_quiet (first | (go_at_call 84; (with_reducible refine (spec_reader_escape.calls k1 g a4 (wrap64 (a3 + 1)) false b0 b1 w0 _ ?_ ?_ A11.out).mono ?_); exact tI; exact tB; rintro e w16 ⟨rfl, hi, hb, hk⟩; have HK := sd (KeepBut.trans tK hk (.inl rfl)); have HB := sd (hb); have HI0 := sd (hi); clear hb hk hi)); try go_wp2_with (first | (go_at_call 84; (with_reducible refine (spec_reader_escape.calls k1 g a4 (wrap64 (a3 + 1)) false b0 b1 w0 _ ?_ ?_ A11.out).mono ?_); exact tI; exact tB; rintro e w16 ⟨rfl, hi, hb, hk⟩; have HK := sd (KeepBut.trans tK hk (.inl rfl)); have HB := sd (hb); have HI0 := sd (hi); clear hb hk hi)))
         go_ret
         exact ⟨tE, tI, tB, tK⟩
       ·rw [if_neg c10] at H
        have c10b0 : ((bt a4 a3) == 92) = false := beq_eq_false_iff_ne.mpr c10
        have c10b1 : ((bt a4 a3) != 92) = true := bne_iff_ne.mpr c10
        have H' := sd H
        clear H
        obtain ⟨z0, z1, y0, y1⟩ := IsS70.cells HI0.out
        have p5 : 0 ≤ (a3 : Int) := of_decide_eq_true (by first | (with_reducible assumption) | assumption)
        have q5 : a3 < (a4.size : Int) := of_decide_eq_true (by first | (with_reducible assumption) | assumption)
        have hx5 := bt_at a4 a3
        replace p5 := eq_true p5
        replace q5 := eq_true q5
        go_wp2
        repeat (go_quiet (fail); try go_wp2)
        go_roundg k1
        case measure => have := HK1.out; omega
        case rel => exact ⟨(a4), (wrap64 (a3 + 1)), H', ⟨by have := HK1.out; omega⟩, ⟨tI⟩, ⟨tK⟩, ⟨tB⟩⟩
    ·rw [if_neg c4] at H
     exact absurd H (by simp)
   ·rw [if_neg c3] at H
    have c3b0 : decide (a3 < (a4.size : Int)) = false := decide_eq_false c3
    clear c3
    simp only [Option.some.injEq, Prod.mk.injEq] at H
    obtain ⟨rfl, rfl, rfl⟩ := H
    obtain ⟨z0, z1, y0, y1⟩ := IsS70.cells HI0.out
    go_wp2
    repeat (go_quiet (fail); try go_wp2)
    go_ret
    exact ⟨tE, tI, tB, tK⟩
/-! ### spec_reader_word: function 64 -/
def spec_reader_word.f (s0_0 : ByteArray) (s0_1 : Int) (a1 : ByteArray) : Option (Bool × ByteArray × Int) := if (wrap64 ((s0_0.size : Int) - s0_1)) < (a1.size : Int) then (some (false, s0_0, s0_1)) else (if 0 ≤ s0_1 then (if s0_1 ≤ (wrap64 (s0_1 + (a1.size : Int))) then (if (wrap64 (s0_1 + (a1.size : Int))) ≤ (s0_0.size : Int) then (if (s0_0.extract (s0_1 : Int).toNat ((wrap64 (s0_1 + (a1.size : Int))) : Int).toNat).toList = a1.toList then (some (true, s0_0, wrap64 (s0_1 + (a1.size : Int)))) else (some (false, s0_0, s0_1))) else (none)) else (none)) else (none))
set_option maxHeartbeats 8000000 in
set_option maxRecDepth 100000 in
theorem spec_reader_word.calls (g : Nat) (s0_0 : ByteArray) (s0_1 : Int) (a1 : ByteArray) (r1 : Bool) (r2 : ByteArray) (r3 : Int) (w0 w : World) (hI : IsS70 w0 w g s0_0 s0_1) (hB : Below w0.heap.size w0 w) (h : spec_reader_word.f s0_0 s0_1 a1 = some (r1, r2, r3)) :
  Calls Tryz.prog 64 #[.pointer (some ⟨g, 0, none⟩), .string a1] w fun e w' => e = .returned (.bool r1) ∧ IsS70 w0 w' g r2 r3 ∧ Below w0.heap.size w0 w' ∧ KeepBut w w' g none := by
 have HI0 := sd hI
 have HK := sd (KeepBut.refl w g none)
 have HL := sd hB.size
 clear hI
 have HW0 := sd hB.size
 have HB := sd hB
 clear hB
 have H : (if (wrap64 ((s0_0.size : Int) - s0_1)) < (a1.size : Int) then (some (false, s0_0, s0_1)) else (if 0 ≤ s0_1 then (if s0_1 ≤ (wrap64 (s0_1 + (a1.size : Int))) then (if (wrap64 (s0_1 + (a1.size : Int))) ≤ (s0_0.size : Int) then (if (s0_0.extract (s0_1 : Int).toNat ((wrap64 (s0_1 + (a1.size : Int))) : Int).toNat).toList = a1.toList then (some (true, s0_0, wrap64 (s0_1 + (a1.size : Int)))) else (some (false, s0_0, s0_1))) else (none)) else (none)) else (none))) = some (r1, r2, r3) := h
 clear h
 by_cases c3 : (wrap64 ((s0_0.size : Int) - s0_1)) < (a1.size : Int)
 ·rw [if_pos c3] at H
  have c3b0 : decide ((wrap64 ((s0_0.size : Int) - s0_1)) < (a1.size : Int)) = true := decide_eq_true c3
  clear c3
  simp only [Option.some.injEq, Prod.mk.injEq] at H
  obtain ⟨rfl, rfl, rfl⟩ := H
  obtain ⟨z0, z1, y0, y1⟩ := IsS70.cells HI0.out
  go_enter Tryz.func64, Tryz.ntmps64
  go_wp2
  repeat (go_quiet (fail); try go_wp2)
  go_ret
  exact ⟨tE, tI, tB, tK⟩
 ·rw [if_neg c3] at H
  have c3b0 : decide ((wrap64 ((s0_0.size : Int) - s0_1)) < (a1.size : Int)) = false := decide_eq_false c3
  clear c3
  by_cases c5 : 0 ≤ s0_1
  ·rw [if_pos c5] at H
   have c5b0 := eq_true c5
   have c5b1 : decide (0 ≤ s0_1) = true := decide_eq_true c5
   clear c5
   by_cases c6 : s0_1 ≤ (wrap64 (s0_1 + (a1.size : Int)))
   ·rw [if_pos c6] at H
    have c6b0 := eq_true c6
    have c6b1 : decide (s0_1 ≤ (wrap64 (s0_1 + (a1.size : Int)))) = true := decide_eq_true c6
    by_cases c7 : (wrap64 (s0_1 + (a1.size : Int))) ≤ (s0_0.size : Int)
    ·rw [if_pos c7] at H
     have c7b0 := eq_true c7
     have c7b1 : decide ((wrap64 (s0_1 + (a1.size : Int))) ≤ (s0_0.size : Int)) = true := decide_eq_true c7
     by_cases c8 : (s0_0.extract (s0_1 : Int).toNat ((wrap64 (s0_1 + (a1.size : Int))) : Int).toNat).toList = a1.toList
     ·rw [if_pos c8] at H
      have c8b0 : ((s0_0.extract (s0_1 : Int).toNat ((wrap64 (s0_1 + (a1.size : Int))) : Int).toNat).toList == a1.toList) = true := beq_iff_eq.mpr c8
      have c8b1 : ((s0_0.extract (s0_1 : Int).toNat ((wrap64 (s0_1 + (a1.size : Int))) : Int).toNat).toList != a1.toList) = false := bne_eq_false_iff_eq.mpr c8
      clear c8
      simp only [Option.some.injEq, Prod.mk.injEq] at H
      obtain ⟨rfl, rfl, rfl⟩ := H
      obtain ⟨z0, z1, y0, y1⟩ := IsS70.cells HI0.out
      go_enter Tryz.func64, Tryz.ntmps64
      go_wp2
      repeat (go_quiet (fail); try go_wp2)
      go_ret
      exact ⟨tE, tI, tB, tK⟩
     ·rw [if_neg c8] at H
      have c8b0 : ((s0_0.extract (s0_1 : Int).toNat ((wrap64 (s0_1 + (a1.size : Int))) : Int).toNat).toList == a1.toList) = false := beq_eq_false_iff_ne.mpr c8
      have c8b1 : ((s0_0.extract (s0_1 : Int).toNat ((wrap64 (s0_1 + (a1.size : Int))) : Int).toNat).toList != a1.toList) = true := bne_iff_ne.mpr c8
      simp only [Option.some.injEq, Prod.mk.injEq] at H
      obtain ⟨rfl, rfl, rfl⟩ := H
      obtain ⟨z0, z1, y0, y1⟩ := IsS70.cells HI0.out
      go_enter Tryz.func64, Tryz.ntmps64
      go_wp2
      repeat (go_quiet (fail); try go_wp2)
      go_ret
      exact ⟨tE, tI, tB, tK⟩
    ·rw [if_neg c7] at H
     exact absurd H (by simp)
   ·rw [if_neg c6] at H
    exact absurd H (by simp)
  ·rw [if_neg c5] at H
   exact absurd H (by simp)
end Go.Proofs.YtaihmpdhaikfkaaGreatDoor.PFnFjFloat
