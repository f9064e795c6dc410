/- Walks of the functions that the law calls, printed by program and rewritten. -/
import Derived.Test.YthgpfljhmhkaiacGreatDoorV0
import Derived.Test.YthgpfljhmhkaiacGreatDoorV1
import Derived.Test.YthgpfljhmhkaiacGreatDoorV2
set_option linter.all false
namespace Go.Proofs.YthgpfljhmhkaiacGreatDoor.PFnJrTypedMisses
open Go.RowKit Go.Proofs.YthgpfljhmhkaiacGreatDoorW.PrintWords Go.Proofs.YthgpfljhmhkaiacGreatDoorW.PrintLast Go.Proofs.YthgpfljhmhkaiacGreatDoorW.PrintMore
attribute [local go_sem] max2_int min2_int max_two min_two max_three min_three max_four min_four
/-! ### spec_reader_number: function 69 -/
mutual
def spec_reader_number.j0 : Nat → Bool → ByteArray → Int → Option (Bool × ByteArray × Int)
 | 0, _, _, _ => none
 | k + 1, x12, a7, a8 => if x12 = true then (some (false, a7, a8)) else ((spec_reader_take.f a7 a8 46).bind fun b2 => (if b2.1 = true then ((spec_reader_digits.f k b2.2.1 b2.2.2).bind fun b6 => (spec_reader_number.j1 k (!b6.1) b6.2.1 b6.2.2)) else (spec_reader_number.j1 k false b2.2.1 b2.2.2)))
def spec_reader_number.j1 : Nat → Bool → ByteArray → Int → Option (Bool × ByteArray × Int)
 | 0, _, _, _ => none
 | k + 1, x19, a7, a8 => if x19 = true then (some (false, a7, a8)) else ((spec_reader_take.f a7 a8 101).bind fun b3 => (if b3.1 = true then (spec_reader_number.j2 k true b3.2.1 b3.2.2) else ((spec_reader_take.f b3.2.1 b3.2.2 69).bind fun b7 => (spec_reader_number.j2 k b7.1 b7.2.1 b7.2.2))))
def spec_reader_number.j2 : Nat → Bool → ByteArray → Int → Option (Bool × ByteArray × Int)
 | 0, _, _, _ => none
 | k + 1, x25, a7, a8 => if x25 = true then ((spec_reader_take.f a7 a8 43).bind fun b4 => (if b4.1 = true then ((spec_reader_digits.f k b4.2.1 b4.2.2).bind fun b8 => (some (b8.1, b8.2.1, b8.2.2))) else ((spec_reader_take.f b4.2.1 b4.2.2 45).bind fun d5 => ((spec_reader_digits.f k d5.2.1 d5.2.2).bind fun b9 => (some (b9.1, b9.2.1, b9.2.2)))))) else (some (true, a7, a8))
end
def spec_reader_number.f (k : Nat) (s0_0 : ByteArray) (s0_1 : Int) : Option (Bool × ByteArray × Int) := (spec_reader_take.f s0_0 s0_1 45).bind fun b5 => ((spec_reader_take.f b5.2.1 b5.2.2 48).bind fun a2 => (if a2.1 = true then (spec_reader_number.j0 k false a2.2.1 a2.2.2) else ((spec_reader_digits.f k a2.2.1 a2.2.2).bind fun b1 => (spec_reader_number.j0 k (!b1.1) b1.2.1 b1.2.2))))
theorem spec_reader_number.mono_l : ∀ k, (∀ y0 y1 y2, LeO (spec_reader_number.j0 k y0 y1 y2) (spec_reader_number.j0 (k + 1) y0 y1 y2)) ∧ (∀ y0 y1 y2, LeO (spec_reader_number.j1 k y0 y1 y2) (spec_reader_number.j1 (k + 1) y0 y1 y2)) ∧ (∀ y0 y1 y2, LeO (spec_reader_number.j2 k y0 y1 y2) (spec_reader_number.j2 (k + 1) y0 y1 y2))
 | 0 => ⟨fun _ _ _ r h => by simp [spec_reader_number.j0] at h, fun _ _ _ r h => by simp [spec_reader_number.j1] at h, fun _ _ _ r h => by simp [spec_reader_number.j2] at h⟩
 | k + 1 => by
  obtain ⟨ih0, ih1, ih2⟩ := spec_reader_number.mono_l k
  refine ⟨?_, ?_, ?_⟩
  ·intro y0 y1 y2
   unfold spec_reader_number.j0
   repeat' first
   | (with_reducible exact ih0 _ _ _)
   | (with_reducible exact ih1 _ _ _)
   | (with_reducible exact ih2 _ _ _)
   | (with_reducible exact spec_reader_digits.mono _ _ _)
   | (with_reducible exact LeO.refl _)
   | (with_reducible exact LeO.none _)
   | (with_reducible refine LeO.ite ?_ ?_)
   | (with_reducible refine LeO.bind ?_ (fun _ => ?_))
   | exact ih0 _ _ _
   | exact ih1 _ _ _
   | exact ih2 _ _ _
   | exact spec_reader_digits.mono _ _ _
   | exact LeO.none _
   | refine LeO.ite ?_ ?_
   | refine LeO.bind ?_ (fun _ => ?_)
  ·intro y0 y1 y2
   unfold spec_reader_number.j1
   repeat' first
   | (with_reducible exact ih0 _ _ _)
   | (with_reducible exact ih1 _ _ _)
   | (with_reducible exact ih2 _ _ _)
   | (with_reducible exact spec_reader_digits.mono _ _ _)
   | (with_reducible exact LeO.refl _)
   | (with_reducible exact LeO.none _)
   | (with_reducible refine LeO.ite ?_ ?_)
   | (with_reducible refine LeO.bind ?_ (fun _ => ?_))
   | exact ih0 _ _ _
   | exact ih1 _ _ _
   | exact ih2 _ _ _
   | exact spec_reader_digits.mono _ _ _
   | exact LeO.none _
   | refine LeO.ite ?_ ?_
   | refine LeO.bind ?_ (fun _ => ?_)
  ·intro y0 y1 y2
   unfold spec_reader_number.j2
   repeat' first
   | (with_reducible exact ih0 _ _ _)
   | (with_reducible exact ih1 _ _ _)
   | (with_reducible exact ih2 _ _ _)
   | (with_reducible exact spec_reader_digits.mono _ _ _)
   | (with_reducible exact LeO.refl _)
   | (with_reducible exact LeO.none _)
   | (with_reducible refine LeO.ite ?_ ?_)
   | (with_reducible refine LeO.bind ?_ (fun _ => ?_))
   | exact ih0 _ _ _
   | exact ih1 _ _ _
   | exact ih2 _ _ _
   | exact spec_reader_digits.mono _ _ _
   | exact LeO.none _
   | refine LeO.ite ?_ ?_
   | refine LeO.bind ?_ (fun _ => ?_)
theorem spec_reader_number.mono : ∀ a0 a1 k, LeO (spec_reader_number.f k a0 a1) (spec_reader_number.f (k + 1) a0 a1) := by
 intro a0 a1 k
 obtain ⟨ih0, ih1, ih2⟩ := spec_reader_number.mono_l k
 unfold spec_reader_number.f
 repeat' first
   | (with_reducible exact ih0 _ _ _)
   | (with_reducible exact ih1 _ _ _)
   | (with_reducible exact ih2 _ _ _)
   | (with_reducible exact spec_reader_digits.mono _ _ _)
   | (with_reducible exact LeO.refl _)
   | (with_reducible exact LeO.none _)
   | (with_reducible refine LeO.ite ?_ ?_)
   | (with_reducible refine LeO.bind ?_ (fun _ => ?_))
   | exact ih0 _ _ _
   | exact ih1 _ _ _
   | exact ih2 _ _ _
   | exact spec_reader_digits.mono _ _ _
   | exact LeO.none _
   | refine LeO.ite ?_ ?_
   | refine LeO.bind ?_ (fun _ => ?_)
set_option maxHeartbeats 8000000 in
set_option maxRecDepth 100000 in
theorem spec_reader_number.calls (k : Nat) (g : Nat) (s0_0 : ByteArray) (s0_1 : Int) (r1 : Bool) (r2 : ByteArray) (r3 : Int) (w0 w : World) (hI : IsS88 w0 w g s0_0 s0_1) (hB : Below w0.heap.size w0 w) (h : spec_reader_number.f k s0_0 s0_1 = some (r1, r2, r3)) :
  Calls Tryz.prog 69 #[.pointer (some ⟨g, 0, none⟩)] w fun e w' => e = .returned (.bool r1) ∧ IsS88 w0 w' g r2 r3 ∧ Below w0.heap.size w0 w' ∧ KeepBut w w' g none := by
 have HI0 := sd hI
 have HK := sd (KeepBut.refl w g none)
 have HL := sd hB.size
 clear hI
 have HW0 := sd hB.size
 have HB := sd hB
 clear hB
 have H : ((spec_reader_take.f s0_0 s0_1 45).bind fun b5 => ((spec_reader_take.f b5.2.1 b5.2.2 48).bind fun a2 => (if a2.1 = true then (spec_reader_number.j0 k false a2.2.1 a2.2.2) else ((spec_reader_digits.f k a2.2.1 a2.2.2).bind fun b1 => (spec_reader_number.j0 k (!b1.1) b1.2.1 b1.2.2))))) = some (r1, r2, r3) := h
 clear h
 replace H := Option.bind_eq_some_iff.mp H
 obtain ⟨⟨f5, d3, d4⟩, A20, H⟩ := H
 try dsimp only at H
 have A2 := sd A20
 clear A20
 have HC3 := sd H
 clear H
 go_enter Tryz.func69, Tryz.ntmps69
 go_upto_region 2 with (first | ((with_reducible refine gate_callee (f := 86) rfl ?_); refine goesL_ (some 4) rfl rfl Tryz.func86 (by kernel_rfl) rfl #[.pointer (some ⟨g, 0, none⟩), .int .u8 45] rfl tM ?_; (with_reducible refine (spec_reader_take.calls g s0_0 s0_1 45 f5 d3 d4 w0 _ ?_ ?_ A2.out).mono ?_); exact tI; exact tB; rintro e w4 ⟨rfl, hi, hb, hk⟩; refine ⟨_, rfl, ?_⟩; have HK := sd (KeepBut.trans tK hk (.inl rfl)); have HB := sd (hb); have HI0 := sd (hi); clear hb hk hi))
 (try simp only [Act.put, List.setIfInBounds_toArray, List.set_cons_zero, List.set_cons_succ])
 go_cut [12] (fun v12 wc => ∃ (kq : Nat) (x12_2 : Bool) (a9 : ByteArray) (b0 : Int), v12 = .bool x12_2 ∧ Aside0 (spec_reader_number.j0 kq x12_2 a9 b0 = some (r1, r2, r3)) ∧ Aside0 (kq ≤ k) ∧ Aside0 (IsS88 w0 wc g a9 b0) ∧ Aside0 (KeepBut w wc g none) ∧ Aside0 (Below w0.heap.size w0 wc))
 case first =>
  have H := HC3.out
  clear HC3
  replace H := Option.bind_eq_some_iff.mp H
  obtain ⟨⟨f6, c0, c1⟩, A50, H⟩ := H
  try dsimp only at H
  have A5 := sd A50
  clear A50
  by_cases c6 : f6 = true
  ·subst c6
   rw [if_pos rfl] at H
   have H' := sd H
   clear H
   go_wp2_with (first | ((with_reducible refine gate_callee (f := 86) rfl ?_); refine goesL_ (some 6) rfl rfl Tryz.func86 (by kernel_rfl) rfl #[.pointer (some ⟨g, 0, none⟩), .int .u8 48] rfl tM ?_; (with_reducible refine (spec_reader_take.calls g d3 d4 48 true c0 c1 w0 _ ?_ ?_ A5.out).mono ?_); exact tI; exact tB; rintro e w7 ⟨rfl, hi, hb, hk⟩; refine ⟨_, rfl, ?_⟩; have HK := sd (KeepBut.trans tK hk (.inl rfl)); have HB := sd (hb); have HI0 := sd (hi); clear hb hk hi))
   go_meet
   case rel => exact ⟨_, (false), (c0), (c1), tF, H', ⟨by first | omega | exact Nat.le_refl _⟩, ⟨tI⟩, ⟨tK⟩, ⟨tB⟩⟩
  ·replace c6 := Bool.eq_false_iff.mpr c6
   subst c6
   rw [if_neg (show ¬ (false = true) by decide)] at H
   replace H := Option.bind_eq_some_iff.mp H
   obtain ⟨⟨d6, d7, d8⟩, A80, H⟩ := H
   try dsimp only at H
   have A8 := sd A80
   clear A80
   have H' := sd H
   clear H
   go_wp2_with (first | ((with_reducible refine gate_callee (f := 86) rfl ?_); refine goesL_ (some 6) rfl rfl Tryz.func86 (by kernel_rfl) rfl #[.pointer (some ⟨g, 0, none⟩), .int .u8 48] rfl tM ?_; (with_reducible refine (spec_reader_take.calls g d3 d4 48 false c0 c1 w0 _ ?_ ?_ A5.out).mono ?_); exact tI; exact tB; rintro e w9 ⟨rfl, hi, hb, hk⟩; refine ⟨_, rfl, ?_⟩; have HK := sd (KeepBut.trans tK hk (.inl rfl)); have HB := sd (hb); have HI0 := sd (hi); clear hb hk hi) | (go_at_call 88; (with_reducible refine (spec_reader_digits.calls k g c0 c1 d6 d7 d8 w0 _ ?_ ?_ A8.out).mono ?_); exact tI; exact tB; rintro e w10 ⟨rfl, hi, hb, hk⟩; have HK := sd (KeepBut.trans tK hk (.inl rfl)); have HB := sd (hb); have HI0 := sd (hi); clear hb hk hi))
   go_meet
   case rel => exact ⟨_, (!d6), (d7), (d8), tF, H', ⟨by first | omega | exact Nat.le_refl _⟩, ⟨tI⟩, ⟨tK⟩, ⟨tB⟩⟩
 case rest =>
  clear HC3
  obtain ⟨kq, x12_2, a9, b0, rfl, HA, HJ2, HI0, HK, HB⟩ := hcut
  cases kq with
  | zero => exact absurd HA.out (by simp [spec_reader_number.j0])
  | succ kj2 =>
   have H := HA.out
   clear HA
   simp only [spec_reader_number.j0] at H
   by_cases c11 : x12_2 = true
   ·subst c11
    rw [if_pos rfl] at H
    simp only [Option.some.injEq, Prod.mk.injEq] at H
    obtain ⟨rfl, rfl, rfl⟩ := H
    go_wp2
    go_ret
    exact ⟨tE, tI, tB, tK⟩
   ·replace c11 := Bool.eq_false_iff.mpr c11
    subst c11
    rw [if_neg (show ¬ (false = true) by decide)] at H
    have HC12 := sd H
    clear H
    go_upto_region 4 with (fail)
    go_cut [19] (fun v19 wc => ∃ (kq : Nat) (x19_11 : Bool) (a3 : ByteArray) (a4 : Int), v19 = .bool x19_11 ∧ Aside0 (spec_reader_number.j1 kq x19_11 a3 a4 = some (r1, r2, r3)) ∧ Aside0 (kq ≤ kj2) ∧ Aside0 (IsS88 w0 wc g a3 a4) ∧ Aside0 (KeepBut w wc g none) ∧ Aside0 (Below w0.heap.size w0 wc))
    case first =>
     have H := HC12.out
     clear HC12
     replace H := Option.bind_eq_some_iff.mp H
     obtain ⟨⟨f7, c2, c4⟩, d9, H⟩ := H
     try dsimp only at H
     have A13 := sd d9
     clear d9
     by_cases c14 : f7 = true
     ·subst c14
      rw [if_pos rfl] at H
      replace H := Option.bind_eq_some_iff.mp H
      obtain ⟨⟨e0, e1, e2⟩, e3, H⟩ := H
      try dsimp only at H
      have A15 := sd e3
      clear e3
      have H' := sd H
      clear H
      go_wp2_with (first | ((with_reducible refine gate_callee (f := 86) rfl ?_); refine goesL_ (some 14) rfl rfl Tryz.func86 (by kernel_rfl) rfl #[.pointer (some ⟨g, 0, none⟩), .int .u8 46] rfl tM ?_; (with_reducible refine (spec_reader_take.calls g a9 b0 46 true c2 c4 w0 _ ?_ ?_ A13.out).mono ?_); exact tI; exact tB; rintro e w16 ⟨rfl, hi, hb, hk⟩; refine ⟨_, rfl, ?_⟩; have HK := sd (KeepBut.trans tK hk (.inl rfl)); have HB := sd (hb); have HI0 := sd (hi); clear hb hk hi) | (go_at_call 88; (with_reducible refine (spec_reader_digits.calls kj2 g c2 c4 e0 e1 e2 w0 _ ?_ ?_ A15.out).mono ?_); exact tI; exact tB; rintro e w17 ⟨rfl, hi, hb, hk⟩; have HK := sd (KeepBut.trans tK hk (.inl rfl)); have HB := sd (hb); have HI0 := sd (hi); clear hb hk hi))
      go_meet
      case rel => exact ⟨_, (!e0), (e1), (e2), tF, H', ⟨by have := HJ2.out; first | omega | exact Nat.le_refl _⟩, ⟨tI⟩, ⟨tK⟩, ⟨tB⟩⟩
     ·replace c14 := Bool.eq_false_iff.mpr c14
      subst c14
      rw [if_neg (show ¬ (false = true) by decide)] at H
      have H' := sd H
      clear H
      go_wp2_with (first | ((with_reducible refine gate_callee (f := 86) rfl ?_); refine goesL_ (some 14) rfl rfl Tryz.func86 (by kernel_rfl) rfl #[.pointer (some ⟨g, 0, none⟩), .int .u8 46] rfl tM ?_; (with_reducible refine (spec_reader_take.calls g a9 b0 46 false c2 c4 w0 _ ?_ ?_ A13.out).mono ?_); exact tI; exact tB; rintro e w18 ⟨rfl, hi, hb, hk⟩; refine ⟨_, rfl, ?_⟩; have HK := sd (KeepBut.trans tK hk (.inl rfl)); have HB := sd (hb); have HI0 := sd (hi); clear hb hk hi))
      go_meet
      case rel => exact ⟨_, (false), (c2), (c4), tF, H', ⟨by have := HJ2.out; first | omega | exact Nat.le_refl _⟩, ⟨tI⟩, ⟨tK⟩, ⟨tB⟩⟩
    case rest =>
     clear HC12
     obtain ⟨kq, x19_11, a3, a4, rfl, HA, HJ11, HI0, HK, HB⟩ := hcut
     cases kq with
     | zero => exact absurd HA.out (by simp [spec_reader_number.j1])
     | succ kj11 =>
      have H := HA.out
      clear HA
      simp only [spec_reader_number.j1] at H
      by_cases c19 : x19_11 = true
      ·subst c19
       rw [if_pos rfl] at H
       simp only [Option.some.injEq, Prod.mk.injEq] at H
       obtain ⟨rfl, rfl, rfl⟩ := H
       go_wp2
       go_ret
       exact ⟨tE, tI, tB, tK⟩
      ·replace c19 := Bool.eq_false_iff.mpr c19
       subst c19
       rw [if_neg (show ¬ (false = true) by decide)] at H
       have HC20 := sd H
       clear H
       go_upto_region 6 with (fail)
       go_cut [25] (fun v25 wc => ∃ (kq : Nat) (x25_19 : Bool) (a5 : ByteArray) (a6 : Int), v25 = .bool x25_19 ∧ Aside0 (spec_reader_number.j2 kq x25_19 a5 a6 = some (r1, r2, r3)) ∧ Aside0 (kq ≤ kj11) ∧ Aside0 (IsS88 w0 wc g a5 a6) ∧ Aside0 (KeepBut w wc g none) ∧ Aside0 (Below w0.heap.size w0 wc))
       case first =>
        have H := HC20.out
        clear HC20
        replace H := Option.bind_eq_some_iff.mp H
        obtain ⟨⟨f8, c9, d0⟩, e4, H⟩ := H
        try dsimp only at H
        have A21 := sd e4
        clear e4
        by_cases c22 : f8 = true
        ·subst c22
         rw [if_pos rfl] at H
         have H' := sd H
         clear H
         go_wp2_with (first | ((with_reducible refine gate_callee (f := 86) rfl ?_); refine goesL_ (some 21) rfl rfl Tryz.func86 (by kernel_rfl) rfl #[.pointer (some ⟨g, 0, none⟩), .int .u8 101] rfl tM ?_; (with_reducible refine (spec_reader_take.calls g a3 a4 101 true c9 d0 w0 _ ?_ ?_ A21.out).mono ?_); exact tI; exact tB; rintro e w23 ⟨rfl, hi, hb, hk⟩; refine ⟨_, rfl, ?_⟩; have HK := sd (KeepBut.trans tK hk (.inl rfl)); have HB := sd (hb); have HI0 := sd (hi); clear hb hk hi))
         go_meet
         case rel => exact ⟨_, (true), (c9), (d0), tF, H', ⟨by have := HJ2.out; have := HJ11.out; first | omega | exact Nat.le_refl _⟩, ⟨tI⟩, ⟨tK⟩, ⟨tB⟩⟩
        ·replace c22 := Bool.eq_false_iff.mpr c22
         subst c22
         rw [if_neg (show ¬ (false = true) by decide)] at H
         replace H := Option.bind_eq_some_iff.mp H
         obtain ⟨⟨e5, e6, e7⟩, e8, H⟩ := H
         try dsimp only at H
         have A24 := sd e8
         clear e8
         have H' := sd H
         clear H
         go_wp2_with (first | ((with_reducible refine gate_callee (f := 86) rfl ?_); refine goesL_ (some 21) rfl rfl Tryz.func86 (by kernel_rfl) rfl #[.pointer (some ⟨g, 0, none⟩), .int .u8 101] rfl tM ?_; (with_reducible refine (spec_reader_take.calls g a3 a4 101 false c9 d0 w0 _ ?_ ?_ A21.out).mono ?_); exact tI; exact tB; rintro e w25 ⟨rfl, hi, hb, hk⟩; refine ⟨_, rfl, ?_⟩; have HK := sd (KeepBut.trans tK hk (.inl rfl)); have HB := sd (hb); have HI0 := sd (hi); clear hb hk hi) | (go_at_call 86; (with_reducible refine (spec_reader_take.calls g c9 d0 69 e5 e6 e7 w0 _ ?_ ?_ A24.out).mono ?_); exact tI; exact tB; rintro e w26 ⟨rfl, hi, hb, hk⟩; have HK := sd (KeepBut.trans tK hk (.inl rfl)); have HB := sd (hb); have HI0 := sd (hi); clear hb hk hi))
         go_meet
         case rel => exact ⟨_, (e5), (e6), (e7), tF, H', ⟨by have := HJ2.out; have := HJ11.out; first | omega | exact Nat.le_refl _⟩, ⟨tI⟩, ⟨tK⟩, ⟨tB⟩⟩
       case rest =>
        clear HC20
        obtain ⟨kq, x25_19, a5, a6, rfl, HA, HJ19, HI0, HK, HB⟩ := hcut
        cases kq with
        | zero => exact absurd HA.out (by simp [spec_reader_number.j2])
        | succ kj19 =>
         have H := HA.out
         clear HA
         simp only [spec_reader_number.j2] at H
         by_cases c27 : x25_19 = true
         ·subst c27
          rw [if_pos rfl] at H
          replace H := Option.bind_eq_some_iff.mp H
          obtain ⟨⟨f9, d1, d2⟩, e9, H⟩ := H
          try dsimp only at H
          have A28 := sd e9
          clear e9
          by_cases c29 : f9 = true
          ·subst c29
           rw [if_pos rfl] at H
           replace H := Option.bind_eq_some_iff.mp H
           obtain ⟨⟨g0, g1, g2⟩, f0, H⟩ := H
           try dsimp only at H
           have A30 := sd f0
           clear f0
           simp only [Option.some.injEq, Prod.mk.injEq] at H
           obtain ⟨rfl, rfl, rfl⟩ := H
           go_wp2_with (first | ((with_reducible refine gate_callee (f := 86) rfl ?_); refine goesL_ (some 27) rfl rfl Tryz.func86 (by kernel_rfl) rfl #[.pointer (some ⟨g, 0, none⟩), .int .u8 43] rfl tM ?_; (with_reducible refine (spec_reader_take.calls g a5 a6 43 true d1 d2 w0 _ ?_ ?_ A28.out).mono ?_); exact tI; exact tB; rintro e w31 ⟨rfl, hi, hb, hk⟩; refine ⟨_, rfl, ?_⟩; have HK := sd (KeepBut.trans tK hk (.inl rfl)); have HB := sd (hb); have HI0 := sd (hi); clear hb hk hi) | ((with_reducible refine gate_callee (f := 88) rfl ?_); refine goesL_ (some 32) rfl rfl Tryz.func88 (by kernel_rfl) rfl #[.pointer (some ⟨g, 0, none⟩)] rfl tM ?_; (with_reducible refine (spec_reader_digits.calls kj19 g d1 d2 g0 g1 g2 w0 _ ?_ ?_ A30.out).mono ?_); exact tI; exact tB; rintro e w32 ⟨rfl, hi, hb, hk⟩; refine ⟨_, rfl, ?_⟩; have HK := sd (KeepBut.trans tK hk (.inl rfl)); have HB := sd (hb); have HI0 := sd (hi); clear hb hk hi))
           go_ret
           exact ⟨tE, tI, tB, tK⟩
          ·replace c29 := Bool.eq_false_iff.mpr c29
           subst c29
           rw [if_neg (show ¬ (false = true) by decide)] at H
           replace H := Option.bind_eq_some_iff.mp H
           obtain ⟨⟨g3, f1, f2⟩, f3, H⟩ := H
           try dsimp only at H
           have A33 := sd f3
           clear f3
           replace H := Option.bind_eq_some_iff.mp H
           obtain ⟨⟨g4, g5, g6⟩, f4, H⟩ := H
           try dsimp only at H
           have A34 := sd f4
           clear f4
           simp only [Option.some.injEq, Prod.mk.injEq] at H
           obtain ⟨rfl, rfl, rfl⟩ := H
           go_wp2_with (first | ((with_reducible refine gate_callee (f := 86) rfl ?_); refine goesL_ (some 27) rfl rfl Tryz.func86 (by kernel_rfl) rfl #[.pointer (some ⟨g, 0, none⟩), .int .u8 43] rfl tM ?_; (with_reducible refine (spec_reader_take.calls g a5 a6 43 false d1 d2 w0 _ ?_ ?_ A28.out).mono ?_); exact tI; exact tB; rintro e w35 ⟨rfl, hi, hb, hk⟩; refine ⟨_, rfl, ?_⟩; have HK := sd (KeepBut.trans tK hk (.inl rfl)); have HB := sd (hb); have HI0 := sd (hi); clear hb hk hi) | ((with_reducible refine gate_callee (f := 86) rfl ?_); refine goesL_ (some 30) rfl rfl Tryz.func86 (by kernel_rfl) rfl #[.pointer (some ⟨g, 0, none⟩), .int .u8 45] rfl tM ?_; (with_reducible refine (spec_reader_take.calls g d1 d2 45 g3 f1 f2 w0 _ ?_ ?_ A33.out).mono ?_); exact tI; exact tB; rintro e w36 ⟨rfl, hi, hb, hk⟩; refine ⟨_, rfl, ?_⟩; have HK := sd (KeepBut.trans tK hk (.inl rfl)); have HB := sd (hb); have HI0 := sd (hi); clear hb hk hi) | ((with_reducible refine gate_callee (f := 88) rfl ?_); refine goesL_ (some 32) rfl rfl Tryz.func88 (by kernel_rfl) rfl #[.pointer (some ⟨g, 0, none⟩)] rfl tM ?_; (with_reducible refine (spec_reader_digits.calls kj19 g f1 f2 g4 g5 g6 w0 _ ?_ ?_ A34.out).mono ?_); exact tI; exact tB; rintro e w37 ⟨rfl, hi, hb, hk⟩; refine ⟨_, rfl, ?_⟩; have HK := sd (KeepBut.trans tK hk (.inl rfl)); have HB := sd (hb); have HI0 := sd (hi); clear hb hk hi))
           go_ret
           exact ⟨tE, tI, tB, tK⟩
         ·replace c27 := Bool.eq_false_iff.mpr c27
          subst c27
          rw [if_neg (show ¬ (false = true) by decide)] at H
          simp only [Option.some.injEq, Prod.mk.injEq] at H
          obtain ⟨rfl, rfl, rfl⟩ := H
          go_wp2
          go_ret
          exact ⟨tE, tI, tB, tK⟩
/-! ### spec_reader_word: function 70 -/
def spec_reader_word.f (s0_0 : ByteArray) (s0_1 : Int) (a1 : ByteArray) : Option (Bool × ByteArray × Int) := if (wrap64 ((s0_0.size : Int) - s0_1)) < (a1.size : Int) then (some (false, s0_0, s0_1)) else (if 0 ≤ s0_1 then (if s0_1 ≤ (wrap64 (s0_1 + (a1.size : Int))) then (if (wrap64 (s0_1 + (a1.size : Int))) ≤ (s0_0.size : Int) then (if (s0_0.extract (s0_1 : Int).toNat ((wrap64 (s0_1 + (a1.size : Int))) : Int).toNat).toList = a1.toList then (some (true, s0_0, wrap64 (s0_1 + (a1.size : Int)))) else (some (false, s0_0, s0_1))) else (none)) else (none)) else (none))
set_option maxHeartbeats 8000000 in
set_option maxRecDepth 100000 in
theorem spec_reader_word.calls (g : Nat) (s0_0 : ByteArray) (s0_1 : Int) (a1 : ByteArray) (r1 : Bool) (r2 : ByteArray) (r3 : Int) (w0 w : World) (hI : IsS88 w0 w g s0_0 s0_1) (hB : Below w0.heap.size w0 w) (h : spec_reader_word.f s0_0 s0_1 a1 = some (r1, r2, r3)) :
  Calls Tryz.prog 70 #[.pointer (some ⟨g, 0, none⟩), .string a1] w fun e w' => e = .returned (.bool r1) ∧ IsS88 w0 w' g r2 r3 ∧ Below w0.heap.size w0 w' ∧ KeepBut w w' g none := by
 have HI0 := sd hI
 have HK := sd (KeepBut.refl w g none)
 have HL := sd hB.size
 clear hI
 have HW0 := sd hB.size
 have HB := sd hB
 clear hB
 have H : (if (wrap64 ((s0_0.size : Int) - s0_1)) < (a1.size : Int) then (some (false, s0_0, s0_1)) else (if 0 ≤ s0_1 then (if s0_1 ≤ (wrap64 (s0_1 + (a1.size : Int))) then (if (wrap64 (s0_1 + (a1.size : Int))) ≤ (s0_0.size : Int) then (if (s0_0.extract (s0_1 : Int).toNat ((wrap64 (s0_1 + (a1.size : Int))) : Int).toNat).toList = a1.toList then (some (true, s0_0, wrap64 (s0_1 + (a1.size : Int)))) else (some (false, s0_0, s0_1))) else (none)) else (none)) else (none))) = some (r1, r2, r3) := h
 clear h
 by_cases c3 : (wrap64 ((s0_0.size : Int) - s0_1)) < (a1.size : Int)
 ·rw [if_pos c3] at H
  have c3b0 : decide ((wrap64 ((s0_0.size : Int) - s0_1)) < (a1.size : Int)) = true := decide_eq_true c3
  clear c3
  simp only [Option.some.injEq, Prod.mk.injEq] at H
  obtain ⟨rfl, rfl, rfl⟩ := H
  obtain ⟨z0, z1, y0, y1⟩ := IsS88.cells HI0.out
  go_enter Tryz.func70, Tryz.ntmps70
  go_wp2
  repeat (go_quiet (fail); try go_wp2)
  go_ret
  exact ⟨tE, tI, tB, tK⟩
 ·rw [if_neg c3] at H
  have c3b0 : decide ((wrap64 ((s0_0.size : Int) - s0_1)) < (a1.size : Int)) = false := decide_eq_false c3
  clear c3
  by_cases c5 : 0 ≤ s0_1
  ·rw [if_pos c5] at H
   have c5b0 := eq_true c5
   have c5b1 : decide (0 ≤ s0_1) = true := decide_eq_true c5
   clear c5
   by_cases c6 : s0_1 ≤ (wrap64 (s0_1 + (a1.size : Int)))
   ·rw [if_pos c6] at H
    have c6b0 := eq_true c6
    have c6b1 : decide (s0_1 ≤ (wrap64 (s0_1 + (a1.size : Int)))) = true := decide_eq_true c6
    by_cases c7 : (wrap64 (s0_1 + (a1.size : Int))) ≤ (s0_0.size : Int)
    ·rw [if_pos c7] at H
     have c7b0 := eq_true c7
     have c7b1 : decide ((wrap64 (s0_1 + (a1.size : Int))) ≤ (s0_0.size : Int)) = true := decide_eq_true c7
     by_cases c8 : (s0_0.extract (s0_1 : Int).toNat ((wrap64 (s0_1 + (a1.size : Int))) : Int).toNat).toList = a1.toList
     ·rw [if_pos c8] at H
      have c8b0 : ((s0_0.extract (s0_1 : Int).toNat ((wrap64 (s0_1 + (a1.size : Int))) : Int).toNat).toList == a1.toList) = true := beq_iff_eq.mpr c8
      have c8b1 : ((s0_0.extract (s0_1 : Int).toNat ((wrap64 (s0_1 + (a1.size : Int))) : Int).toNat).toList != a1.toList) = false := bne_eq_false_iff_eq.mpr c8
      clear c8
      simp only [Option.some.injEq, Prod.mk.injEq] at H
      obtain ⟨rfl, rfl, rfl⟩ := H
      obtain ⟨z0, z1, y0, y1⟩ := IsS88.cells HI0.out
      go_enter Tryz.func70, Tryz.ntmps70
      go_wp2
      repeat (go_quiet (fail); try go_wp2)
      go_ret
      exact ⟨tE, tI, tB, tK⟩
     ·rw [if_neg c8] at H
      have c8b0 : ((s0_0.extract (s0_1 : Int).toNat ((wrap64 (s0_1 + (a1.size : Int))) : Int).toNat).toList == a1.toList) = false := beq_eq_false_iff_ne.mpr c8
      have c8b1 : ((s0_0.extract (s0_1 : Int).toNat ((wrap64 (s0_1 + (a1.size : Int))) : Int).toNat).toList != a1.toList) = true := bne_iff_ne.mpr c8
      simp only [Option.some.injEq, Prod.mk.injEq] at H
      obtain ⟨rfl, rfl, rfl⟩ := H
      obtain ⟨z0, z1, y0, y1⟩ := IsS88.cells HI0.out
      go_enter Tryz.func70, Tryz.ntmps70
      go_wp2
      repeat (go_quiet (fail); try go_wp2)
      go_ret
      exact ⟨tE, tI, tB, tK⟩
    ·rw [if_neg c7] at H
     exact absurd H (by simp)
   ·rw [if_neg c6] at H
    exact absurd H (by simp)
  ·rw [if_neg c5] at H
   exact absurd H (by simp)
end Go.Proofs.YthgpfljhmhkaiacGreatDoor.PFnJrTypedMisses
