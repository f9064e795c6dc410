/- Walks of the functions that the law calls, printed by program and rewritten. -/
import Derived.Test.YtaihmpdhaikfkaaGreatDoorV0
set_option linter.all false
namespace Go.Proofs.YtaihmpdhaikfkaaGreatDoor.PFnFjFloat
open Go.RowKit Go.Proofs.YtaihmpdhaikfkaaGreatDoorW.PrintWords Go.Proofs.YtaihmpdhaikfkaaGreatDoorW.PrintLast Go.Proofs.YtaihmpdhaikfkaaGreatDoorW.PrintMore
attribute [local go_sem] max2_int min2_int max_two min_two max_three min_three max_four min_four
/-! ### spec_bare: function 24 -/
mutual
def spec_bare.j1 : Nat → List Int → Int → Option (ByteArray × Int)
 | 0, _, _ => none
 | k + 1, x0, x1 => spec_bare.l1 k x0 x1
def spec_bare.l1 : Nat → List Int → Int → Option (ByteArray × Int)
 | 0, _, _ => none
 | k + 1, x0, x1 => if (x0.length : Int) > 0 then (if 0 ≤ (wrap64 ((x0.length : Int) - 1)) then (if (wrap64 ((x0.length : Int) - 1)) < (x0.length : Int) then (if (rd x0 (wrap64 ((x0.length : Int) - 1))) = 48 then (if (wrap64 ((x0.length : Int) - 1)) ≤ (x0.length : Int) then (spec_bare.l1 k (x0.take ((wrap64 ((x0.length : Int) - 1)) : Int).toNat) (wrap64 (x1 + 1))) else (none)) else (if (x0.length : Int) = 0 then (some (strOfNums x0, 0)) else (some (strOfNums x0, x1)))) else (none)) else (none)) else (if (x0.length : Int) = 0 then (some (strOfNums x0, 0)) else (some (strOfNums x0, x1)))
def spec_bare.l0 : Nat → List Int → Int → Option (ByteArray × Int)
 | 0, _, _ => none
 | k + 1, x0, x1 => if (x0.length : Int) > 0 then (if 0 < (x0.length : Int) then (if (rd x0 0) = 48 then (if 1 ≤ (x0.length : Int) then (spec_bare.l0 k (x0.drop 1) x1) else (none)) else (spec_bare.j1 k x0 x1)) else (none)) else (spec_bare.j1 k x0 x1)
end
def spec_bare.f (k : Nat) (l0 : List Int) (a1 : Int) : Option (ByteArray × Int) := spec_bare.l0 k l0 a1
set_option maxHeartbeats 8000000 in
set_option maxRecDepth 100000 in
theorem spec_bare.calls (k : Nat) (P0_ : Nat → Prop) (A0 : Option Addr) (c0 : Nat) (l0 : List Int) (a1 : Int) (r1 : ByteArray) (r2 : Int) (w : World) (hs0 : Kd.V (Kd.int .u8) 5 w w.heap.size (fun k_ => P0_ k_) (.slice A0 l0.length c0) l0) (h : spec_bare.f k l0 a1 = some (r1, r2)) :
  Calls Tryz.prog 24 #[.slice A0 l0.length c0, .int .i64 a1] w fun e w' => e = .returned (.tuple #[.string r1, .int .i64 r2]) ∧ Below w.heap.size w w' := by
 have HO0 := sd (show Kd.V (Kd.int .u8) 5 w w.heap.size (fun k_ => (P0_ k_ ∨ w.heap.size ≤ k_)) (.slice A0 l0.length c0) l0 from Kd.V_mono hs0 (fun k_ hk => .inl hk))
 have HB := sd (Below.refl w.heap.size w)
 have H : (spec_bare.l0 k l0 a1) = some (r1, r2) := h
 clear h
 have HC3 := sd H
 clear H
 go_enter Tryz.func24, Tryz.ntmps24
 go_upto_block 0 with (fail)
 go_cut [0] (fun v0 wc => ∃ (kq : Nat) (x0_2 : List Int), Aside0 (spec_bare.j1 kq x0_2 a1 = some (r1, r2)) ∧ Aside0 (kq ≤ k) ∧ Aside0 (Kd.V (Kd.int .u8) 5 wc w.heap.size (fun k_ => (P0_ k_ ∨ w.heap.size ≤ k_)) v0 x0_2) ∧ Aside0 (Below w.heap.size w wc))
 case first =>
  have H := HC3.out
  clear HC3
  have H' := sd H
  clear H
  go_wp2
  (try simp only [Act.put, List.setIfInBounds_toArray, List.set_cons_zero, List.set_cons_succ])
  go_loopg [0] k (fun kq v0 w' => ∃ (x0_1 : List Int), Aside0 (spec_bare.l0 kq x0_1 a1 = some (r1, r2)) ∧ Aside0 (kq ≤ k) ∧ Aside0 (Kd.V (Kd.int .u8) 5 w' w.heap.size (fun k_ => (P0_ k_ ∨ w.heap.size ≤ k_)) v0 x0_1) ∧ Aside0 (Below w.heap.size w w'))
  case atStart => exact ⟨(l0), H', ⟨Nat.le_refl _⟩, ⟨uV HO0.out⟩, ⟨tB⟩⟩
  case round =>
   clear H'
   obtain ⟨x0_1, HA, HK1, HO_0, HB⟩ := hrel
   cases gk with
   | zero => exact absurd HA.out (by simp [spec_bare.l0])
   | succ k1 =>
    have H := HA.out
    clear HA
    simp only [spec_bare.l0] at H
    by_cases c4 : (x0_1.length : Int) > 0
    ·rw [if_pos c4] at H
     have c4b0 : decide (0 < (x0_1.length : Int)) = true := decide_eq_true c4
     have c4b1 : decide (0 < x0_1.length) = true := decide_eq_true (by omega)
     clear c4
     (first | rw [c4b0] | (simp only [i64_w, i32_w]; rw [c4b0]) | skip)
     by_cases c5 : 0 < (x0_1.length : Int)
     ·rw [if_pos c5] at H
      have c5b0 : decide (0 < (x0_1.length : Int)) = true := decide_eq_true c5
      have c5b1 : decide (0 < x0_1.length) = true := decide_eq_true (by omega)
      clear c5
      by_cases c6 : (rd x0_1 0) = 48
      ·rw [if_pos c6] at H
       have c6b0 : ((rd x0_1 0) == 48) = true := beq_iff_eq.mpr c6
       have c6b1 : ((rd x0_1 0) != 48) = false := bne_eq_false_iff_eq.mpr c6
       clear c6
       by_cases c7 : 1 ≤ (x0_1.length : Int)
       ·rw [if_pos c7] at H
        have c7b0 := eq_true c7
        have c7b1 : decide (1 ≤ (x0_1.length : Int)) = true := decide_eq_true c7
        clear c7
        obtain ⟨a4, a7⟩ : ∃ y_ : List Int, y_ = (x0_1.drop 1) := ⟨_, rfl⟩
        replace H : (spec_bare.l0 k1 a4 a1) = some (r1, r2) := by first | (rw [a7]; with_reducible exact H) | (have H2_ := (Option.bind_some _ _).symm.trans H; rw [a7]; with_reducible exact H2_) | (have H2_ := (Option.bind_some _ _).symm.trans H; with_reducible exact H2_) | with_reducible exact H | (rw [a7]; exact H) | exact H
        have b1 := sd a7
        clear a7
        have H' := sd H
        clear H
        obtain ⟨Ao8, co8, eo8⟩ := Kd.V_slice HO_0.out
        subst eo8
        have a5 : 0 ≤ (0 : Int) := (by omega)
        have a6 : 0 < (x0_1.length : Int) := of_decide_eq_true (by first | (with_reducible assumption) | assumption)
        obtain ⟨ad415, e415, a3⟩ := Kd.at_int (Kd.V_reads' HO_0.out).2.2 0 a5 a6
        cases e415
        have qi415 : (0 < x0_1.length) = True := eq_true (by omega)
        (try rw [show ((0 : Int)).toNat = 0 from rfl] at a3)
        (try rw [Addr.add_zero'] at a3)
        replace a5 := eq_true a5
        replace a6 := eq_true a6
        have q9 : (1 : Int) ≤ ((x0_1.length : Int) : Int) := of_decide_eq_true (by first | (with_reducible assumption) | assumption)
        obtain ⟨i09, hi09, _, hsz9, _⟩ := info_parts info5
        have hroom9 : x0_1.length ≤ co8 := (Kd.V_reads' HO_0.out).2.1
        have hC9 : Kd.F (Kd.int .u8) _ _ (some ad415) x0_1.length x0_1 := (Kd.V_at (base := w.heap.size) HO_0.out).2.2
        have hcut9 := cut_from (P := Tryz.prog) 40 5 .i64 Tryz.underlying40 hi09 1 hsz9 (some ad415) x0_1.length co8 1 (by omega) q9
        have hr9 := Kd.F_cut (m := (1 : Int).toNat) (c := co8) hC9 (by omega) hroom9
        obtain ⟨A9, hA9⟩ : ∃ A1, A1 = (if co8 = (1 : Int).toNat then (some ad415) else ((some ad415) : Option Addr).map (·.add ((1 : Int).toNat * 1))) := ⟨_, rfl⟩
        obtain ⟨c9, hc9⟩ : ∃ c1, c1 = co8 - (1 : Int).toNat := ⟨_, rfl⟩
        have hy9 : a4.length = x0_1.length - (1 : Int).toNat := (by rw [b1.out, List.length_drop] <;> omega)
        rw [show (x0_1).drop (1 : Int).toNat = a4 from b1.out.symm] at hr9
        replace hr9 : Kd.F (Kd.int .u8) _ _ A9 a4.length a4 := (by rw [hA9]; exact hr9)
        rw [← hy9, ← hA9, ← hc9] at hcut9
        have b3 := sd (show Kd.V (Kd.int .u8) 5 _ w.heap.size _ (.slice A9 a4.length c9) a4 from Kd.V_mk (by rw [hy9, hc9]; exact Nat.sub_le_sub_right hroom9 _) hr9)
        have b5 := sd (show a4.length ≤ c9 from by rw [hy9, hc9]; exact Nat.sub_le_sub_right hroom9 _)
        clear hr9 hC9 hroom9 hi09 hsz9 hc9
        have KY9 := sd hy9
        have KA9 := sd hA9
        clear hy9 hA9
        replace q9 := eq_true q9
        go_wp2
        go_roundg k1
        case measure => have := HK1.out; omega
        case rel => exact ⟨(a4), H', ⟨by have := HK1.out; omega⟩, ⟨uV b3.out⟩, ⟨tB⟩⟩
       ·rw [if_neg c7] at H
        exact absurd H (by simp)
      ·rw [if_neg c6] at H
       have c6b0 : ((rd x0_1 0) == 48) = false := beq_eq_false_iff_ne.mpr c6
       have c6b1 : ((rd x0_1 0) != 48) = true := bne_iff_ne.mpr c6
       have H' := sd H
       clear H
       obtain ⟨Ao10, co10, eo10⟩ := Kd.V_slice HO_0.out
       subst eo10
       have a5 : 0 ≤ (0 : Int) := (by omega)
       have a6 : 0 < (x0_1.length : Int) := of_decide_eq_true (by first | (with_reducible assumption) | assumption)
       obtain ⟨ad415, e415, a3⟩ := Kd.at_int (Kd.V_reads' HO_0.out).2.2 0 a5 a6
       cases e415
       have qi415 : (0 < x0_1.length) = True := eq_true (by omega)
       (try rw [show ((0 : Int)).toNat = 0 from rfl] at a3)
       (try rw [Addr.add_zero'] at a3)
       replace a5 := eq_true a5
       replace a6 := eq_true a6
       go_wp2
       go_meet
       case rel => exact ⟨_, (x0_1), H', ⟨by have := HK1.out; first | omega | exact Nat.le_refl _⟩, ⟨uV HO_0.out⟩, ⟨tB⟩⟩
     ·rw [if_neg c5] at H
      exact absurd H (by simp)
    ·rw [if_neg c4] at H
     have c4b0 : decide (0 < (x0_1.length : Int)) = false := decide_eq_false c4
     have c4b1 : decide (0 < x0_1.length) = false := decide_eq_false (by omega)
     clear c4
     (first | rw [c4b0] | (simp only [i64_w, i32_w]; rw [c4b0]) | skip)
     have H' := sd H
     clear H
     obtain ⟨Ao11, co11, eo11⟩ := Kd.V_slice HO_0.out
     subst eo11
     go_wp2
     go_meet
     case rel => exact ⟨_, (x0_1), H', ⟨by have := HK1.out; first | omega | exact Nat.le_refl _⟩, ⟨uV HO_0.out⟩, ⟨tB⟩⟩
 case rest =>
  clear HC3
  obtain ⟨kq, x0_2, HA, HJ2, HO_0, HB⟩ := hcut
  cases kq with
  | zero => exact absurd HA.out (by simp [spec_bare.j1])
  | succ kj2 =>
   have H := HA.out
   clear HA
   simp only [spec_bare.j1] at H
   have H' := sd H
   clear H
   go_wp2
   (try simp only [Act.put, List.setIfInBounds_toArray, List.set_cons_zero, List.set_cons_succ])
   go_loopg [0, 1] kj2 (fun kq v0 v1 w' => ∃ (x0_2 : List Int) (x1_2 : Int), v1 = .int .i64 x1_2 ∧ Aside0 (spec_bare.l1 kq x0_2 x1_2 = some (r1, r2)) ∧ Aside0 (kq ≤ kj2) ∧ Aside0 (Kd.V (Kd.int .u8) 5 w' w.heap.size (fun k_ => (P0_ k_ ∨ w.heap.size ≤ k_)) v0 x0_2) ∧ Aside0 (Below w.heap.size w w'))
   case atStart => exact ⟨(x0_2), (a1), tF, H', ⟨Nat.le_refl _⟩, ⟨uV HO_0.out⟩, ⟨tB⟩⟩
   case round =>
    clear H'
    obtain ⟨x0_2, x1_2, rfl, HA, HK2, HO_0, HB⟩ := hrel
    cases gk with
    | zero => exact absurd HA.out (by simp [spec_bare.l1])
    | succ k2 =>
     have H := HA.out
     clear HA
     simp only [spec_bare.l1] at H
     by_cases c12 : (x0_2.length : Int) > 0
     ·rw [if_pos c12] at H
      have c12b0 : decide (0 < (x0_2.length : Int)) = true := decide_eq_true c12
      have c12b1 : decide (0 < x0_2.length) = true := decide_eq_true (by omega)
      clear c12
      obtain ⟨ji13, hji13⟩ : ∃ j_ : Int, (wrap64 ((x0_2.length : Int) - 1)) = j_ := ⟨_, rfl⟩
      replace H : (if 0 ≤ (ji13) then (if (ji13) < (x0_2.length : Int) then (if (rd x0_2 (ji13)) = 48 then (if (ji13) ≤ (x0_2.length : Int) then (spec_bare.l1 k2 (x0_2.take ((ji13) : Int).toNat) (wrap64 (x1_2 + 1))) else (none)) else (if (x0_2.length : Int) = 0 then (some (strOfNums x0_2, 0)) else (some (strOfNums x0_2, x1_2)))) else (none)) else (none)) = some (r1, r2) := by first | (rw [hji13] at H; exact H) | (simp only [hji13] at H ⊢; exact H)
      have hji13w : (IntKind.i64.wrap ((x0_2.length : Int) - 1)) = ji13 := (i64_w _).trans hji13
      by_cases c14 : 0 ≤ (ji13)
      ·rw [if_pos c14] at H
       have c14b0 : decide (0 ≤ (ji13)) = true := decide_eq_true c14
       clear c14
       by_cases c15 : (ji13) < (x0_2.length : Int)
       ·rw [if_pos c15] at H
        have c15b0 : decide ((ji13) < (x0_2.length : Int)) = true := decide_eq_true c15
        clear c15
        by_cases c16 : (rd x0_2 (ji13)) = 48
        ·rw [if_pos c16] at H
         have c16b0 : ((rd x0_2 (ji13)) == 48) = true := beq_iff_eq.mpr c16
         have c16b1 : ((rd x0_2 (ji13)) != 48) = false := bne_eq_false_iff_eq.mpr c16
         clear c16
         have c17b0 := eq_true (of_decide_eq_true (by first | (with_reducible assumption) | assumption) : 0 ≤ (ji13))
         by_cases c18 : (ji13) ≤ (x0_2.length : Int)
         ·rw [if_pos c18] at H
          have c18b0 := eq_true c18
          have c18b1 : decide ((ji13) ≤ (x0_2.length : Int)) = true := decide_eq_true c18
          clear c18
          obtain ⟨a9, a8⟩ : ∃ y_ : List Int, y_ = (x0_2.take ((ji13) : Int).toNat) := ⟨_, rfl⟩
          replace H : (spec_bare.l1 k2 a9 (wrap64 (x1_2 + 1))) = some (r1, r2) := by first | (rw [a8]; with_reducible exact H) | (have H2_ := (Option.bind_some _ _).symm.trans H; rw [a8]; with_reducible exact H2_) | (have H2_ := (Option.bind_some _ _).symm.trans H; with_reducible exact H2_) | with_reducible exact H | (rw [a8]; exact H) | exact H
          have b2 := sd a8
          clear a8
          have H' := sd H
          clear H
          obtain ⟨Ao19, co19, eo19⟩ := Kd.V_slice HO_0.out
          subst eo19
          have a0 : 0 ≤ ((ji13) : Int) := of_decide_eq_true (by first | (with_reducible assumption) | assumption)
          have a2 : (ji13) < (x0_2.length : Int) := of_decide_eq_true (by first | (with_reducible assumption) | assumption)
          obtain ⟨ad421, e421, b0⟩ := Kd.at_int (Kd.V_reads' HO_0.out).2.2 (ji13) a0 a2
          cases e421
          replace a0 := eq_true a0
          replace a2 := eq_true a2
          have q20 : ((ji13) : Int) ≤ ((x0_2.length : Int) : Int) := of_decide_eq_true (by first | (with_reducible assumption) | assumption)
          obtain ⟨i020, hi020, _, hsz20, _⟩ := info_parts info5
          have hroom20 : x0_2.length ≤ co19 := (Kd.V_reads' HO_0.out).2.1
          have hC20 : Kd.F (Kd.int .u8) _ _ (some ad421) x0_2.length x0_2 := (Kd.V_at (base := w.heap.size) HO_0.out).2.2
          have hcut20 := cut_to (P := Tryz.prog) 40 5 .i64 Tryz.underlying40 hi020 (some ad421) x0_2.length co19 (ji13) tX q20 hroom20
          have hr20 := Kd.F_take (m := ((ji13) : Int).toNat) hC20 (by omega)
          have hy20 : a9.length = ((ji13) : Int).toNat := (by rw [b2.out, List.length_take]; omega)
          rw [← b2.out] at hr20
          rw [← hy20] at hcut20
          have b4 := sd (show Kd.V (Kd.int .u8) 5 _ w.heap.size _ (.slice (some ad421) a9.length co19) a9 from Kd.V_mk (by omega) hr20)
          have b6 := sd (show a9.length ≤ co19 from by omega)
          clear hr20 hC20 hroom20 hi020 hsz20
          have KY20 := sd hy20
          clear hy20
          replace q20 := eq_true q20
          go_wp2
          go_roundg k2
          case measure => have := HJ2.out; have := HK2.out; omega
          case rel => exact ⟨(a9), (wrap64 (x1_2 + 1)), tF, H', ⟨by have := HJ2.out; have := HK2.out; omega⟩, ⟨uV b4.out⟩, ⟨tB⟩⟩
         ·rw [if_neg c18] at H
          exact absurd H (by simp)
        ·rw [if_neg c16] at H
         have c16b0 : ((rd x0_2 (ji13)) == 48) = false := beq_eq_false_iff_ne.mpr c16
         have c16b1 : ((rd x0_2 (ji13)) != 48) = true := bne_iff_ne.mpr c16
         by_cases c21 : (x0_2.length : Int) = 0
         ·rw [if_pos c21] at H
          have c21b0 : ((x0_2.length : Int) == 0) = true := beq_iff_eq.mpr c21
          have c21b1 : ((x0_2.length : Int) != 0) = false := bne_eq_false_iff_eq.mpr c21
          clear c21
          simp only [Option.some.injEq, Prod.mk.injEq] at H
          obtain ⟨rfl, rfl⟩ := H
          obtain ⟨Ao22, co22, eo22⟩ := Kd.V_slice HO_0.out
          subst eo22
          have a0 : 0 ≤ ((ji13) : Int) := of_decide_eq_true (by first | (with_reducible assumption) | assumption)
          have a2 : (ji13) < (x0_2.length : Int) := of_decide_eq_true (by first | (with_reducible assumption) | assumption)
          obtain ⟨ad421, e421, b0⟩ := Kd.at_int (Kd.V_reads' HO_0.out).2.2 (ji13) a0 a2
          cases e421
          replace a0 := eq_true a0
          replace a2 := eq_true a2
          have hcv23 := Kd.C_string (P := Tryz.prog) (c := co22) Tryz.underlying40 Tryz.underlying5 Tryz.underlying9 (Kd.V_reads' HO_0.out).2.2
          go_wp2
          go_ret2
          exact ⟨by first | rfl | (simp [errW_none, errW_some] <;> rfl) | (simp only [← hji13]; first | rfl | (simp [errW_none, errW_some] <;> rfl)) | (simp [*, errW_none, errW_some] <;> rfl), tB⟩
         ·rw [if_neg c21] at H
          have c21b0 : ((x0_2.length : Int) == 0) = false := beq_eq_false_iff_ne.mpr c21
          have c21b1 : ((x0_2.length : Int) != 0) = true := bne_iff_ne.mpr c21
          have c21b2 : ¬ (x0_2 = []) := fun h_ => c21 (by rw [h_]; rfl)
          simp only [Option.some.injEq, Prod.mk.injEq] at H
          obtain ⟨rfl, rfl⟩ := H
          obtain ⟨Ao24, co24, eo24⟩ := Kd.V_slice HO_0.out
          subst eo24
          have a0 : 0 ≤ ((ji13) : Int) := of_decide_eq_true (by first | (with_reducible assumption) | assumption)
          have a2 : (ji13) < (x0_2.length : Int) := of_decide_eq_true (by first | (with_reducible assumption) | assumption)
          obtain ⟨ad421, e421, b0⟩ := Kd.at_int (Kd.V_reads' HO_0.out).2.2 (ji13) a0 a2
          cases e421
          replace a0 := eq_true a0
          replace a2 := eq_true a2
          have hcv25 := Kd.C_string (P := Tryz.prog) (c := co24) Tryz.underlying40 Tryz.underlying5 Tryz.underlying9 (Kd.V_reads' HO_0.out).2.2
          go_wp2
          go_ret2
          exact ⟨by first | rfl | (simp [errW_none, errW_some] <;> rfl) | (simp only [← hji13]; first | rfl | (simp [errW_none, errW_some] <;> rfl)) | (simp [*, errW_none, errW_some] <;> rfl), tB⟩
       ·rw [if_neg c15] at H
        exact absurd H (by simp)
      ·rw [if_neg c14] at H
       exact absurd H (by simp)
     ·rw [if_neg c12] at H
      have c12b0 : decide (0 < (x0_2.length : Int)) = false := decide_eq_false c12
      have c12b1 : decide (0 < x0_2.length) = false := decide_eq_false (by omega)
      clear c12
      by_cases c26 : (x0_2.length : Int) = 0
      ·rw [if_pos c26] at H
       have c26b0 : ((x0_2.length : Int) == 0) = true := beq_iff_eq.mpr c26
       have c26b1 : ((x0_2.length : Int) != 0) = false := bne_eq_false_iff_eq.mpr c26
       clear c26
       simp only [Option.some.injEq, Prod.mk.injEq] at H
       obtain ⟨rfl, rfl⟩ := H
       obtain ⟨Ao27, co27, eo27⟩ := Kd.V_slice HO_0.out
       subst eo27
       have hcv28 := Kd.C_string (P := Tryz.prog) (c := co27) Tryz.underlying40 Tryz.underlying5 Tryz.underlying9 (Kd.V_reads' HO_0.out).2.2
       go_wp2
       go_ret2
       exact ⟨tE, tB⟩
      ·rw [if_neg c26] at H
       have c26b0 : ((x0_2.length : Int) == 0) = false := beq_eq_false_iff_ne.mpr c26
       have c26b1 : ((x0_2.length : Int) != 0) = true := bne_iff_ne.mpr c26
       have c26b2 : ¬ (x0_2 = []) := fun h_ => c26 (by rw [h_]; rfl)
       simp only [Option.some.injEq, Prod.mk.injEq] at H
       obtain ⟨rfl, rfl⟩ := H
       obtain ⟨Ao29, co29, eo29⟩ := Kd.V_slice HO_0.out
       subst eo29
       have hcv30 := Kd.C_string (P := Tryz.prog) (c := co29) Tryz.underlying40 Tryz.underlying5 Tryz.underlying9 (Kd.V_reads' HO_0.out).2.2
       go_wp2
       go_ret2
       exact ⟨tE, tB⟩
end Go.Proofs.YtaihmpdhaikfkaaGreatDoor.PFnFjFloat
