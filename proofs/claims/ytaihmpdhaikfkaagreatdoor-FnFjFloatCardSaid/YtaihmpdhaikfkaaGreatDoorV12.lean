/- Walks of the functions that the law calls, printed by program and rewritten. -/
import Derived.Test.YtaihmpdhaikfkaaGreatDoorV0
import Derived.Test.YtaihmpdhaikfkaaGreatDoorV11
set_option linter.all false
namespace Go.Proofs.YtaihmpdhaikfkaaGreatDoor.PFnFjFloat
open Go.RowKit Go.Proofs.YtaihmpdhaikfkaaGreatDoorW.PrintWords Go.Proofs.YtaihmpdhaikfkaaGreatDoorW.PrintLast Go.Proofs.YtaihmpdhaikfkaaGreatDoorW.PrintMore
attribute [local go_sem] max2_int min2_int max_two min_two max_three min_three max_four min_four
/-! ### spec_ofDigits: function 68 -/
def spec_ofDigits.l0 : Nat → ByteArray → List Int → Int → Option (List Int)
 | 0, _, _, _ => none
 | k + 1, x0, x3, x4 => if x4 < (x0.size : Int) then (if 0 ≤ x4 then ((spec_natural_times.f k x3 10 (((bt x0 x4) - 48) % 256)).bind fun d8 => (spec_ofDigits.l0 k x0 d8 (wrap64 (x4 + 1)))) else (none)) else (some x3)
def spec_ofDigits.f (k : Nat) (a0 : ByteArray) : Option (List Int) := spec_ofDigits.l0 k a0 ([] : List Int) 0
set_option maxHeartbeats 8000000 in
set_option maxRecDepth 100000 in
theorem spec_ofDigits.calls (k : Nat) (a0 : ByteArray) (r : List Int) (w : World) (h : spec_ofDigits.f k a0 = some r) :
  Calls Tryz.prog 68 #[.string a0] w fun e w' => ∃ v0_ : Value, e = .returned (v0_) ∧ Kd.R (Kd.int .u32) 139 w' w.heap.size (fun _ => True) v0_ r ∧ Below w.heap.size w w' := by
 have HB := sd (Below.refl w.heap.size w)
 have H : (spec_ofDigits.l0 k a0 ([] : List Int) 0) = some r := h
 clear h
 have H' := sd H
 clear H
 go_enter Tryz.func68, Tryz.ntmps68
 go_wp2
 (try simp only [Act.put, List.setIfInBounds_toArray, List.set_cons_zero, List.set_cons_succ])
 go_loopg [3, 4] k (fun kq v3 v4 w' => ∃ (x3_1 : List Int) (x4_1 : Int), v4 = .int .i64 x4_1 ∧ Aside0 (spec_ofDigits.l0 kq a0 x3_1 x4_1 = some r) ∧ Aside0 (kq ≤ k) ∧ Aside0 (Kd.R (Kd.int .u32) 139 w' w.heap.size (fun _ => True) v3 x3_1) ∧ Aside0 (Below w.heap.size w w'))
 case atStart => exact ⟨(([] : List Int)), (0), tF, H', ⟨Nat.le_refl _⟩, ⟨tN⟩, ⟨tB⟩⟩
 case round =>
  clear H'
  obtain ⟨x3_1, x4_1, rfl, HA, HK1, HO_3, HB⟩ := hrel
  cases gk with
  | zero => exact absurd HA.out (by simp [spec_ofDigits.l0])
  | succ k1 =>
   have H := HA.out
   clear HA
   simp only [spec_ofDigits.l0] at H
   by_cases c2 : x4_1 < (a0.size : Int)
   ·rw [if_pos c2] at H
    have c2b0 : decide (x4_1 < (a0.size : Int)) = true := decide_eq_true c2
    clear c2
    by_cases c3 : 0 ≤ x4_1
    ·rw [if_pos c3] at H
     have c3b0 : decide (0 ≤ x4_1) = true := decide_eq_true c3
     clear c3
     replace H := Option.bind_eq_some_iff.mp H
     obtain ⟨d8, A50, H⟩ := H
     try dsimp only at H
     have A5 := sd A50
     clear A50
     have H' := sd H
     clear H
     have p4 : 0 ≤ (x4_1 : Int) := of_decide_eq_true (by first | (with_reducible assumption) | assumption)
     have q4 : x4_1 < (a0.size : Int) := of_decide_eq_true (by first | (with_reducible assumption) | assumption)
     have hx4 := bt_at a0 x4_1
     replace p4 := eq_true p4
     replace q4 := eq_true q4
     obtain ⟨Ao6, co6, eo6⟩ := Kd.R_slice HO_3.out
     subst eo6
     go_wp2_with (first | ((with_reducible refine gate_callee (f := 85) rfl ?_); refine goesL_ (some 17) rfl rfl Tryz.func85 (by kernel_rfl) rfl #[.slice Ao6 x3_1.length co6, .int .u32 10, .int .u32 (((bt a0 x4_1) - 48) % 256)] rfl tM ?_; (with_reducible refine (spec_natural_times.calls k1 _ _ x3_1 10 (((bt a0 x4_1) - 48) % 256) d8 _ ?side1 ?side2 A5.out).mono ?_); (case side1 => repeat (first | exact (Kd.R_reads' HO_3.out).2.2 | (with_reducible refine Kd.C_alloc ?_ _) | (with_reducible refine Kd.C_drewN ?_ _) | (with_reducible refine Kd.C_drew ?_))); (case side2 => exact (Kd.R_reads' HO_3.out).2.1); rintro e w7 ⟨i2, rfl, ho0, hb⟩; refine ⟨_, rfl, ?_⟩; have f5 := sd (Kd.R_lower (Kd.R_new' ho0 (Kd.R_lt (uR HO_3.out))) (below_size tB)); have HO_3 := sd (Kd.R_elder' (uR HO_3.out) (Kd.R_base ho0) hb); have HB := sd (below_step tB hb); clear hb ho0))
     go_roundg k1
     case measure => have := HK1.out; omega
     case rel => exact ⟨(d8), (wrap64 (x4_1 + 1)), tF, H', ⟨by have := HK1.out; omega⟩, ⟨Kd.R_mono (uR f5.out) (fun _ hk => trivial)⟩, ⟨tB⟩⟩
    ·rw [if_neg c3] at H
     exact absurd H (by simp)
   ·rw [if_neg c2] at H
    have c2b0 : decide (x4_1 < (a0.size : Int)) = false := decide_eq_false c2
    clear c2
    obtain rfl := Option.some.inj H
    go_wp2
    go_ret
    exact ⟨_, tE, uR HO_3.out, tB⟩
/-! ### spec_natural_shift: function 69 -/
def spec_natural_shift.f (k : Nat) (l0 : List Int) (a1 : Int) : Option (List Int) := if (l0.length : Int) = 0 then (some l0) else (if 0 ≤ (Int.tmod a1 32) then ((spec_natural_times.f k l0 (shl .u32 1 (Int.tmod a1 32)) 0).bind fun a4 => (if 0 ≤ (wrap64 (Int.tdiv a1 32)) then (if (wrap64 (Int.tdiv a1 32) : Int).toNat ≤ 70368744177664 then ((some (List.replicate (wrap64 (Int.tdiv a1 32) : Int).toNat 0 : List Int)).bind fun a5 => (if a5.length + a4.length < 35184372088832 then (some (a5 ++ a4)) else (none))) else (none)) else (none))) else (none))
set_option maxHeartbeats 8000000 in
set_option maxRecDepth 100000 in
theorem spec_natural_shift.calls (k : Nat) (P0_ : Nat → Prop) (u9000_ : Value) (l0 : List Int) (a1 : Int) (r : List Int) (w0 w : World) (hB : Below w0.heap.size w0 w) (ho0 : Kd.R (Kd.int .u32) 139 w w0.heap.size P0_ u9000_ l0) (h : spec_natural_shift.f k l0 a1 = some r) :
  Calls Tryz.prog 69 #[u9000_, .int .i64 a1] w fun e w' => ∃ v0_ : Value, e = .returned (v0_) ∧ Kd.R (Kd.int .u32) 139 w' w0.heap.size (fun k_ => (P0_ k_ ∨ w.heap.size ≤ k_)) v0_ r ∧ Below w0.heap.size w0 w' ∧ Kept w w' (fun k_ => P0_ k_) := by
 have HO0 := sd (show Kd.R (Kd.int .u32) 139 w w0.heap.size (fun k_ => (P0_ k_ ∨ w.heap.size ≤ k_)) u9000_ l0 from Kd.R_mono ho0 (fun k_ hk => (.inl hk)))
 have HK := sd (Kept.refl w (fun k_ => P0_ k_))
 have HW0 := sd hB.size
 have HB := sd hB
 clear hB
 have H : (if (l0.length : Int) = 0 then (some l0) else (if 0 ≤ (Int.tmod a1 32) then ((spec_natural_times.f k l0 (shl .u32 1 (Int.tmod a1 32)) 0).bind fun a4 => (if 0 ≤ (wrap64 (Int.tdiv a1 32)) then (if (wrap64 (Int.tdiv a1 32) : Int).toNat ≤ 70368744177664 then ((some (List.replicate (wrap64 (Int.tdiv a1 32) : Int).toNat 0 : List Int)).bind fun a5 => (if a5.length + a4.length < 35184372088832 then (some (a5 ++ a4)) else (none))) else (none)) else (none))) else (none))) = some r := h
 clear h
 by_cases c3 : (l0.length : Int) = 0
 ·rw [if_pos c3] at H
  have c3b0 : ((l0.length : Int) == 0) = true := beq_iff_eq.mpr c3
  have c3b1 : ((l0.length : Int) != 0) = false := bne_eq_false_iff_eq.mpr c3
  clear c3
  obtain rfl := Option.some.inj H
  obtain ⟨Ao4, co4, eo4⟩ := Kd.R_slice HO0.out
  subst eo4
  go_enter Tryz.func69, Tryz.ntmps69
  go_wp2
  go_ret
  exact ⟨_, tE, uR HO0.out, tB, tK⟩
 ·rw [if_neg c3] at H
  have c3b0 : ((l0.length : Int) == 0) = false := beq_eq_false_iff_ne.mpr c3
  have c3b1 : ((l0.length : Int) != 0) = true := bne_iff_ne.mpr c3
  have c3b2 : ¬ (l0 = []) := fun h_ => c3 (by rw [h_]; rfl)
  obtain ⟨ji5, hji5⟩ : ∃ j_ : Int, (Int.tmod a1 32) = j_ := ⟨_, rfl⟩
  replace H : (if 0 ≤ (ji5) then ((spec_natural_times.f k l0 (shl .u32 1 (ji5)) 0).bind fun a4 => (if 0 ≤ (wrap64 (Int.tdiv a1 32)) then (if (wrap64 (Int.tdiv a1 32) : Int).toNat ≤ 70368744177664 then ((some (List.replicate (wrap64 (Int.tdiv a1 32) : Int).toNat 0 : List Int)).bind fun a5 => (if a5.length + a4.length < 35184372088832 then (some (a5 ++ a4)) else (none))) else (none)) else (none))) else (none)) = some r := by first | (rw [hji5] at H; exact H) | (simp only [hji5] at H ⊢; exact H)
  by_cases c6 : 0 ≤ (ji5)
  ·rw [if_pos c6] at H
   have c6b0 := eq_true c6
   have c6b1 : decide (0 ≤ (ji5)) = true := decide_eq_true c6
   clear c6
   obtain ⟨ji7, hji7⟩ : ∃ j_ : Int, (shl .u32 1 (ji5)) = j_ := ⟨_, rfl⟩
   replace H : ((spec_natural_times.f k l0 (ji7) 0).bind fun a4 => (if 0 ≤ (wrap64 (Int.tdiv a1 32)) then (if (wrap64 (Int.tdiv a1 32) : Int).toNat ≤ 70368744177664 then ((some (List.replicate (wrap64 (Int.tdiv a1 32) : Int).toNat 0 : List Int)).bind fun a5 => (if a5.length + a4.length < 35184372088832 then (some (a5 ++ a4)) else (none))) else (none)) else (none))) = some r := by first | (rw [hji7] at H; exact H) | (simp only [hji7] at H ⊢; exact H)
   have hji7_ : (IntKind.u32.wrap (1 * 2 ^ min (ji5).toNat 32)) = ji7 := hji7
   have hji7z : (ji5) ≤ 32 → (IntKind.u32.wrap (1 * 2 ^ (ji5).toNat)) = ji7 := shl_small hji7
   have hji7u : (IntKind.u32.wrap (2 ^ min (ji5).toNat 32)) = ji7 := by have h_ := hji7_; rw [Int.one_mul] at h_; exact h_
   have hji7v : (ji5) ≤ 32 → (IntKind.u32.wrap (2 ^ (ji5).toNat)) = ji7 := fun hle_ => by have h_ := hji7z hle_; rw [Int.one_mul] at h_; exact h_
   replace H := Option.bind_eq_some_iff.mp H
   obtain ⟨a4, A80, H⟩ := H
   try dsimp only at H
   have A8 := sd A80
   clear A80
   obtain ⟨ji9, hji9⟩ : ∃ j_ : Int, (wrap64 (Int.tdiv a1 32)) = j_ := ⟨_, rfl⟩
   replace H : (if 0 ≤ (ji9) then (if (ji9 : Int).toNat ≤ 70368744177664 then ((some (List.replicate (ji9 : Int).toNat 0 : List Int)).bind fun a5 => (if a5.length + a4.length < 35184372088832 then (some (a5 ++ a4)) else (none))) else (none)) else (none)) = some r := by first | (rw [hji9] at H; exact H) | (simp only [hji9] at H ⊢; exact H)
   (try rw [hji9] at A8)
   have hji9w : (IntKind.i64.wrap (Int.tdiv a1 32)) = ji9 := (i64_w _).trans hji9
   by_cases c10 : 0 ≤ (ji9)
   ·rw [if_pos c10] at H
    have c10b0 := eq_true c10
    have c10b1 : decide (0 ≤ (ji9)) = true := decide_eq_true c10
    clear c10
    by_cases c11 : (ji9 : Int).toNat ≤ 70368744177664
    ·rw [if_pos c11] at H
     have c11b0 := eq_true c11
     have c11b1 : decide ((ji9 : Int).toNat ≤ 70368744177664) = true := decide_eq_true c11
     clear c11
     obtain ⟨a5, b9⟩ : ∃ y_ : List Int, y_ = (List.replicate (ji9 : Int).toNat 0) := ⟨_, rfl⟩
     replace H : (if a5.length + a4.length < 35184372088832 then (some (a5 ++ a4)) else (none)) = some r := by first | (rw [b9]; with_reducible exact H) | (have H2_ := (Option.bind_some _ _).symm.trans H; rw [b9]; with_reducible exact H2_) | (have H2_ := (Option.bind_some _ _).symm.trans H; with_reducible exact H2_) | with_reducible exact H | (rw [b9]; exact H) | exact H
     have e5 := sd b9
     clear b9
     by_cases c12 : a5.length + a4.length < 35184372088832
     ·rw [if_pos c12] at H
      have LMc12 := sd c12
      clear c12
      obtain ⟨g2, d0⟩ : ∃ y_ : List Int, y_ = (a5 ++ a4) := ⟨_, rfl⟩
      replace H : (some g2) = some r := by first | (rw [d0]; with_reducible exact H) | (have H2_ := (Option.bind_some _ _).symm.trans H; rw [d0]; with_reducible exact H2_) | (have H2_ := (Option.bind_some _ _).symm.trans H; with_reducible exact H2_) | with_reducible exact H | (rw [d0]; exact H) | exact H
      have f6 := sd d0
      clear d0
      obtain rfl := Option.some.inj H
      obtain ⟨Ao13, co13, eo13⟩ := Kd.R_slice HO0.out
      subst eo13
      go_enter Tryz.func69, Tryz.ntmps69
      go_wp2_with (first | ((with_reducible refine gate_callee (f := 85) rfl ?_); refine goesL_ (some 14) rfl rfl Tryz.func85 (by kernel_rfl) rfl #[.slice Ao13 l0.length co13, .int .u32 ji7, .int .u32 0] rfl (by (try simp only [List.map_toArray, List.map_cons, List.map_nil]); first | done | (simp only [hji7]; rfl) | rfl | (simp only [List.length_drop, List.length_take]; rfl)) ?_; (with_reducible refine (spec_natural_times.calls k _ _ l0 ji7 0 a4 _ ?side1 ?side2 A8.out).mono ?_); (case side1 => repeat (first | exact (Kd.R_reads' HO0.out).2.2 | (with_reducible refine Kd.C_alloc ?_ _) | (with_reducible refine Kd.C_drewN ?_ _) | (with_reducible refine Kd.C_drew ?_))); (case side2 => exact (Kd.R_reads' HO0.out).2.1); rintro e w14 ⟨i3, rfl, ho0, hb⟩; refine ⟨_, rfl, ?_⟩; have b3 := sd (Kd.R_lower (Kd.R_new' (Kd.R_newM (M := fun k_ => (P0_ k_ ∨ w.heap.size ≤ k_)) ho0 (by first | exact HK.out.1 | exact (show Kept w _ (fun k_ => P0_ k_) from tK).1) (fun k_ h_ => .inr h_)) (Kd.R_lt (uR HO0.out))) (below_size tB)); have HO0 := sd (Kd.R_elder' (uR HO0.out) (Kd.R_base ho0) hb); have HK := sd (Kept.below (S := (fun k_ => P0_ k_)) tK hb); have HB := sd (below_step tB hb); clear hb ho0) | ((with_reducible refine gate_dst (N := 17) rfl ?_); refine Kd.R_make (Kd.int .u32) _ 139 rfl (N := 17) rfl 119 _ _ rfl ji9 rfl rfl Tryz.underlying119 (.int .u32 0) 4 info139 rfl (by decide) (by omega) 0 (ok := fun _ => True) (okp := fun _ => True) rfl (fun _ hk => hk) trivial tX (Nat.le_trans (Nat.mul_le_mul_right _ (of_decide_eq_true (by first | (with_reducible assumption) | assumption) : ji9.toNat ≤ 70368744177664)) (by omega)) (Below.refl _ _) (Nat.le_refl _) ?_; intro g3 w15 ho16 hb hg_ hnew_; clear hg_ hnew_; (first | rw [← e5.out] at ho16 | (simp only [Int.reduceToNat] at ho16; rw [← e5.out] at ho16)); have e6 := sd (Kd.R_lower (Kd.R_new' (Kd.R_new' (Kd.R_newM (M := fun k_ => (P0_ k_ ∨ w.heap.size ≤ k_)) ho16 (by first | exact HK.out.1 | exact (show Kept w _ (fun k_ => P0_ k_) from tK).1) (fun k_ h_ => .inr h_)) (Kd.R_lt (uR HO0.out))) (Kd.R_lt (uR b3.out))) (below_size tB)); have HO0 := sd (Kd.R_elder' (uR HO0.out) (Kd.R_base ho16) hb); have b3 := sd (Kd.R_elder' (uR b3.out) (Kd.R_base ho16) hb); have HK := sd (Kept.below (S := (fun k_ => P0_ k_)) tK hb); have HB := sd (below_step tB hb); clear hb ho16; obtain ⟨Ao18, co18, eo18⟩ := Kd.R_slice b3.out; subst eo18) | ((with_reducible refine gate_builtin (b := .append) (xs := #[.tmp 17, .tmp 18]) rfl ?_); at_builtin; refine Kd.R_append_rows (Kd.int .u32) (w0 := w0) w0.heap.size rfl (.tmp 17) (.tmp 18) 119 139 (.int .u32 0) 4 rfl Tryz.underlying119 info139 rfl (by decide) (by omega) g3 a5 a4 _ _ _ (fun k_ => (P0_ k_ ∨ w.heap.size ≤ k_) ∧ some k_ ≠ (.slice Ao13 l0.length co13 : Value).ownBlock ∧ some k_ ≠ (.slice Ao18 a4.length co18 : Value).ownBlock) (fun _ => False) rfl rfl ?aO ?aR (fun _ _ h => h) (fun _ h => h.elim) ?aF ?aB ?aS ?aL ?_; (case aR => repeat (first | exact (Kd.R_reads' b3.out).2.2 | (with_reducible refine Kd.C_alloc ?_ _) | (with_reducible refine Kd.C_drewN ?_ _) | (with_reducible refine Kd.C_drew ?_))); (case aB => exact tB); (case aF => exact (fun k_ hk => ⟨(.inr (Nat.le_trans (by first | exact HK.out.1 | exact (show Kept w _ (fun k_ => P0_ k_) from tK).1) hk)), Kd.fresh' (Kd.R_lt (uR HO0.out)) k_ hk, Kd.fresh' (Kd.R_lt (uR b3.out)) k_ hk⟩)); (case aO => exact (Kd.R_mono (uR e6.out) (fun _ hk => ⟨hk.1.1.1, ⟨hk.1.2, hk.2⟩⟩))); (case aS => exact (below_size tB)); (case aL => have := LMc12.out; omega); intro i4 w17 ho hb hg hat; rw [← f6.out] at ho; have HO0 := sd (Kd.R_after (ok := (fun k_ => (P0_ k_ ∨ w.heap.size ≤ k_) ∧ some k_ ≠ (.slice Ao18 a4.length co18 : Value).ownBlock)) (uR HO0.out) hg hat); have b3 := sd (Kd.R_after (ok := (fun k_ => (P0_ k_ ∨ w.heap.size ≤ k_) ∧ some k_ ≠ (.slice Ao13 l0.length co13 : Value).ownBlock)) (Kd.R_mono (uR b3.out) (fun _ hk => ⟨⟨hk.1.1.1, hk.1.2⟩, hk.2⟩)) hg hat); have HB := sd (hb); have HK := sd (Kept.of_grown (S := (fun k_ => P0_ k_)) hg tK (fun k_ e_ => (e6.out.1 k_ e_).1.1.1)); have f7 := sd (ho); clear ho hb hg hat))
      go_ret
      exact ⟨_, by first | rfl | (simp [errW_none, errW_some] <;> rfl) | (simp only [← hji5, ← hji7, ← hji9]; first | rfl | (simp [errW_none, errW_some] <;> rfl)) | (simp [*, errW_none, errW_some] <;> rfl), Kd.R_mono (uR f7.out) (fun _ hk => hk.1), tB, tK⟩
     ·rw [if_neg c12] at H
      exact absurd H (by simp)
    ·rw [if_neg c11] at H
     exact absurd H (by simp)
   ·rw [if_neg c10] at H
    exact absurd H (by simp)
  ·rw [if_neg c6] at H
   exact absurd H (by simp)
/-! ### spec_natural_tens: function 70 -/
mutual
def spec_natural_tens.l0 : Nat → List Int → Int → Option (List Int)
 | 0, _, _ => none
 | k + 1, x0, x1 => if x1 ≥ 9 then ((spec_natural_times.f k x0 1000000000 0).bind fun d9 => (spec_natural_tens.l0 k d9 (wrap64 (x1 - 9)))) else (spec_natural_tens.l1 k x0 x1)
def spec_natural_tens.l1 : Nat → List Int → Int → Option (List Int)
 | 0, _, _ => none
 | k + 1, x0, x1 => if x1 > 0 then ((spec_natural_times.f k x0 10 0).bind fun e0 => (spec_natural_tens.l1 k e0 (wrap64 (x1 - 1)))) else (some x0)
end
def spec_natural_tens.f (k : Nat) (l0 : List Int) (a1 : Int) : Option (List Int) := spec_natural_tens.l0 k l0 a1
set_option maxHeartbeats 8000000 in
set_option maxRecDepth 100000 in
theorem spec_natural_tens.calls (k : Nat) (P0_ : Nat → Prop) (A0 : Option Addr) (c0 : Nat) (l0 : List Int) (a1 : Int) (r : List Int) (w : World) (hs0 : Kd.V (Kd.int .u32) 139 w w.heap.size (fun k_ => P0_ k_) (.slice A0 l0.length c0) l0) (h : spec_natural_tens.f k l0 a1 = some r) :
  Calls Tryz.prog 70 #[.slice A0 l0.length c0, .int .i64 a1] w fun e w' => ∃ v0_ : Value, e = .returned (v0_) ∧ Kd.V (Kd.int .u32) 139 w' w.heap.size (fun k_ => (P0_ k_ ∨ w.heap.size ≤ k_)) v0_ r ∧ Below w.heap.size w w' := by
 have HO0 := sd (show Kd.V (Kd.int .u32) 139 w w.heap.size (fun k_ => (P0_ k_ ∨ w.heap.size ≤ k_)) (.slice A0 l0.length c0) l0 from Kd.V_mono hs0 (fun k_ hk => .inl hk))
 have HB := sd (Below.refl w.heap.size w)
 have H : (spec_natural_tens.l0 k l0 a1) = some r := h
 clear h
 have H' := sd H
 clear H
 go_enter Tryz.func70, Tryz.ntmps70
 go_wp2
 (try simp only [Act.put, List.setIfInBounds_toArray, List.set_cons_zero, List.set_cons_succ])
 go_loopg [0, 1] k (fun kq v0 v1 w' => ∃ (x0_1 : List Int) (x1_1 : Int), v1 = .int .i64 x1_1 ∧ Aside0 (spec_natural_tens.l0 kq x0_1 x1_1 = some r) ∧ Aside0 (kq ≤ k) ∧ Aside0 (Kd.V (Kd.int .u32) 139 w' w.heap.size (fun k_ => (P0_ k_ ∨ w.heap.size ≤ k_)) v0 x0_1) ∧ Aside0 (Below w.heap.size w w'))
 case atStart => exact ⟨(l0), (a1), tF, H', ⟨Nat.le_refl _⟩, ⟨uV HO0.out⟩, ⟨tB⟩⟩
 case round =>
  clear H'
  obtain ⟨x0_1, x1_1, rfl, HA, HK1, HO_0, HB⟩ := hrel
  cases gk with
  | zero => exact absurd HA.out (by simp [spec_natural_tens.l0])
  | succ k1 =>
   have H := HA.out
   clear HA
   simp only [spec_natural_tens.l0] at H
   by_cases c3 : x1_1 ≥ 9
   ·rw [if_pos c3] at H
    have c3b0 : decide (9 ≤ x1_1) = true := decide_eq_true c3
    clear c3
    replace H := Option.bind_eq_some_iff.mp H
    obtain ⟨d9, A40, H⟩ := H
    try dsimp only at H
    have A4 := sd A40
    clear A40
    have H' := sd H
    clear H
    obtain ⟨Ao5, co5, eo5⟩ := Kd.V_slice HO_0.out
    subst eo5
    go_wp2_with (first | ((with_reducible refine gate_callee (f := 85) rfl ?_); refine goesL_ (some 10) rfl rfl Tryz.func85 (by kernel_rfl) rfl #[.slice Ao5 x0_1.length co5, .int .u32 1000000000, .int .u32 0] rfl tM ?_; (with_reducible refine (spec_natural_times.calls k1 _ _ x0_1 1000000000 0 d9 _ ?side1 ?side2 A4.out).mono ?_); (case side1 => repeat (first | exact (Kd.V_reads' HO_0.out).2.2 | (with_reducible refine Kd.C_alloc ?_ _) | (with_reducible refine Kd.C_drewN ?_ _) | (with_reducible refine Kd.C_drew ?_))); (case side2 => exact (Kd.V_reads' HO_0.out).2.1); rintro e w6 ⟨i5, rfl, ho0, hb⟩; refine ⟨_, rfl, ?_⟩; have HO_0 := sd (Kd.V_elder' (uV HO_0.out) (Kd.R_base ho0) hb); have f8 := sd (Kd.R_lower (Kd.R_newM (M := fun k_ => (w.heap.size ≤ k_)) ho0 (below_size tB) (fun k_ h_ => h_)) (below_size tB)); have HB := sd (below_step tB hb); clear hb ho0))
    go_roundg k1
    case measure => have := HK1.out; omega
    case rel => exact ⟨(d9), (wrap64 (x1_1 - 9)), tF, H', ⟨by have := HK1.out; omega⟩, ⟨Kd.V_mono (Kd.R_V (Kd.R_mono (uR f8.out) (fun _ hk => hk.1))) (fun k_ hk => by first | exact ⟨(.inr (hk.1)), hk.2⟩ | exact (.inr (hk)))⟩, ⟨tB⟩⟩
   ·rw [if_neg c3] at H
    have c3b0 : decide (9 ≤ x1_1) = false := decide_eq_false c3
    clear c3
    have H' := sd H
    clear H
    go_wp2
    (try simp only [Act.put, List.setIfInBounds_toArray, List.set_cons_zero, List.set_cons_succ])
    go_loopg [0, 1] k1 (fun kq v0 v1 w' => ∃ (x0_2 : List Int) (x1_2 : Int), v1 = .int .i64 x1_2 ∧ Aside0 (spec_natural_tens.l1 kq x0_2 x1_2 = some r) ∧ Aside0 (kq ≤ k1) ∧ Aside0 (Kd.V (Kd.int .u32) 139 w' w.heap.size (fun k_ => (P0_ k_ ∨ w.heap.size ≤ k_)) v0 x0_2) ∧ Aside0 (Below w.heap.size w w'))
    case atStart => exact ⟨(x0_1), (x1_1), tF, H', ⟨Nat.le_refl _⟩, ⟨uV HO_0.out⟩, ⟨tB⟩⟩
    case round =>
     clear H'
     obtain ⟨x0_2, x1_2, rfl, HA, HK2, HO_0, HB⟩ := hrel
     cases gk with
     | zero => exact absurd HA.out (by simp [spec_natural_tens.l1])
     | succ k2 =>
      have H := HA.out
      clear HA
      simp only [spec_natural_tens.l1] at H
      by_cases c7 : x1_2 > 0
      ·rw [if_pos c7] at H
       have c7b0 : decide (0 < x1_2) = true := decide_eq_true c7
       clear c7
       replace H := Option.bind_eq_some_iff.mp H
       obtain ⟨e0, A80, H⟩ := H
       try dsimp only at H
       have A8 := sd A80
       clear A80
       have H' := sd H
       clear H
       obtain ⟨Ao9, co9, eo9⟩ := Kd.V_slice HO_0.out
       subst eo9
       go_wp2_with (first | ((with_reducible refine gate_callee (f := 85) rfl ?_); refine goesL_ (some 16) rfl rfl Tryz.func85 (by kernel_rfl) rfl #[.slice Ao9 x0_2.length co9, .int .u32 10, .int .u32 0] rfl tM ?_; (with_reducible refine (spec_natural_times.calls k2 _ _ x0_2 10 0 e0 _ ?side1 ?side2 A8.out).mono ?_); (case side1 => repeat (first | exact (Kd.V_reads' HO_0.out).2.2 | (with_reducible refine Kd.C_alloc ?_ _) | (with_reducible refine Kd.C_drewN ?_ _) | (with_reducible refine Kd.C_drew ?_))); (case side2 => exact (Kd.V_reads' HO_0.out).2.1); rintro e w10 ⟨i6, rfl, ho0, hb⟩; refine ⟨_, rfl, ?_⟩; have HO_0 := sd (Kd.V_elder' (uV HO_0.out) (Kd.R_base ho0) hb); have f9 := sd (Kd.R_lower (Kd.R_newM (M := fun k_ => (w.heap.size ≤ k_)) ho0 (below_size tB) (fun k_ h_ => h_)) (below_size tB)); have HB := sd (below_step tB hb); clear hb ho0))
       go_roundg k2
       case measure => have := HK1.out; have := HK2.out; omega
       case rel => exact ⟨(e0), (wrap64 (x1_2 - 1)), tF, H', ⟨by have := HK1.out; have := HK2.out; omega⟩, ⟨Kd.V_mono (Kd.R_V (Kd.R_mono (uR f9.out) (fun _ hk => hk.1))) (fun k_ hk => by first | exact ⟨(.inr (hk.1)), hk.2⟩ | exact (.inr (hk)))⟩, ⟨tB⟩⟩
      ·rw [if_neg c7] at H
       have c7b0 : decide (0 < x1_2) = false := decide_eq_false c7
       clear c7
       obtain rfl := Option.some.inj H
       go_wp2
       go_ret
       exact ⟨_, tE, uV HO_0.out, tB⟩
/-! ### spec_natural_against: function 71 -/
def spec_natural_against.l0 : Nat → List Int → List Int → Int → Option (Int)
 | 0, _, _, _ => none
 | k + 1, x0, x1, x5 => if x5 ≥ 0 then (if 0 ≤ x5 then (if x5 < (x0.length : Int) then (if x5 < (x1.length : Int) then (if (rd x0 x5) < (rd x1 x5) then (some (-1)) else (if (rd x0 x5) > (rd x1 x5) then (some 1) else (spec_natural_against.l0 k x0 x1 (wrap64 (x5 - 1))))) else (none)) else (none)) else (none)) else (some 0)
def spec_natural_against.f (k : Nat) (l0 : List Int) (l1 : List Int) : Option (Int) := if (l0.length : Int) = (l1.length : Int) then (spec_natural_against.l0 k l0 l1 (wrap64 ((l0.length : Int) - 1))) else (if (l0.length : Int) < (l1.length : Int) then (some (-1)) else (some 1))
set_option maxHeartbeats 8000000 in
set_option maxRecDepth 100000 in
theorem spec_natural_against.calls (k : Nat) (A0 : Option Addr) (c0 : Nat) (l0 : List Int) (A1 : Option Addr) (c1 : Nat) (l1 : List Int) (r : Int) (w : World) (hr0 : Kd.C (Kd.int .u32) w A0 l0.length l0) (hc0 : l0.length ≤ c0) (hr1 : Kd.C (Kd.int .u32) w A1 l1.length l1) (hc1 : l1.length ≤ c1) (h : spec_natural_against.f k l0 l1 = some r) :
  Calls Tryz.prog 71 #[.slice A0 l0.length c0, .slice A1 l1.length c1] w fun e w' => e = .returned (.int .i64 r) ∧ Drawn0 w w' := by
 have HR0 := sd hr0
 have HC0 := sd hc0
 clear hr0 hc0
 have HR1 := sd hr1
 have HC1 := sd hc1
 clear hr1 hc1
 have H : (if (l0.length : Int) = (l1.length : Int) then (spec_natural_against.l0 k l0 l1 (wrap64 ((l0.length : Int) - 1))) else (if (l0.length : Int) < (l1.length : Int) then (some (-1)) else (some 1))) = some r := h
 clear h
 by_cases c3 : (l0.length : Int) = (l1.length : Int)
 ·rw [if_pos c3] at H
  have c3b0 : ((l0.length : Int) == (l1.length : Int)) = true := beq_iff_eq.mpr c3
  have c3b1 : ((l0.length : Int) != (l1.length : Int)) = false := bne_eq_false_iff_eq.mpr c3
  have c3b2 : (l0.length == l1.length) = true := by first | simpa using c3 | (simp at c3 ⊢; omega)
  clear c3
  have H' := sd H
  clear H
  go_enter Tryz.func71, Tryz.ntmps71
  go_wp2
  repeat (go_quiet (fail); try go_wp2)
  (try simp only [Act.put, List.setIfInBounds_toArray, List.set_cons_zero, List.set_cons_succ])
  go_loopg [5] k (fun kq v5 w' => ∃ (x5_1 : Int), v5 = .int .i64 x5_1 ∧ Aside0 (spec_natural_against.l0 kq l0 l1 x5_1 = some r) ∧ Aside0 (kq ≤ k) ∧ Drawn0 w w')
  case atStart => exact ⟨(wrap64 ((l0.length : Int) - 1)), tF, H', ⟨Nat.le_refl _⟩, by repeat (first | exact Drawn0.refl _ | apply Drawn0.step)⟩
  case round =>
   clear H'
   obtain ⟨x5_1, rfl, HA, HK1, ⟨m1, rfl⟩⟩ := hrel
   cases gk with
   | zero => exact absurd HA.out (by simp [spec_natural_against.l0])
   | succ k1 =>
    have H := HA.out
    clear HA
    simp only [spec_natural_against.l0] at H
    by_cases c4 : x5_1 ≥ 0
    ·rw [if_pos c4] at H
     have c4b0 : decide (0 ≤ x5_1) = true := decide_eq_true c4
     clear c4
     by_cases c5 : 0 ≤ x5_1
     ·rw [if_pos c5] at H
      have c5b0 : decide (0 ≤ x5_1) = true := decide_eq_true c5
      clear c5
      by_cases c6 : x5_1 < (l0.length : Int)
      ·rw [if_pos c6] at H
       have c6b0 : decide (x5_1 < (l0.length : Int)) = true := decide_eq_true c6
       clear c6
       by_cases c7 : x5_1 < (l1.length : Int)
       ·rw [if_pos c7] at H
        have c7b0 : decide (x5_1 < (l1.length : Int)) = true := decide_eq_true c7
        clear c7
        by_cases c8 : (rd l0 x5_1) < (rd l1 x5_1)
        ·rw [if_pos c8] at H
         have c8b0 : decide ((rd l0 x5_1) < (rd l1 x5_1)) = true := decide_eq_true c8
         clear c8
         obtain rfl := Option.some.inj H
         have a9 : 0 ≤ (x5_1 : Int) := of_decide_eq_true (by first | (with_reducible assumption) | assumption)
         have b0 : x5_1 < (l0.length : Int) := of_decide_eq_true (by first | (with_reducible assumption) | assumption)
         obtain ⟨ad474, e474, d6⟩ := Kd.at_int HR0.out x5_1 a9 b0
         cases e474
         replace a9 := eq_true a9
         replace b0 := eq_true b0
         have b1 : 0 ≤ (x5_1 : Int) := of_decide_eq_true (by first | (with_reducible assumption) | assumption)
         have b2 : x5_1 < (l1.length : Int) := of_decide_eq_true (by first | (with_reducible assumption) | assumption)
         obtain ⟨ad475, e475, d7⟩ := Kd.at_int HR1.out x5_1 b1 b2
         cases e475
         replace b1 := eq_true b1
         replace b2 := eq_true b2
         go_wp2
         repeat (go_quiet (fail); try go_wp2)
         go_ret
         exact ⟨by first | rfl | (simp; done) | (simp [*]; done), by repeat (first | exact Drawn0.refl _ | apply Drawn0.step)⟩
        ·rw [if_neg c8] at H
         have c8b0 : decide ((rd l0 x5_1) < (rd l1 x5_1)) = false := decide_eq_false c8
         clear c8
         by_cases c9 : (rd l0 x5_1) > (rd l1 x5_1)
         ·rw [if_pos c9] at H
          have c9b0 : decide ((rd l1 x5_1) < (rd l0 x5_1)) = true := decide_eq_true c9
          clear c9
          obtain rfl := Option.some.inj H
          have a9 : 0 ≤ (x5_1 : Int) := of_decide_eq_true (by first | (with_reducible assumption) | assumption)
          have b0 : x5_1 < (l0.length : Int) := of_decide_eq_true (by first | (with_reducible assumption) | assumption)
          obtain ⟨ad474, e474, d6⟩ := Kd.at_int HR0.out x5_1 a9 b0
          cases e474
          replace a9 := eq_true a9
          replace b0 := eq_true b0
          have b1 : 0 ≤ (x5_1 : Int) := of_decide_eq_true (by first | (with_reducible assumption) | assumption)
          have b2 : x5_1 < (l1.length : Int) := of_decide_eq_true (by first | (with_reducible assumption) | assumption)
          obtain ⟨ad475, e475, d7⟩ := Kd.at_int HR1.out x5_1 b1 b2
          cases e475
          replace b1 := eq_true b1
          replace b2 := eq_true b2
          have b5 : 0 ≤ (x5_1 : Int) := of_decide_eq_true (by first | (with_reducible assumption) | assumption)
          have b6 : x5_1 < (l0.length : Int) := of_decide_eq_true (by first | (with_reducible assumption) | assumption)
          obtain ⟨ad476, e476, e7⟩ := Kd.at_int HR0.out x5_1 b5 b6
          obtain rfl : ad474 = ad476 := (by injection e476)
          replace b5 := eq_true b5
          replace b6 := eq_true b6
          have b7 : 0 ≤ (x5_1 : Int) := of_decide_eq_true (by first | (with_reducible assumption) | assumption)
          have b8 : x5_1 < (l1.length : Int) := of_decide_eq_true (by first | (with_reducible assumption) | assumption)
          obtain ⟨ad477, e477, e8⟩ := Kd.at_int HR1.out x5_1 b7 b8
          obtain rfl : ad475 = ad477 := (by injection e477)
          replace b7 := eq_true b7
          replace b8 := eq_true b8
          go_wp2
          repeat (go_quiet (fail); try go_wp2)
          go_ret
          exact ⟨by first | rfl | (simp; done) | (simp [*]; done), by repeat (first | exact Drawn0.refl _ | apply Drawn0.step)⟩
         ·rw [if_neg c9] at H
          have c9b0 : decide ((rd l1 x5_1) < (rd l0 x5_1)) = false := decide_eq_false c9
          clear c9
          have H' := sd H
          clear H
          have a9 : 0 ≤ (x5_1 : Int) := of_decide_eq_true (by first | (with_reducible assumption) | assumption)
          have b0 : x5_1 < (l0.length : Int) := of_decide_eq_true (by first | (with_reducible assumption) | assumption)
          obtain ⟨ad474, e474, d6⟩ := Kd.at_int HR0.out x5_1 a9 b0
          cases e474
          replace a9 := eq_true a9
          replace b0 := eq_true b0
          have b1 : 0 ≤ (x5_1 : Int) := of_decide_eq_true (by first | (with_reducible assumption) | assumption)
          have b2 : x5_1 < (l1.length : Int) := of_decide_eq_true (by first | (with_reducible assumption) | assumption)
          obtain ⟨ad475, e475, d7⟩ := Kd.at_int HR1.out x5_1 b1 b2
          cases e475
          replace b1 := eq_true b1
          replace b2 := eq_true b2
          have b5 : 0 ≤ (x5_1 : Int) := of_decide_eq_true (by first | (with_reducible assumption) | assumption)
          have b6 : x5_1 < (l0.length : Int) := of_decide_eq_true (by first | (with_reducible assumption) | assumption)
          obtain ⟨ad476, e476, e7⟩ := Kd.at_int HR0.out x5_1 b5 b6
          obtain rfl : ad474 = ad476 := (by injection e476)
          replace b5 := eq_true b5
          replace b6 := eq_true b6
          have b7 : 0 ≤ (x5_1 : Int) := of_decide_eq_true (by first | (with_reducible assumption) | assumption)
          have b8 : x5_1 < (l1.length : Int) := of_decide_eq_true (by first | (with_reducible assumption) | assumption)
          obtain ⟨ad477, e477, e8⟩ := Kd.at_int HR1.out x5_1 b7 b8
          obtain rfl : ad475 = ad477 := (by injection e477)
          replace b7 := eq_true b7
          replace b8 := eq_true b8
          go_wp2
          repeat (go_quiet (fail); try go_wp2)
          go_roundg k1
          case measure => have := HK1.out; omega
          case rel => exact ⟨(wrap64 (x5_1 - 1)), tF, H', ⟨by have := HK1.out; omega⟩, by repeat (first | exact Drawn0.refl _ | apply Drawn0.step)⟩
       ·rw [if_neg c7] at H
        exact absurd H (by simp)
      ·rw [if_neg c6] at H
       exact absurd H (by simp)
     ·rw [if_neg c5] at H
      exact absurd H (by simp)
    ·rw [if_neg c4] at H
     have c4b0 : decide (0 ≤ x5_1) = false := decide_eq_false c4
     clear c4
     obtain rfl := Option.some.inj H
     go_wp2
     repeat (go_quiet (fail); try go_wp2)
     go_ret
     exact ⟨by first | rfl | (simp; done) | (simp [*]; done), by repeat (first | exact Drawn0.refl _ | apply Drawn0.step)⟩
 ·rw [if_neg c3] at H
  have c3b0 : ((l0.length : Int) == (l1.length : Int)) = false := beq_eq_false_iff_ne.mpr c3
  have c3b1 : ((l0.length : Int) != (l1.length : Int)) = true := bne_iff_ne.mpr c3
  have c3b2 : (l0.length == l1.length) = false := by first | simpa using c3 | (simp at c3 ⊢; omega)
  by_cases c10 : (l0.length : Int) < (l1.length : Int)
  ·rw [if_pos c10] at H
   have c10b0 : decide ((l0.length : Int) < (l1.length : Int)) = true := decide_eq_true c10
   have c10b1 : decide (l0.length < l1.length) = true := decide_eq_true (Int.ofNat_lt.mp c10)
   clear c10
   obtain rfl := Option.some.inj H
   go_enter Tryz.func71, Tryz.ntmps71
   go_wp2
   repeat (go_quiet (fail); try go_wp2)
   go_ret
   exact ⟨by first | rfl | (simp; done) | (simp [*]; done), by repeat (first | exact Drawn0.refl _ | apply Drawn0.step)⟩
  ·rw [if_neg c10] at H
   have c10b0 : decide ((l0.length : Int) < (l1.length : Int)) = false := decide_eq_false c10
   have c10b1 : decide (l0.length < l1.length) = false := decide_eq_false (fun h => c10 (Int.ofNat_lt.mpr h))
   clear c10
   obtain rfl := Option.some.inj H
   go_enter Tryz.func71, Tryz.ntmps71
   go_wp2
   repeat (go_quiet (fail); try go_wp2)
   go_ret
   exact ⟨by first | rfl | (simp; done) | (simp [*]; done), by repeat (first | exact Drawn0.refl _ | apply Drawn0.step)⟩
/-! ### spec_scaled: function 40 -/
def spec_scaled.j0 : Nat → List Int → List Int → Bool → ByteArray → Int → Option (Int)
 | 0, _, _, _, _, _ => none
 | k + 1, x7, x8, g8, g9, d1 => if d1 > 0 then ((spec_natural_tens.f k x8 d1).bind fun d4 => ((spec_natural_against.f k x7 d4).bind fun e3 => (some e3))) else ((spec_natural_tens.f k x7 (wrap64 (-d1))).bind fun d5 => ((spec_natural_against.f k d5 x8).bind fun e4 => (some e4)))
def spec_scaled.f (k : Nat) (a0 : Int) (a1 : Int) (a2_0 : Bool) (a2_1 : ByteArray) (a2_2 : Int) : Option (Int) := (spec_ofWord.f k a0).bind fun a7 => ((spec_ofDigits.f k a2_1).bind fun a8 => (if a1 > 0 then ((spec_natural_shift.f k a7 a1).bind fun d2 => (spec_scaled.j0 k d2 a8 a2_0 a2_1 a2_2)) else ((spec_natural_shift.f k a8 (wrap64 (-a1))).bind fun d3 => (spec_scaled.j0 k a7 d3 a2_0 a2_1 a2_2))))
set_option maxHeartbeats 8000000 in
set_option maxRecDepth 100000 in
theorem spec_scaled.calls (k : Nat) (a0 : Int) (a1 : Int) (a2_0 : Bool) (a2_1 : ByteArray) (a2_2 : Int) (r : Int) (w : World) (h : spec_scaled.f k a0 a1 a2_0 a2_1 a2_2 = some r) :
  Calls Tryz.prog 40 #[.int .u64 a0, .int .i64 a1, .agg #[.bool a2_0, .string a2_1, .int .i64 a2_2]] w fun e w' => e = .returned (.int .i64 r) ∧ Below w.heap.size w w' := by
 have hu34 := Tryz.underlying34
 have HB := sd (Below.refl w.heap.size w)
 have H : ((spec_ofWord.f k a0).bind fun a7 => ((spec_ofDigits.f k a2_1).bind fun a8 => (if a1 > 0 then ((spec_natural_shift.f k a7 a1).bind fun d2 => (spec_scaled.j0 k d2 a8 a2_0 a2_1 a2_2)) else ((spec_natural_shift.f k a8 (wrap64 (-a1))).bind fun d3 => (spec_scaled.j0 k a7 d3 a2_0 a2_1 a2_2))))) = some r := h
 clear h
 replace H := Option.bind_eq_some_iff.mp H
 obtain ⟨a7, A40, H⟩ := H
 try dsimp only at H
 have A4 := sd A40
 clear A40
 replace H := Option.bind_eq_some_iff.mp H
 obtain ⟨a8, A50, H⟩ := H
 try dsimp only at H
 have A5 := sd A50
 clear A50
 have HC6 := sd H
 clear H
 go_enter Tryz.func40, Tryz.ntmps40
 try go_wp2_with (first | ((with_reducible refine gate_dst (N := 5) rfl ?_); refine box_event (by rfl) (N := 5) (by rfl) (cs := #[.bool a2_0, .string a2_1, .int .i64 a2_2]) (t := 34) tS ?_; intro a3 hg w7 hbox hb; have a2 := sd (hbox); have i0 := sd (leB hg tB); have i1 := sd (leB hg tB); have HB := sd (below_step tB hb); clear hb hbox hg))
 have n0_ := sd (blk_drew a2.out)
 have n1_ := sd (below_drew1 HB.out)
 clear a2
 clear HB
 have a2 := n0_
 have HB := n1_
 clear n0_ n1_
 refine start_ (n := 7) (S := fun w' => w'.cell? ⟨a3, 0, none⟩ = some (.bool a2_0) ∧ w'.cell? ⟨a3, 1, none⟩ = some (.string a2_1) ∧ w'.cell? ⟨a3, 2, none⟩ = some (.int .i64 a2_2)) (ds := []) #[false, false, false, false, false, false, false] (by kernel_rfl) rfl rfl ⟨(blk_cell a2.out 0).trans rfl, (blk_cell a2.out 1).trans rfl, (blk_cell a2.out 2).trans rfl⟩ (fun hHeld => ?_)
 generalize w7.drew = w8 at a2 HB hHeld ⊢
 refine pure_ (i := 0) (N := some 9) (v := ?_) (a' := ?_) #[true, false, false, false, false, false, false] rfl rfl (by kernel_rfl) (fun _ _ _ h => h) (Or.inl ⟨by rfl, ?_⟩) ?_ ?_
 rotate_left
 ·intro w'
  go_simp
  with_reducible rfl
 rotate_left
 ·simp only [Act.put, List.setIfInBounds_toArray, List.set_cons_zero, List.set_cons_succ, i64_w, i32_w]
  rfl
 refine pure_ (i := 2) (N := some 11) (v := ?_) (a' := ?_) #[true, false, true, false, false, false, false] rfl rfl (by kernel_rfl) (fun _ _ _ h => h) (Or.inl ⟨by rfl, ?_⟩) ?_ ?_
 rotate_left
 ·intro w'
  go_simp
  with_reducible rfl
 rotate_left
 ·simp only [Act.put, List.setIfInBounds_toArray, List.set_cons_zero, List.set_cons_succ, i64_w, i32_w]
  rfl
 refine take_ (i := 3) (N := some 12) (v := ?_) (a' := ?_) #[true, false, true, true, false, false, false] rfl rfl (by kernel_rfl) (fun _ _ _ h => h) (Or.inl ⟨by rfl, ?_⟩) hHeld ?_ ?_
 rotate_left
 ·rintro w' ⟨s0, s1, s2⟩
  go_simp
  with_reducible rfl
 rotate_left
 ·simp only [Act.put, List.setIfInBounds_toArray, List.set_cons_zero, List.set_cons_succ, i64_w, i32_w]
  rfl
 refine one_ (i := 1) (N := some 10) #[true, true, true, true, false, false, false] rfl rfl (by kernel_rfl) (by decide) (fun K hK => ?_)
 refine goes_ Tryz.func67 (by kernel_rfl) rfl #[.int .u64 a0] (by rfl) rfl rfl tM ?_
 with_reducible refine (spec_ofWord.calls k a0 a7 _ A4.out).mono ?_
 rintro e w9 ⟨g4, rfl, ho0, hb⟩
 refine ⟨_, rfl, ?_⟩
 have n0_ := sd (Kd.R_lower ho0 (below_size tB))
 have n1_ := sd (blk_below (g := a3) tL hb)
 have n2_ := sd (below_step tB hb)
 clear a2
 clear HB
 have a6 := n0_
 have a2 := n1_
 have HB := n2_
 clear n0_ n1_ n2_
 (try clear hb)
 (try clear hb2)
 (try clear hk)
 (try clear hi)
 (try clear ho0)
 refine hK.out _ _ ⟨(blk_cell a2.out 0).trans rfl, (blk_cell a2.out 1).trans rfl, (blk_cell a2.out 2).trans rfl⟩ (fun hHeld => ?_)
 clear hK K
 refine norm_ (a' := ?_) ?_ ?_
 rotate_left
 ·show Act.put _ (some 10) _ = _
  simp only [Act.put, List.setIfInBounds_toArray, List.set_cons_zero, List.set_cons_succ, i64_w, i32_w]
  rfl
 refine one_ (i := 4) (N := some 13) #[true, true, true, true, true, false, false] rfl rfl (by kernel_rfl) (by decide) (fun K hK => ?_)
 refine goes_ Tryz.func68 (by kernel_rfl) rfl #[.string a2_1] (by rfl) rfl rfl tM ?_
 with_reducible refine (spec_ofDigits.calls k a2_1 a8 _ A5.out).mono ?_
 rintro e w10 ⟨g5, rfl, ho0, hb⟩
 refine ⟨_, rfl, ?_⟩
 have n0_ := sd (Kd.R_elder' (uR a6.out) (Kd.R_base ho0) hb)
 have n1_ := sd (Kd.R_lower (Kd.R_new' ho0 (Kd.R_lt (uR a6.out))) (below_size tB))
 have n2_ := sd (blk_below (g := a3) tL hb)
 have n3_ := sd (below_step tB hb)
 clear a6
 clear a2
 clear HB
 have a6 := n0_
 have b4 := n1_
 have a2 := n2_
 have HB := n3_
 clear n0_ n1_ n2_ n3_
 (try clear hb)
 (try clear hb2)
 (try clear hk)
 (try clear hi)
 (try clear ho0)
 refine hK.out _ _ ⟨(blk_cell a2.out 0).trans rfl, (blk_cell a2.out 1).trans rfl, (blk_cell a2.out 2).trans rfl⟩ (fun hHeld => ?_)
 clear hK K
 refine norm_ (a' := ?_) ?_ ?_
 rotate_left
 ·show Act.put _ (some 13) _ = _
  simp only [Act.put, List.setIfInBounds_toArray, List.set_cons_zero, List.set_cons_succ, i64_w, i32_w]
  rfl
 refine pure_ (i := 5) (N := some 7) (v := ?_) (a' := ?_) #[true, true, true, true, true, true, false] rfl rfl (by kernel_rfl) (fun _ _ _ h => h) (Or.inl ⟨by rfl, ?_⟩) ?_ ?_
 rotate_left
 ·intro w'
  go_simp
  with_reducible rfl
 rotate_left
 ·simp only [Act.put, List.setIfInBounds_toArray, List.set_cons_zero, List.set_cons_succ, i64_w, i32_w]
  rfl
 refine pure_ (i := 6) (N := some 8) (v := ?_) (a' := ?_) #[true, true, true, true, true, true, true] rfl rfl (by kernel_rfl) (fun _ _ _ h => h) (Or.inl ⟨by rfl, ?_⟩) ?_ ?_
 rotate_left
 ·intro w'
  go_simp
  with_reducible rfl
 rotate_left
 ·simp only [Act.put, List.setIfInBounds_toArray, List.set_cons_zero, List.set_cons_succ, i64_w, i32_w]
  rfl
 refine done_ (by kernel_rfl) ?_
 go_upto_if 15 with (fail)
 go_cut [7, 8] (fun v7 v8 wc => ∃ (kq : Nat) (x7_5 : List Int) (x8_5 : List Int), Aside0 (spec_scaled.j0 kq x7_5 x8_5 a2_0 a2_1 a2_2 = some r) ∧ Aside0 (kq ≤ k) ∧ Aside0 (Kd.R (Kd.int .u32) 139 wc w.heap.size (fun k_ => some k_ ≠ (v8 : Value).ownBlock) v7 x7_5) ∧ Aside0 (Kd.R (Kd.int .u32) 139 wc w.heap.size (fun k_ => some k_ ≠ (v7 : Value).ownBlock) v8 x8_5) ∧ Aside0 (wc.heap[a3]? = some (.cells #[.bool a2_0, .string a2_1, .int .i64 a2_2] 34 (0, 0))) ∧ Aside0 (Below w.heap.size w wc))
 case first =>
  have H := HC6.out
  clear HC6
  by_cases c11 : a1 > 0
  ·rw [if_pos c11] at H
   have c11b0 : decide (0 < a1) = true := decide_eq_true c11
   clear c11
   (first | rw [c11b0] | (simp only [i64_w, i32_w]; rw [c11b0]) | skip)
   replace H := Option.bind_eq_some_iff.mp H
   obtain ⟨d2, e9, H⟩ := H
   try dsimp only at H
   have A12 := sd e9
   clear e9
   have H' := sd H
   clear H
   obtain ⟨Ao13, co13, eo13⟩ := Kd.R_slice a6.out
   subst eo13
   go_wp2_with (first | ((with_reducible refine gate_callee (f := 69) rfl ?_); refine goesL_ (some 18) rfl rfl Tryz.func69 (by kernel_rfl) rfl #[.slice Ao13 a7.length co13, .int .i64 a1] rfl tM ?_; (with_reducible refine (spec_natural_shift.calls k (fun k_ => some k_ = (.slice Ao13 a7.length co13 : Value).ownBlock) (.slice Ao13 a7.length co13) a7 a1 d2 w _ ?_ ?_ A12.out).mono ?_); exact tB; exact Kd.R_tight rfl a6.out; rintro e w14 ⟨g6, rfl, ho0, hb, hkp⟩; refine ⟨_, rfl, ?_⟩; have a2 := sd (blk_kept tL hkp (fun hs_ => (fun e_ => (Kd.R_ne a6.out a2.out (by decide)) e_) hs_)); have g0 := sd (Kd.R_mono (ok' := fun k_ => some k_ ≠ (g5 : Value).ownBlock) ho0 (fun k_ hk_ => Or.elim hk_ (fun hs_ => fun e_ => (((b4.out).1 k_ e_.symm).2) hs_) (fun hn_ => (Kd.fresh' (Kd.R_lt (uR b4.out)) k_ hn_)))); have b4 := sd (Kd.R_mono (ok' := fun k_ => some k_ ≠ (g6 : Value).ownBlock) (Kd.R_keptB (b4.out) hkp (fun k_ hk_ hs_ => (hk_.2) hs_)) (fun k_ hk_ => fun e_ => Or.elim (ho0.1 k_ e_.symm) (fun hs_ => hk_.2.1 hs_) (fun hn_ => Nat.not_le.2 hk_.2.2 hn_))); have HB := sd (hb); clear hb hkp ho0))
   go_meet
   case rel => exact ⟨_, (d2), (a8), H', ⟨by first | omega | exact Nat.le_refl _⟩, ⟨uR g0.out⟩, ⟨uR b4.out⟩, ⟨tL⟩, ⟨tB⟩⟩
  ·rw [if_neg c11] at H
   have c11b0 : decide (0 < a1) = false := decide_eq_false c11
   clear c11
   (first | rw [c11b0] | (simp only [i64_w, i32_w]; rw [c11b0]) | skip)
   replace H := Option.bind_eq_some_iff.mp H
   obtain ⟨d3, f0, H⟩ := H
   try dsimp only at H
   have A15 := sd f0
   clear f0
   have H' := sd H
   clear H
   obtain ⟨Ao16, co16, eo16⟩ := Kd.R_slice b4.out
   subst eo16
   go_wp2_with (first | ((with_reducible refine gate_callee (f := 69) rfl ?_); refine goesL_ (some 22) rfl rfl Tryz.func69 (by kernel_rfl) rfl #[.slice Ao16 a8.length co16, .int .i64 (wrap64 (-a1))] rfl tM ?_; (with_reducible refine (spec_natural_shift.calls k (fun k_ => some k_ = (.slice Ao16 a8.length co16 : Value).ownBlock) (.slice Ao16 a8.length co16) a8 (wrap64 (-a1)) d3 w _ ?_ ?_ A15.out).mono ?_); exact tB; exact Kd.R_tight rfl b4.out; rintro e w17 ⟨g7, rfl, ho0, hb, hkp⟩; refine ⟨_, rfl, ?_⟩; have a2 := sd (blk_kept tL hkp (fun hs_ => (fun e_ => (Kd.R_ne b4.out a2.out (by decide)) e_) hs_)); have g1 := sd (Kd.R_mono (ok' := fun k_ => some k_ ≠ (g4 : Value).ownBlock) ho0 (fun k_ hk_ => Or.elim hk_ (fun hs_ => fun e_ => (((a6.out).1 k_ e_.symm).2) hs_) (fun hn_ => (Kd.fresh' (Kd.R_lt (uR a6.out)) k_ hn_)))); have a6 := sd (Kd.R_mono (ok' := fun k_ => some k_ ≠ (g7 : Value).ownBlock) (Kd.R_keptB (a6.out) hkp (fun k_ hk_ hs_ => (hk_.2) hs_)) (fun k_ hk_ => fun e_ => Or.elim (ho0.1 k_ e_.symm) (fun hs_ => hk_.2.1 hs_) (fun hn_ => Nat.not_le.2 hk_.2.2 hn_))); have HB := sd (hb); clear hb hkp ho0))
   go_meet
   case rel => exact ⟨_, (a7), (d3), H', ⟨by first | omega | exact Nat.le_refl _⟩, ⟨uR a6.out⟩, ⟨uR g1.out⟩, ⟨tL⟩, ⟨tB⟩⟩
 case rest =>
  clear HC6
  obtain ⟨kq, x7_5, x8_5, HA, HJ5, HO_7, HO_8, a2, HB⟩ := hcut
  cases kq with
  | zero => exact absurd HA.out (by simp [spec_scaled.j0])
  | succ kj5 =>
   have H := HA.out
   clear HA
   simp only [spec_scaled.j0] at H
   by_cases c18 : a2_2 > 0
   ·rw [if_pos c18] at H
    have c18b0 : decide (0 < a2_2) = true := decide_eq_true c18
    clear c18
    replace H := Option.bind_eq_some_iff.mp H
    obtain ⟨d4, f1, H⟩ := H
    try dsimp only at H
    have A19 := sd f1
    clear f1
    replace H := Option.bind_eq_some_iff.mp H
    obtain ⟨e3, f2, H⟩ := H
    try dsimp only at H
    have A20 := sd f2
    clear f2
    obtain rfl := Option.some.inj H
    have hcz21_0 : wc.cell? ⟨a3, 0, none⟩ = some (.bool a2_0) := (blk_cell a2.out 0).trans rfl
    have hcz21_1 : wc.cell? ⟨a3, 1, none⟩ = some (.string a2_1) := (blk_cell a2.out 1).trans rfl
    have hcz21_2 : wc.cell? ⟨a3, 2, none⟩ = some (.int .i64 a2_2) := (blk_cell a2.out 2).trans rfl
    have hfz21_0 := blk_frozen a2.out 0
    have hfz21_1 := blk_frozen a2.out 1
    have hfz21_2 := blk_frozen a2.out 2
    obtain ⟨Ao22, co22, eo22⟩ := Kd.R_slice HO_8.out
    subst eo22
    go_wp2_with (first | ((with_reducible refine gate_callee (f := 70) rfl ?_); refine goesL_ (some 29) rfl rfl Tryz.func70 (by kernel_rfl) rfl #[.slice Ao22 x8_5.length co22, .int .i64 a2_2] rfl tM ?_; (with_reducible refine (spec_natural_tens.calls kj5 (fun k_ => some k_ = (.slice Ao22 x8_5.length co22 : Value).ownBlock) _ _ x8_5 a2_2 d4 _ ?_ A19.out).mono ?_); exact Kd.R_V (Kd.R_tight rfl (Kd.R_types (HO_8.out) a2.out (by decide))); rintro e w23 ⟨i7, rfl, ho0, hb⟩; refine ⟨_, rfl, ?_⟩; have e1 := sd (Kd.V_lower (Kd.V_mono (ok' := fun k_ => some k_ ≠ (u7 : Value).ownBlock ∧ k_ ≠ a3) ho0 (fun k_ hk_ => ⟨Or.elim hk_ (fun hs_ => ((Kd.R_types (HO_8.out) a2.out (by decide)).1 k_ hs_.symm).1) (fun hn_ => (Kd.fresh' (Kd.R_lt (uR HO_7.out)) k_ hn_)), Or.elim hk_ (fun hs_ => ((Kd.R_types (HO_8.out) a2.out (by decide)).1 k_ hs_.symm).2) (fun hn_ => (Kd.freshB (g := a3) tL k_ hn_))⟩)) (below_size tB)); have HO_7 := sd (Kd.R_below (uR HO_7.out) hb); have HO_8 := sd (Kd.R_below (uR HO_8.out) hb); have a2 := sd (blk_below (g := a3) tL hb); have HB := sd (below_step tB hb); clear hb ho0; obtain ⟨Ao24, co24, eo24⟩ := Kd.R_slice HO_7.out; subst eo24; obtain ⟨Ao25, co25, eo25⟩ := Kd.V_slice e1.out; subst eo25) | ((with_reducible refine gate_callee (f := 71) rfl ?_); refine goesL_ (some 37) rfl rfl Tryz.func71 (by kernel_rfl) rfl #[.slice Ao24 x7_5.length co24, .slice Ao25 d4.length co25] rfl tM ?_; (with_reducible refine (spec_natural_against.calls kj5 _ _ x7_5 _ _ d4 e3 _ ?side1 ?side2 ?side3 ?side4 A20.out).mono ?_); (case side1 => repeat (first | exact (Kd.R_reads' HO_7.out).2.2 | (with_reducible refine Kd.C_alloc ?_ _) | (with_reducible refine Kd.C_drewN ?_ _) | (with_reducible refine Kd.C_drew ?_))); (case side2 => exact (Kd.R_reads' HO_7.out).2.1); (case side3 => repeat (first | exact (Kd.V_reads' e1.out).2.2 | (with_reducible refine Kd.C_alloc ?_ _) | (with_reducible refine Kd.C_drewN ?_ _) | (with_reducible refine Kd.C_drew ?_))); (case side4 => exact (Kd.V_reads' e1.out).2.1); rintro e w' ⟨rfl, ⟨nd, rfl⟩⟩; refine ⟨_, rfl, ?_⟩))
    go_ret
    exact ⟨tE, tB⟩
   ·rw [if_neg c18] at H
    have c18b0 : decide (0 < a2_2) = false := decide_eq_false c18
    clear c18
    replace H := Option.bind_eq_some_iff.mp H
    obtain ⟨d5, f3, H⟩ := H
    try dsimp only at H
    have A26 := sd f3
    clear f3
    replace H := Option.bind_eq_some_iff.mp H
    obtain ⟨e4, f4, H⟩ := H
    try dsimp only at H
    have A27 := sd f4
    clear f4
    obtain rfl := Option.some.inj H
    have hcz28_0 : wc.cell? ⟨a3, 0, none⟩ = some (.bool a2_0) := (blk_cell a2.out 0).trans rfl
    have hcz28_1 : wc.cell? ⟨a3, 1, none⟩ = some (.string a2_1) := (blk_cell a2.out 1).trans rfl
    have hcz28_2 : wc.cell? ⟨a3, 2, none⟩ = some (.int .i64 a2_2) := (blk_cell a2.out 2).trans rfl
    have hfz28_0 := blk_frozen a2.out 0
    have hfz28_1 := blk_frozen a2.out 1
    have hfz28_2 := blk_frozen a2.out 2
    obtain ⟨Ao29, co29, eo29⟩ := Kd.R_slice HO_7.out
    subst eo29
    go_wp2_with (first | ((with_reducible refine gate_callee (f := 70) rfl ?_); refine goesL_ (some 34) rfl rfl Tryz.func70 (by kernel_rfl) rfl #[.slice Ao29 x7_5.length co29, .int .i64 (wrap64 (-a2_2))] rfl tM ?_; (with_reducible refine (spec_natural_tens.calls kj5 (fun k_ => some k_ = (.slice Ao29 x7_5.length co29 : Value).ownBlock) _ _ x7_5 (wrap64 (-a2_2)) d5 _ ?_ A26.out).mono ?_); exact Kd.R_V (Kd.R_tight rfl (Kd.R_types (HO_7.out) a2.out (by decide))); rintro e w30 ⟨i8, rfl, ho0, hb⟩; refine ⟨_, rfl, ?_⟩; have e2 := sd (Kd.V_lower (Kd.V_mono (ok' := fun k_ => some k_ ≠ (u8 : Value).ownBlock ∧ k_ ≠ a3) ho0 (fun k_ hk_ => ⟨Or.elim hk_ (fun hs_ => ((Kd.R_types (HO_7.out) a2.out (by decide)).1 k_ hs_.symm).1) (fun hn_ => (Kd.fresh' (Kd.R_lt (uR HO_8.out)) k_ hn_)), Or.elim hk_ (fun hs_ => ((Kd.R_types (HO_7.out) a2.out (by decide)).1 k_ hs_.symm).2) (fun hn_ => (Kd.freshB (g := a3) tL k_ hn_))⟩)) (below_size tB)); have HO_7 := sd (Kd.R_below (uR HO_7.out) hb); have HO_8 := sd (Kd.R_below (uR HO_8.out) hb); have a2 := sd (blk_below (g := a3) tL hb); have HB := sd (below_step tB hb); clear hb ho0; obtain ⟨Ao31, co31, eo31⟩ := Kd.V_slice e2.out; subst eo31; obtain ⟨Ao32, co32, eo32⟩ := Kd.R_slice HO_8.out; subst eo32) | ((with_reducible refine gate_callee (f := 71) rfl ?_); refine goesL_ (some 37) rfl rfl Tryz.func71 (by kernel_rfl) rfl #[.slice Ao31 d5.length co31, .slice Ao32 x8_5.length co32] rfl tM ?_; (with_reducible refine (spec_natural_against.calls kj5 _ _ d5 _ _ x8_5 e4 _ ?side1 ?side2 ?side3 ?side4 A27.out).mono ?_); (case side1 => repeat (first | exact (Kd.V_reads' e2.out).2.2 | (with_reducible refine Kd.C_alloc ?_ _) | (with_reducible refine Kd.C_drewN ?_ _) | (with_reducible refine Kd.C_drew ?_))); (case side2 => exact (Kd.V_reads' e2.out).2.1); (case side3 => repeat (first | exact (Kd.R_reads' HO_8.out).2.2 | (with_reducible refine Kd.C_alloc ?_ _) | (with_reducible refine Kd.C_drewN ?_ _) | (with_reducible refine Kd.C_drew ?_))); (case side4 => exact (Kd.R_reads' HO_8.out).2.1); rintro e w' ⟨rfl, ⟨nd, rfl⟩⟩; refine ⟨_, rfl, ?_⟩))
    go_ret
    exact ⟨tE, tB⟩
end Go.Proofs.YtaihmpdhaikfkaaGreatDoor.PFnFjFloat
