/- Walks of functions that the law calls, printed and rewritten by program. -/
import Derived.Test.YtdacgdjjdifneaaGreatDoorV0
import Derived.Test.YtdacgdjjdifneaaGreatDoorV9
set_option linter.all false
set_option maxHeartbeats 16000000
set_option maxRecDepth 100000
namespace Go.Proofs.YtdacgdjjdifneaaGreatDoor.PFnGjFlattenOften
open Go.RowKit Go.Proofs.YtdacgdjjdifneaaGreatDoorW.PrintWords Go.Proofs.YtdacgdjjdifneaaGreatDoorW.PrintLast Go.Proofs.YtdacgdjjdifneaaGreatDoorW.PrintMore
attribute [local go_sem] max2_int min2_int max_two min_two max_three min_three max_four min_four
mutual
def spec_Unique.l0 : Nat → Int → Int → ByteArray → List ByteArray → List (S25) → Option (Bool)
 | 0, _, _, _, _, _ => none
 | k + 1, x3, a5, a6, a4, a2 => if x3 < (a4.length : Int) then (if 0 ≤ x3 then ((spec_at.f k a5 a6 a4 a2 (rdOf ByteArray.empty a4 x3)).bind fun b1 => (if b1 = x3 then (spec_Unique.l0 k (wrap64 (x3 + 1)) a5 a6 a4 a2) else (some false))) else (none)) else (spec_Unique.l1 k 0 a5 a6 a4 a2)
def spec_Unique.l1 : Nat → Int → Int → ByteArray → List ByteArray → List (S25) → Option (Bool)
 | 0, _, _, _, _, _ => none
 | k + 1, x4, a5, a6, a4, a2 => if x4 < (a2.length : Int) then (if 0 ≤ x4 then ((spec_Unique.f k ((rd_T25 a2 x4).f0) ((rd_T25 a2 x4).f1) ((rd_T25 a2 x4).f2) ((rd_T25 a2 x4).f3)).bind fun e0 => (if e0 = true then (spec_Unique.l1 k (wrap64 (x4 + 1)) a5 a6 a4 a2) else (some false))) else (none)) else (some true)
def spec_Unique.f : Nat → Int → ByteArray → List ByteArray → List (S25) → Option (Bool)
 | 0, _, _, _, _ => none
 | k + 1, a0_0, a0_1, l0_2, l0_3 => spec_Unique.l0 k 0 a0_0 a0_1 l0_2 l0_3
end
def spec_Unique.T4 : Bool × List (List Nat × List Nat) := (true, [([], []), ([], []), ([1], [1]), ([], []), ([2, 3], [2, 3]), ([4], [4]), ([0, 5], [0, 5]), ([], []), ([6, 7], [6, 7])])
def spec_Unique.B4 : List Nat := [0, 0, 2, 0, 14, 30, 63, 0, 255]
theorem spec_Unique.tab4 : rtab .any (opsOf Tryz.f11 4) = spec_Unique.T4 := by kernel_rfl
theorem spec_Unique.bits4 : waitsOk spec_Unique.T4.2 spec_Unique.B4 = true := by kernel_rfl
theorem spec_Unique.calls (k : Nat) : ∀ (a0_0 : Int) (a0_1 : ByteArray) (A0_2 : Option Addr) (c0_2 : Nat) (l0_2 : List ByteArray) (A0_3 : Option Addr) (c0_3 : Nat) (l0_3 : List (S25)) (r : Bool) (w : World) (hr0_2 : Kd.C Kd.string w A0_2 l0_2.length l0_2) (hc0_2 : l0_2.length ≤ c0_2) (hr0_3 : Kd.C k25 w A0_3 l0_3.length l0_3) (hc0_3 : l0_3.length ≤ c0_3) (h : spec_Unique.f k a0_0 a0_1 l0_2 l0_3 = some r),
  Calls Tryz.prog 11 #[.agg #[.int .i64 a0_0, .string a0_1, .slice A0_2 l0_2.length c0_2, .slice A0_3 l0_3.length c0_3]] w fun e w' => e = .returned (.bool r) ∧ Below w.heap.size w w' := by
 induction k using Nat.strongRecOn with
 | _ k ih =>
 intro a0_0 a0_1 A0_2 c0_2 l0_2 A0_3 c0_3 l0_3 r w hr0_2 hc0_2 hr0_3 hc0_3 h
 cases k with
 | zero => exact absurd h (by simp [spec_Unique.f])
 | succ k =>
 simp only [spec_Unique.f] at h; have hu25 := Tryz.underlying25; have HR0_2 := sd hr0_2; have HC0_2 := sd hc0_2; clear hr0_2 hc0_2; have HR0_3 := sd hr0_3; have HC0_3 := sd hc0_3; clear hr0_3 hc0_3; have HB := sd (Below.refl w.heap.size w); have H : (spec_Unique.l0 k 0 a0_0 a0_1 l0_2 l0_3) = some r := h; clear h; have H' := sd H; clear H; go_enter Tryz.func11, Tryz.ntmps11; go_wp2_with (first | ((with_reducible refine gate_dst (N := 1) rfl ?_); refine box_event (by rfl) (N := 1) (by rfl) (cs := #[.int .i64 a0_0, .string a0_1, .slice A0_2 l0_2.length c0_2, .slice A0_3 l0_3.length c0_3]) (t := 25) tS ?_; intro a1 hg w2 hbox hb; have a0 := sd hbox; have g1 := sd (leB hg tB); have g2 := sd (leB hg tB); have HB := sd (below_step tB hb); clear hb hbox hg)); (try simp only [Act.put, List.setIfInBounds_toArray, List.set_cons_zero, List.set_cons_succ])
 go_loopg [3] k (fun kq v3 w' => ∃ (x3_1 : Int), v3 = .int .i64 x3_1 ∧ Aside0 (spec_Unique.l0 kq x3_1 a0_0 a0_1 l0_2 l0_3 = some r) ∧ Aside0 (kq ≤ k) ∧ Aside0 (w'.heap[a1]? = some (.cells #[.int .i64 a0_0, .string a0_1, (.slice A0_2 l0_2.length c0_2), (.slice A0_3 l0_3.length c0_3)] 25 (0, 0))) ∧ Aside0 (Below w.heap.size w w'))
 case atStart => exact ⟨(0), tF, H', ⟨Nat.le_refl _⟩, ⟨tL⟩, ⟨tB⟩⟩
 case round =>
  clear H'; obtain ⟨x3_1, rfl, HA, HK1, a0, HB⟩ := hrel
  cases gk with
  | zero => exact absurd HA.out (by simp [spec_Unique.l0])
  | succ k1 =>
   have H := HA.out; clear HA; simp only [spec_Unique.l0] at H
   by_cases c3 : x3_1 < (l0_2.length : Int)
   ·rw [if_pos c3] at H; have c3b0 : decide (x3_1 < (l0_2.length : Int)) = true := decide_eq_true c3; clear c3
    by_cases c4 : 0 ≤ x3_1
    ·rw [if_pos c4] at H; have c4b0 : decide (0 ≤ x3_1) = true := decide_eq_true c4; clear c4; replace H := Option.bind_eq_some_iff.mp H; obtain ⟨b1, A50, H⟩ := H
     try dsimp only at H
     have A5 := sd A50; clear A50
     by_cases c6 : b1 = x3_1
     ·rw [if_pos c6] at H; have c6b0 : (b1 == x3_1) = true := beq_iff_eq.mpr c6; have c6b1 : (b1 != x3_1) = false := bne_eq_false_iff_eq.mpr c6; clear c6; have H' := sd H; clear H; have hcz7_0 : wr.cell? ⟨a1, 0, none⟩ = some (.int .i64 a0_0) := (blk_cell a0.out 0).trans rfl; have hcz7_1 : wr.cell? ⟨a1, 1, none⟩ = some (.string a0_1) := (blk_cell a0.out 1).trans rfl; have hcz7_2 : wr.cell? ⟨a1, 2, none⟩ = some (.slice A0_2 l0_2.length c0_2) := (blk_cell a0.out 2).trans rfl; have hcz7_3 : wr.cell? ⟨a1, 3, none⟩ = some (.slice A0_3 l0_3.length c0_3) := (blk_cell a0.out 3).trans rfl; have hfz7_0 := blk_frozen a0.out 0; have hfz7_1 := blk_frozen a0.out 1; have hfz7_2 := blk_frozen a0.out 2; have hfz7_3 := blk_frozen a0.out 3
      try go_wp2
      have n0_ := sd (blk_drew a0.out); have n1_ := sd (below_drew1 HB.out); clear a0; clear HB; have a0 := n0_; have HB := n1_; clear n0_ n1_; have b4 : 0 ≤ (x3_1 : Int) := tX; have b5 : x3_1 < (l0_2.length : Int) := tX; obtain ⟨ad409, e409, a3⟩ := Kd.at_string HR0_2.out x3_1 b4 b5; have hw409_0 := a3
      cases e409
      replace a3 := cB HB.out a3; replace b4 := eq_true b4; replace b5 := eq_true b5; refine start_ (n := 9) (S := fun w' => w'.cell? ⟨a1, 0, none⟩ = some (.int .i64 a0_0) ∧ w'.cell? ⟨a1, 1, none⟩ = some (.string a0_1) ∧ w'.cell? ⟨a1, 2, none⟩ = some (.slice (some ad409) l0_2.length c0_2) ∧ w'.cell? ⟨a1, 3, none⟩ = some (.slice A0_3 l0_3.length c0_3) ∧ w'.cell? (ad409.add (x3_1).toNat) = some (.string (rdOf ByteArray.empty l0_2 x3_1))) (ds := []) #[false, false, false, false, false, false, false, false, false] (by kernel_rfl) rfl rfl ⟨(blk_cell a0.out 0).trans rfl, (blk_cell a0.out 1).trans rfl, (blk_cell a0.out 2).trans rfl, (blk_cell a0.out 3).trans rfl, (cB HB.out hw409_0)⟩ (fun hHeld => ?_); refine with_tabW spec_Unique.tab4 spec_Unique.bits4 (fun HT_ HW_ => ?_); generalize wr.drew = w8 at a0 HB a3 hHeld ⊢
      refine pure_ (i := 1) (N := some 13) (v := ?_) (a' := ?_) #[false, true, false, false, false, false, false, false, false] rfl rfl (any_of HT_.out (by kernel_rfl)) (fun _ _ _ h => h) (Or.inl ⟨by rfl, ?_⟩) ?_ ?_; rotate_left; exact tQ; rotate_left; exact tP; refine pure_ (i := 3) (N := some 15) (v := ?_) (a' := ?_) #[false, true, false, true, false, false, false, false, false] rfl rfl (any_of HT_.out (by kernel_rfl)) (fun _ _ _ h => h) (Or.inl ⟨by rfl, ?_⟩) ?_ ?_; rotate_left; exact tQ; rotate_left; exact tP; refine pure_ (i := 7) (N := some 19) (v := ?_) (a' := ?_) #[false, true, false, true, false, false, false, true, false] rfl rfl (any_of HT_.out (by kernel_rfl)) (fun _ _ _ h => h) (Or.inl ⟨by rfl, ?_⟩) ?_ ?_; rotate_left; exact tQ; rotate_left; exact tP
      refine take_ (i := 0) (N := some 12) (v := ?_) (a' := ?_) #[true, true, false, true, false, false, false, true, false] rfl rfl (take_ofW HT_.out HW_.out (by kernel_rfl)) (fun _ _ _ h => h) (Or.inl ⟨by rfl, ?_⟩) hHeld ?_ ?_; rotate_left
      ·rintro w' ⟨s0, s1, s2, s3, s4⟩; exact tR
      rotate_left; exact tP; refine take_ (i := 2) (N := some 14) (v := ?_) (a' := ?_) #[true, true, true, true, false, false, false, true, false] rfl rfl (take_ofW HT_.out HW_.out (by kernel_rfl)) (fun _ _ _ h => h) (Or.inl ⟨by rfl, ?_⟩) hHeld ?_ ?_; rotate_left
      ·rintro w' ⟨s0, s1, s2, s3, s4⟩; exact tR
      rotate_left; exact tP; refine pure_ (i := 4) (N := some 16) (v := ?_) (a' := ?_) #[true, true, true, true, true, false, false, true, false] rfl rfl (any_of HT_.out (by kernel_rfl)) (fun _ _ _ h => h) (Or.inl ⟨by rfl, ?_⟩) ?_ ?_; rotate_left; exact tQ; rotate_left; exact tP; refine take_ (i := 5) (N := some 17) (v := ?_) (a' := ?_) #[true, true, true, true, true, true, false, true, false] rfl rfl (take_ofW HT_.out HW_.out (by kernel_rfl)) (fun _ _ _ h => h) (Or.inl ⟨by rfl, ?_⟩) hHeld ?_ ?_; rotate_left
      ·rintro w' ⟨s0, s1, s2, s3, s4⟩; exact tR
      rotate_left; exact tP; refine one_ (i := 6) (N := some 18) #[true, true, true, true, true, true, true, true, false] rfl rfl (one_of HT_.out (by kernel_rfl)) (by decide) (fun K hK => ?_); refine goes_ Tryz.func19 (by kernel_rfl) rfl #[.agg #[.int .i64 a0_0, .string a0_1, .slice (some ad409) l0_2.length c0_2, .slice A0_3 l0_3.length c0_3], .string (rdOf ByteArray.empty l0_2 x3_1)] (by rfl) rfl rfl tM ?_; with_reducible refine (spec_at.calls k1 a0_0 a0_1 _ _ l0_2 _ _ l0_3 (rdOf ByteArray.empty l0_2 x3_1) b1 _ ?side1 ?side2 ?side3 ?side4 A5.out).mono ?_
      (case side1 => repeat (first | exact (Kd.C_below HR0_2.out HB.out) | (with_reducible refine Kd.C_alloc ?_ _) | (with_reducible refine Kd.C_drewN ?_ _) | (with_reducible refine Kd.C_drew ?_))); (case side2 => exact HC0_2.out); (case side3 => repeat (first | exact (Kd.C_below HR0_3.out HB.out) | (with_reducible refine Kd.C_alloc ?_ _) | (with_reducible refine Kd.C_drewN ?_ _) | (with_reducible refine Kd.C_drew ?_))); (case side4 => exact HC0_3.out); rintro e w9 ⟨rfl, hb⟩; refine ⟨_, rfl, ?_⟩; have n0_ := sd (blk_below (g := a1) tL hb); have n1_ := sd (below_step tB hb); clear a0; clear HB; have a0 := n0_; have HB := n1_; clear n0_ n1_; (try clear hb); (try clear hb2); (try clear hk); (try clear hi); refine hK.out _ _ ⟨(blk_cell a0.out 0).trans rfl, (blk_cell a0.out 1).trans rfl, (blk_cell a0.out 2).trans rfl, (blk_cell a0.out 3).trans rfl, (cB HB.out hw409_0)⟩ (fun hHeld => ?_); clear hK K
      refine norm_ (a' := ?_) ?_ ?_; rotate_left
      ·show Act.put _ (some 18) _ = _
       simp only [Act.put, List.setIfInBounds_toArray, List.set_cons_zero, List.set_cons_succ, i64_w, i32_w]; rfl
      refine pure_ (i := 8) (N := some 20) (v := ?_) (a' := ?_) #[true, true, true, true, true, true, true, true, true] rfl rfl (any_of HT_.out (by kernel_rfl)) (fun _ _ _ h => h) (Or.inl ⟨by rfl, ?_⟩) ?_ ?_; rotate_left; exact tQ; rotate_left; exact tP; refine done_ (done_of HT_.out (by kernel_rfl)) ?_
      try go_wp2
      go_roundg k1
      case measure => have := HK1.out; omega
      case rel => exact ⟨(wrap64 (x3_1 + 1)), tF, H', ⟨by have := HK1.out; omega⟩, ⟨tL⟩, ⟨tB⟩⟩
     ·rw [if_neg c6] at H; have c6b0 : (b1 == x3_1) = false := beq_eq_false_iff_ne.mpr c6; have c6b1 : (b1 != x3_1) = true := bne_iff_ne.mpr c6; obtain rfl := Option.some.inj H; have hcz10_0 : wr.cell? ⟨a1, 0, none⟩ = some (.int .i64 a0_0) := (blk_cell a0.out 0).trans rfl; have hcz10_1 : wr.cell? ⟨a1, 1, none⟩ = some (.string a0_1) := (blk_cell a0.out 1).trans rfl; have hcz10_2 : wr.cell? ⟨a1, 2, none⟩ = some (.slice A0_2 l0_2.length c0_2) := (blk_cell a0.out 2).trans rfl; have hcz10_3 : wr.cell? ⟨a1, 3, none⟩ = some (.slice A0_3 l0_3.length c0_3) := (blk_cell a0.out 3).trans rfl; have hfz10_0 := blk_frozen a0.out 0; have hfz10_1 := blk_frozen a0.out 1; have hfz10_2 := blk_frozen a0.out 2; have hfz10_3 := blk_frozen a0.out 3
      try go_wp2
      have n0_ := sd (blk_drew a0.out); have n1_ := sd (below_drew1 HB.out); clear a0; clear HB; have a0 := n0_; have HB := n1_; clear n0_ n1_; have b4 : 0 ≤ (x3_1 : Int) := tX; have b5 : x3_1 < (l0_2.length : Int) := tX; obtain ⟨ad409, e409, a3⟩ := Kd.at_string HR0_2.out x3_1 b4 b5; have hw409_0 := a3
      cases e409
      replace a3 := cB HB.out a3; replace b4 := eq_true b4; replace b5 := eq_true b5; refine start_ (n := 9) (S := fun w' => w'.cell? ⟨a1, 0, none⟩ = some (.int .i64 a0_0) ∧ w'.cell? ⟨a1, 1, none⟩ = some (.string a0_1) ∧ w'.cell? ⟨a1, 2, none⟩ = some (.slice (some ad409) l0_2.length c0_2) ∧ w'.cell? ⟨a1, 3, none⟩ = some (.slice A0_3 l0_3.length c0_3) ∧ w'.cell? (ad409.add (x3_1).toNat) = some (.string (rdOf ByteArray.empty l0_2 x3_1))) (ds := []) #[false, false, false, false, false, false, false, false, false] (by kernel_rfl) rfl rfl ⟨(blk_cell a0.out 0).trans rfl, (blk_cell a0.out 1).trans rfl, (blk_cell a0.out 2).trans rfl, (blk_cell a0.out 3).trans rfl, (cB HB.out hw409_0)⟩ (fun hHeld => ?_); refine with_tabW spec_Unique.tab4 spec_Unique.bits4 (fun HT_ HW_ => ?_); generalize wr.drew = w11 at a0 HB a3 hHeld ⊢
      refine pure_ (i := 1) (N := some 13) (v := ?_) (a' := ?_) #[false, true, false, false, false, false, false, false, false] rfl rfl (any_of HT_.out (by kernel_rfl)) (fun _ _ _ h => h) (Or.inl ⟨by rfl, ?_⟩) ?_ ?_; rotate_left; exact tQ; rotate_left; exact tP; refine pure_ (i := 3) (N := some 15) (v := ?_) (a' := ?_) #[false, true, false, true, false, false, false, false, false] rfl rfl (any_of HT_.out (by kernel_rfl)) (fun _ _ _ h => h) (Or.inl ⟨by rfl, ?_⟩) ?_ ?_; rotate_left; exact tQ; rotate_left; exact tP; refine pure_ (i := 7) (N := some 19) (v := ?_) (a' := ?_) #[false, true, false, true, false, false, false, true, false] rfl rfl (any_of HT_.out (by kernel_rfl)) (fun _ _ _ h => h) (Or.inl ⟨by rfl, ?_⟩) ?_ ?_; rotate_left; exact tQ; rotate_left; exact tP
      refine take_ (i := 0) (N := some 12) (v := ?_) (a' := ?_) #[true, true, false, true, false, false, false, true, false] rfl rfl (take_ofW HT_.out HW_.out (by kernel_rfl)) (fun _ _ _ h => h) (Or.inl ⟨by rfl, ?_⟩) hHeld ?_ ?_; rotate_left
      ·rintro w' ⟨s0, s1, s2, s3, s4⟩; exact tR
      rotate_left; exact tP; refine take_ (i := 2) (N := some 14) (v := ?_) (a' := ?_) #[true, true, true, true, false, false, false, true, false] rfl rfl (take_ofW HT_.out HW_.out (by kernel_rfl)) (fun _ _ _ h => h) (Or.inl ⟨by rfl, ?_⟩) hHeld ?_ ?_; rotate_left
      ·rintro w' ⟨s0, s1, s2, s3, s4⟩; exact tR
      rotate_left; exact tP; refine pure_ (i := 4) (N := some 16) (v := ?_) (a' := ?_) #[true, true, true, true, true, false, false, true, false] rfl rfl (any_of HT_.out (by kernel_rfl)) (fun _ _ _ h => h) (Or.inl ⟨by rfl, ?_⟩) ?_ ?_; rotate_left; exact tQ; rotate_left; exact tP; refine take_ (i := 5) (N := some 17) (v := ?_) (a' := ?_) #[true, true, true, true, true, true, false, true, false] rfl rfl (take_ofW HT_.out HW_.out (by kernel_rfl)) (fun _ _ _ h => h) (Or.inl ⟨by rfl, ?_⟩) hHeld ?_ ?_; rotate_left
      ·rintro w' ⟨s0, s1, s2, s3, s4⟩; exact tR
      rotate_left; exact tP; refine one_ (i := 6) (N := some 18) #[true, true, true, true, true, true, true, true, false] rfl rfl (one_of HT_.out (by kernel_rfl)) (by decide) (fun K hK => ?_); refine goes_ Tryz.func19 (by kernel_rfl) rfl #[.agg #[.int .i64 a0_0, .string a0_1, .slice (some ad409) l0_2.length c0_2, .slice A0_3 l0_3.length c0_3], .string (rdOf ByteArray.empty l0_2 x3_1)] (by rfl) rfl rfl tM ?_; with_reducible refine (spec_at.calls k1 a0_0 a0_1 _ _ l0_2 _ _ l0_3 (rdOf ByteArray.empty l0_2 x3_1) b1 _ ?side1 ?side2 ?side3 ?side4 A5.out).mono ?_
      (case side1 => repeat (first | exact (Kd.C_below HR0_2.out HB.out) | (with_reducible refine Kd.C_alloc ?_ _) | (with_reducible refine Kd.C_drewN ?_ _) | (with_reducible refine Kd.C_drew ?_))); (case side2 => exact HC0_2.out); (case side3 => repeat (first | exact (Kd.C_below HR0_3.out HB.out) | (with_reducible refine Kd.C_alloc ?_ _) | (with_reducible refine Kd.C_drewN ?_ _) | (with_reducible refine Kd.C_drew ?_))); (case side4 => exact HC0_3.out); rintro e w12 ⟨rfl, hb⟩; refine ⟨_, rfl, ?_⟩; have n0_ := sd (blk_below (g := a1) tL hb); have n1_ := sd (below_step tB hb); clear a0; clear HB; have a0 := n0_; have HB := n1_; clear n0_ n1_; (try clear hb); (try clear hb2); (try clear hk); (try clear hi); refine hK.out _ _ ⟨(blk_cell a0.out 0).trans rfl, (blk_cell a0.out 1).trans rfl, (blk_cell a0.out 2).trans rfl, (blk_cell a0.out 3).trans rfl, (cB HB.out hw409_0)⟩ (fun hHeld => ?_); clear hK K
      refine norm_ (a' := ?_) ?_ ?_; rotate_left
      ·show Act.put _ (some 18) _ = _
       simp only [Act.put, List.setIfInBounds_toArray, List.set_cons_zero, List.set_cons_succ, i64_w, i32_w]; rfl
      refine pure_ (i := 8) (N := some 20) (v := ?_) (a' := ?_) #[true, true, true, true, true, true, true, true, true] rfl rfl (any_of HT_.out (by kernel_rfl)) (fun _ _ _ h => h) (Or.inl ⟨by rfl, ?_⟩) ?_ ?_; rotate_left; exact tQ; rotate_left; exact tP; refine done_ (done_of HT_.out (by kernel_rfl)) ?_
      try go_wp2
      go_ret; exact ⟨tE, tB⟩
    ·rw [if_neg c4] at H; exact absurd H (by simp)
   ·rw [if_neg c3] at H; have c3b0 : decide (x3_1 < (l0_2.length : Int)) = false := decide_eq_false c3; clear c3; have H' := sd H; clear H; have hcz13_0 : wr.cell? ⟨a1, 0, none⟩ = some (.int .i64 a0_0) := (blk_cell a0.out 0).trans rfl; have hcz13_1 : wr.cell? ⟨a1, 1, none⟩ = some (.string a0_1) := (blk_cell a0.out 1).trans rfl; have hcz13_2 : wr.cell? ⟨a1, 2, none⟩ = some (.slice A0_2 l0_2.length c0_2) := (blk_cell a0.out 2).trans rfl; have hcz13_3 : wr.cell? ⟨a1, 3, none⟩ = some (.slice A0_3 l0_3.length c0_3) := (blk_cell a0.out 3).trans rfl; have hfz13_0 := blk_frozen a0.out 0; have hfz13_1 := blk_frozen a0.out 1; have hfz13_2 := blk_frozen a0.out 2; have hfz13_3 := blk_frozen a0.out 3; go_wp2; (try simp only [Act.put, List.setIfInBounds_toArray, List.set_cons_zero, List.set_cons_succ])
    go_loopg [4] k1 (fun kq v4 w' => ∃ (x4_2 : Int), v4 = .int .i64 x4_2 ∧ Aside0 (spec_Unique.l1 kq x4_2 a0_0 a0_1 l0_2 l0_3 = some r) ∧ Aside0 (kq ≤ k1) ∧ Aside0 (w'.heap[a1]? = some (.cells #[.int .i64 a0_0, .string a0_1, (.slice A0_2 l0_2.length c0_2), (.slice A0_3 l0_3.length c0_3)] 25 (0, 0))) ∧ Aside0 (Below w.heap.size w w'))
    case atStart => exact ⟨(0), tF, H', ⟨Nat.le_refl _⟩, ⟨tL⟩, ⟨tB⟩⟩
    case round =>
     clear H'; obtain ⟨x4_2, rfl, HA, HK2, a0, HB⟩ := hrel
     cases gk with
     | zero => exact absurd HA.out (by simp [spec_Unique.l1])
     | succ k2 =>
      have H := HA.out; clear HA; simp only [spec_Unique.l1] at H
      by_cases c14 : x4_2 < (l0_3.length : Int)
      ·rw [if_pos c14] at H; have c14b0 : decide (x4_2 < (l0_3.length : Int)) = true := decide_eq_true c14; clear c14
       by_cases c15 : 0 ≤ x4_2
       ·rw [if_pos c15] at H; have c15b0 : decide (0 ≤ x4_2) = true := decide_eq_true c15; clear c15; replace H := Option.bind_eq_some_iff.mp H; obtain ⟨e0, e8, H⟩ := H
        try dsimp only at H
        have A16 := sd e8; clear e8
        by_cases c17 : e0 = true
        ·subst c17; rw [if_pos rfl] at H; have H' := sd H; clear H; have hcz18_0 : wr.cell? ⟨a1, 0, none⟩ = some (.int .i64 a0_0) := (blk_cell a0.out 0).trans rfl; have hcz18_1 : wr.cell? ⟨a1, 1, none⟩ = some (.string a0_1) := (blk_cell a0.out 1).trans rfl; have hcz18_2 : wr.cell? ⟨a1, 2, none⟩ = some (.slice A0_2 l0_2.length c0_2) := (blk_cell a0.out 2).trans rfl; have hcz18_3 : wr.cell? ⟨a1, 3, none⟩ = some (.slice A0_3 l0_3.length c0_3) := (blk_cell a0.out 3).trans rfl; have hfz18_0 := blk_frozen a0.out 0; have hfz18_1 := blk_frozen a0.out 1; have hfz18_2 := blk_frozen a0.out 2; have hfz18_3 := blk_frozen a0.out 3; have b6 : 0 ≤ (x4_2 : Int) := tX; have b7 : x4_2 < (l0_3.length : Int) := tX; obtain ⟨ad411, c9, d0, d1, d2, e411, a7, a8, a9, b0, hl411_2, hi411_2, hl411_3, hi411_3⟩ := at_T25 HR0_3.out x4_2 b6 b7
         cases e411
         replace a7 := cB HB.out a7; replace a8 := cB HB.out a8; replace a9 := cB HB.out a9; replace b0 := cB HB.out b0; have b8 := sd hi411_2; have b9 := sd hl411_2; clear hi411_2 hl411_2; have c0 := sd hi411_3; have c1 := sd hl411_3; clear hi411_3 hl411_3; replace b6 := eq_true b6; replace b7 := eq_true b7
         go_wp2_with (first | ((with_reducible refine gate_callee (f := 11) rfl ?_); refine goesL_ (some 33) rfl rfl Tryz.func11 (by kernel_rfl) rfl #[.agg #[.int .i64 ((rd_T25 l0_3 x4_2).f0), .string ((rd_T25 l0_3 x4_2).f1), .slice c9 ((rd_T25 l0_3 x4_2).f2).length d0, .slice d1 ((rd_T25 l0_3 x4_2).f3).length d2]] rfl tM ?_; (with_reducible refine (ih k2 (by have := HK1.out; have := HK2.out; omega) ((rd_T25 l0_3 x4_2).f0) ((rd_T25 l0_3 x4_2).f1) _ _ ((rd_T25 l0_3 x4_2).f2) _ _ ((rd_T25 l0_3 x4_2).f3) true _ ?side1 ?side2 ?side3 ?side4 A16.out).mono ?_); (case side1 => repeat (first | exact (Kd.C_below b8.out HB.out) | (with_reducible refine Kd.C_alloc ?_ _) | (with_reducible refine Kd.C_drewN ?_ _) | (with_reducible refine Kd.C_drew ?_))); (case side2 => exact b9.out); (case side3 => repeat (first | exact (Kd.C_below c0.out HB.out) | (with_reducible refine Kd.C_alloc ?_ _) | (with_reducible refine Kd.C_drewN ?_ _) | (with_reducible refine Kd.C_drew ?_))); (case side4 => exact c1.out); rintro e w19 ⟨rfl, hb⟩; refine ⟨_, rfl, ?_⟩; have a0 := sd (blk_below (g := a1) tL hb); have HB := sd (below_step tB hb); clear hb))
         go_roundg k2
         case measure => have := HK1.out; have := HK2.out; omega
         case rel => exact ⟨(wrap64 (x4_2 + 1)), tF, H', ⟨by have := HK1.out; have := HK2.out; omega⟩, ⟨tL⟩, ⟨tB⟩⟩
        ·replace c17 := Bool.eq_false_iff.mpr c17; subst c17; rw [if_neg (show ¬ (false = true) by decide)] at H; obtain rfl := Option.some.inj H; have hcz20_0 : wr.cell? ⟨a1, 0, none⟩ = some (.int .i64 a0_0) := (blk_cell a0.out 0).trans rfl; have hcz20_1 : wr.cell? ⟨a1, 1, none⟩ = some (.string a0_1) := (blk_cell a0.out 1).trans rfl; have hcz20_2 : wr.cell? ⟨a1, 2, none⟩ = some (.slice A0_2 l0_2.length c0_2) := (blk_cell a0.out 2).trans rfl; have hcz20_3 : wr.cell? ⟨a1, 3, none⟩ = some (.slice A0_3 l0_3.length c0_3) := (blk_cell a0.out 3).trans rfl; have hfz20_0 := blk_frozen a0.out 0; have hfz20_1 := blk_frozen a0.out 1; have hfz20_2 := blk_frozen a0.out 2; have hfz20_3 := blk_frozen a0.out 3; have b6 : 0 ≤ (x4_2 : Int) := tX; have b7 : x4_2 < (l0_3.length : Int) := tX; obtain ⟨ad411, c9, d0, d1, d2, e411, a7, a8, a9, b0, hl411_2, hi411_2, hl411_3, hi411_3⟩ := at_T25 HR0_3.out x4_2 b6 b7
         cases e411
         replace a7 := cB HB.out a7; replace a8 := cB HB.out a8; replace a9 := cB HB.out a9; replace b0 := cB HB.out b0; have b8 := sd hi411_2; have b9 := sd hl411_2; clear hi411_2 hl411_2; have c0 := sd hi411_3; have c1 := sd hl411_3; clear hi411_3 hl411_3; replace b6 := eq_true b6; replace b7 := eq_true b7
         go_wp2_with (first | ((with_reducible refine gate_callee (f := 11) rfl ?_); refine goesL_ (some 33) rfl rfl Tryz.func11 (by kernel_rfl) rfl #[.agg #[.int .i64 ((rd_T25 l0_3 x4_2).f0), .string ((rd_T25 l0_3 x4_2).f1), .slice c9 ((rd_T25 l0_3 x4_2).f2).length d0, .slice d1 ((rd_T25 l0_3 x4_2).f3).length d2]] rfl tM ?_; (with_reducible refine (ih k2 (by have := HK1.out; have := HK2.out; omega) ((rd_T25 l0_3 x4_2).f0) ((rd_T25 l0_3 x4_2).f1) _ _ ((rd_T25 l0_3 x4_2).f2) _ _ ((rd_T25 l0_3 x4_2).f3) false _ ?side1 ?side2 ?side3 ?side4 A16.out).mono ?_); (case side1 => repeat (first | exact (Kd.C_below b8.out HB.out) | (with_reducible refine Kd.C_alloc ?_ _) | (with_reducible refine Kd.C_drewN ?_ _) | (with_reducible refine Kd.C_drew ?_))); (case side2 => exact b9.out); (case side3 => repeat (first | exact (Kd.C_below c0.out HB.out) | (with_reducible refine Kd.C_alloc ?_ _) | (with_reducible refine Kd.C_drewN ?_ _) | (with_reducible refine Kd.C_drew ?_))); (case side4 => exact c1.out); rintro e w21 ⟨rfl, hb⟩; refine ⟨_, rfl, ?_⟩; have a0 := sd (blk_below (g := a1) tL hb); have HB := sd (below_step tB hb); clear hb))
         go_ret; exact ⟨tE, tB⟩
       ·rw [if_neg c15] at H; exact absurd H (by simp)
      ·rw [if_neg c14] at H; have c14b0 : decide (x4_2 < (l0_3.length : Int)) = false := decide_eq_false c14; clear c14; obtain rfl := Option.some.inj H; have hcz22_0 : wr.cell? ⟨a1, 0, none⟩ = some (.int .i64 a0_0) := (blk_cell a0.out 0).trans rfl; have hcz22_1 : wr.cell? ⟨a1, 1, none⟩ = some (.string a0_1) := (blk_cell a0.out 1).trans rfl; have hcz22_2 : wr.cell? ⟨a1, 2, none⟩ = some (.slice A0_2 l0_2.length c0_2) := (blk_cell a0.out 2).trans rfl; have hcz22_3 : wr.cell? ⟨a1, 3, none⟩ = some (.slice A0_3 l0_3.length c0_3) := (blk_cell a0.out 3).trans rfl; have hfz22_0 := blk_frozen a0.out 0; have hfz22_1 := blk_frozen a0.out 1; have hfz22_2 := blk_frozen a0.out 2; have hfz22_3 := blk_frozen a0.out 3; go_wp2; go_ret; exact ⟨tE, tB⟩
mutual
def spec_Depths.l0 : Nat → Int → List (S31) → Int → Int → Option (Int)
 | 0, _, _, _, _ => none
 | k + 1, x3, x10, x11, x12 => if x12 < x11 then (if 0 ≤ x12 then (if x12 < (x10.length : Int) then ((spec_Depths.f k ((rd_T31 x10 x12).f0) ((rd_T31 x10 x12).f1) ((rd_T31 x10 x12).f2) ((rd_T31 x10 x12).f3) ((rd_T31 x10 x12).f4)).bind fun c8 => (spec_Depths.l0 k (mx x3 c8) x10 x11 (wrap64 (x12 + 1)))) else (none)) else (none)) else (some (wrap64 (x3 + 1)))
def spec_Depths.f : Nat → Int → Int → Int → List (S54) → List (S31) → Option (Int)
 | 0, _, _, _, _, _ => none
 | k + 1, a0_0, a0_1, a0_2, l0_3, l0_4 => if a0_0 = 5 then (spec_Depths.l0 k 0 l0_4 (l0_4.length : Int) 0) else (some 0)
end
theorem spec_Depths.calls (k : Nat) : ∀ (a0_0 : Int) (a0_1 : Int) (a0_2 : Int) (A0_3 : Option Addr) (c0_3 : Nat) (l0_3 : List (S54)) (A0_4 : Option Addr) (c0_4 : Nat) (l0_4 : List (S31)) (r : Int) (w : World) (hr0_3 : Kd.C k54 w A0_3 l0_3.length l0_3) (hc0_3 : l0_3.length ≤ c0_3) (hr0_4 : Kd.C k31 w A0_4 l0_4.length l0_4) (hc0_4 : l0_4.length ≤ c0_4) (h : spec_Depths.f k a0_0 a0_1 a0_2 l0_3 l0_4 = some r),
  Calls Tryz.prog 6 #[.agg #[.int .i64 a0_0, .int .i64 a0_1, .int .i64 a0_2, .slice A0_3 l0_3.length c0_3, .slice A0_4 l0_4.length c0_4]] w fun e w' => e = .returned (.int .i64 r) ∧ Below w.heap.size w w' := by
 induction k using Nat.strongRecOn with
 | _ k ih =>
 intro a0_0 a0_1 a0_2 A0_3 c0_3 l0_3 A0_4 c0_4 l0_4 r w hr0_3 hc0_3 hr0_4 hc0_4 h
 cases k with
 | zero => exact absurd h (by simp [spec_Depths.f])
 | succ k =>
 simp only [spec_Depths.f] at h; have hu31 := Tryz.underlying31; have HR0_3 := sd hr0_3; have HC0_3 := sd hc0_3; clear hr0_3 hc0_3; have HR0_4 := sd hr0_4; have HC0_4 := sd hc0_4; clear hr0_4 hc0_4; have HB := sd (Below.refl w.heap.size w); have H : (if a0_0 = 5 then (spec_Depths.l0 k 0 l0_4 (l0_4.length : Int) 0) else (some 0)) = some r := h; clear h
 by_cases c2 : a0_0 = 5
 ·rw [if_pos c2] at H; have c2b0 : (a0_0 == 5) = true := beq_iff_eq.mpr c2; have c2b1 : (a0_0 != 5) = false := bne_eq_false_iff_eq.mpr c2; clear c2; have H' := sd H; clear H; go_enter Tryz.func6, Tryz.ntmps6; go_wp2_with (first | ((with_reducible refine gate_dst (N := 1) rfl ?_); refine box_event (by rfl) (N := 1) (by rfl) (cs := #[.int .i64 a0_0, .int .i64 a0_1, .int .i64 a0_2, .slice A0_3 l0_3.length c0_3, .slice A0_4 l0_4.length c0_4]) (t := 31) tS ?_; intro b2 hg w3 hbox hb; have b3 := sd hbox; have f8 := sd (leB hg tB); have f9 := sd (leB hg tB); have HB := sd (below_step tB hb); clear hb hbox hg; obtain ⟨z0, z1, z2, z3, z4, y0, y1, y2, y3, y4⟩ := blk5 b3.out)); (try simp only [Act.put, List.setIfInBounds_toArray, List.set_cons_zero, List.set_cons_succ])
  go_loopg [3, 12] k (fun kq v3 v12 w' => ∃ (x3_1 : Int) (x12_1 : Int), v3 = .int .i64 x3_1 ∧ v12 = .int .i64 x12_1 ∧ Aside0 (spec_Depths.l0 kq x3_1 l0_4 (l0_4.length : Int) x12_1 = some r) ∧ Aside0 (kq ≤ k) ∧ Aside0 (w'.heap[b2]? = some (.cells #[.int .i64 a0_0, .int .i64 a0_1, .int .i64 a0_2, (.slice A0_3 l0_3.length c0_3), (.slice A0_4 l0_4.length c0_4)] 31 (0, 0))) ∧ Aside0 (Below w.heap.size w w'))
  case atStart => exact ⟨(0), (0), tF, tF, H', ⟨Nat.le_refl _⟩, ⟨tL⟩, ⟨tB⟩⟩
  case round =>
   clear H'; obtain ⟨x3_1, x12_1, rfl, rfl, HA, HK1, b3, HB⟩ := hrel
   cases gk with
   | zero => exact absurd HA.out (by simp [spec_Depths.l0])
   | succ k1 =>
    have H := HA.out; clear HA; simp only [spec_Depths.l0] at H
    by_cases c5 : x12_1 < (l0_4.length : Int)
    ·rw [if_pos c5] at H; have c5b0 : decide (x12_1 < (l0_4.length : Int)) = true := decide_eq_true c5; clear c5
     by_cases c6 : 0 ≤ x12_1
     ·rw [if_pos c6] at H; have c6b0 : decide (0 ≤ x12_1) = true := decide_eq_true c6; clear c6
      by_cases c7 : x12_1 < (l0_4.length : Int)
      ·rw [if_pos c7] at H; have c7b0 : decide (x12_1 < (l0_4.length : Int)) = true := decide_eq_true c7; clear c7; replace H := Option.bind_eq_some_iff.mp H; obtain ⟨c8, A80, H⟩ := H
       try dsimp only at H
       have A8 := sd A80; clear A80; obtain ⟨ji9, hji9⟩ : ∃ j_ : Int, (mx x3_1 c8) = j_ := ⟨_, rfl⟩
       replace H : (spec_Depths.l0 k1 ji9 l0_4 (l0_4.length : Int) (wrap64 (x12_1 + 1))) = some r := by first | (rw [hji9] at H; exact H) | (simp only [hji9] at H ⊢; exact H)
       (try rw [hji9] at A8); have hji9_ : (if x3_1 < c8 then c8 else x3_1) = ji9 := hji9; have H' := sd H; clear H; have e1 : 0 ≤ (x12_1 : Int) := tX; have e2 : x12_1 < (l0_4.length : Int) := tX; obtain ⟨ad414, e9, f5, f6, f7, e414, d3, d4, d5, d6, d7, hl414_3, hi414_3, hl414_4, hi414_4⟩ := at_T31 HR0_4.out x12_1 e1 e2
       cases e414
       replace d3 := cB HB.out d3; replace d4 := cB HB.out d4; replace d5 := cB HB.out d5; replace d6 := cB HB.out d6; replace d7 := cB HB.out d7; have e4 := sd hi414_3; have e5 := sd hl414_3; clear hi414_3 hl414_3; have e6 := sd hi414_4; have e7 := sd hl414_4; clear hi414_4 hl414_4; replace e1 := eq_true e1; replace e2 := eq_true e2
       go_wp2_with (first | ((with_reducible refine gate_dst (N := 5) rfl ?_); refine box_event (by rfl) (N := 5) (by rfl) (cs := #[.int .i64 0, .int .i64 0, .int .i64 0, .slice none 0 0, .slice none 0 0]) (t := 31) tS ?_; intro g0 hg w10 hbox hb; have b3 := sd (blk_below (g := b2) tL hb); have e3 := sd hbox; have g3 := sd (leB hg tB); have g4 := sd (leB hg tB); have HB := sd (below_step tB hb); have d8 := sd (neL hg (blk_lt (g := b2) tL)); have d9 := sd (neR hg (blk_lt (g := b2) tL)); clear hb hbox hg; have hnb11 := d9.out; have hnc11 := d8.out; obtain ⟨z0, z1, z2, z3, z4, y0, y1, y2, y3, y4⟩ := blk5 e3.out) | ((with_reducible refine gate_callee (f := 6) rfl ?_); refine goesL_ (some 18) rfl rfl Tryz.func6 (by kernel_rfl) rfl #[.agg #[.int .i64 ((rd_T31 l0_4 x12_1).f0), .int .i64 ((rd_T31 l0_4 x12_1).f1), .int .i64 ((rd_T31 l0_4 x12_1).f2), .slice e9 ((rd_T31 l0_4 x12_1).f3).length f5, .slice f6 ((rd_T31 l0_4 x12_1).f4).length f7]] rfl tM ?_; (with_reducible refine (ih k1 (by have := HK1.out; omega) ((rd_T31 l0_4 x12_1).f0) ((rd_T31 l0_4 x12_1).f1) ((rd_T31 l0_4 x12_1).f2) _ _ ((rd_T31 l0_4 x12_1).f3) _ _ ((rd_T31 l0_4 x12_1).f4) c8 _ ?_ ?_ ?_ ?_ A8.out).mono ?_); exact Kd.C_below e4.out tB; exact e5.out; exact Kd.C_below e6.out tB; exact e7.out; rintro e w13 ⟨rfl, hb⟩; refine ⟨_, rfl, ?_⟩; have b3 := sd (blk_below (g := b2) tC hb); have e3 := sd (blk_below (g := g0) tC hb); have HB := sd (below_step tB hb); clear hb))
       go_roundg k1
       case measure => have := HK1.out; omega
       case rel => exact ⟨(ji9), (wrap64 (x12_1 + 1)), (by first | rfl | (simp; done) | (simp only [← hji9] <;> (first | rfl | simp)) | (simp [*]; done)), tF, H', ⟨by have := HK1.out; omega⟩, ⟨tL⟩, ⟨tB⟩⟩
      ·rw [if_neg c7] at H; exact absurd H (by simp)
     ·rw [if_neg c6] at H; exact absurd H (by simp)
    ·rw [if_neg c5] at H; have c5b0 : decide (x12_1 < (l0_4.length : Int)) = false := decide_eq_false c5; clear c5; obtain rfl := Option.some.inj H; go_wp2; go_ret; exact ⟨tE, tB⟩
 ·rw [if_neg c2] at H; have c2b0 : (a0_0 == 5) = false := beq_eq_false_iff_ne.mpr c2; have c2b1 : (a0_0 != 5) = true := bne_iff_ne.mpr c2; obtain rfl := Option.some.inj H; go_enter Tryz.func6, Tryz.ntmps6; go_wp2_with (first | ((with_reducible refine gate_dst (N := 1) rfl ?_); refine box_event (by rfl) (N := 1) (by rfl) (cs := #[.int .i64 a0_0, .int .i64 a0_1, .int .i64 a0_2, .slice A0_3 l0_3.length c0_3, .slice A0_4 l0_4.length c0_4]) (t := 31) tS ?_; intro b2 hg w14 hbox hb; have b3 := sd hbox; have f8 := sd (leB hg tB); have f9 := sd (leB hg tB); have HB := sd (below_step tB hb); clear hb hbox hg; obtain ⟨z0, z1, z2, z3, z4, y0, y1, y2, y3, y4⟩ := blk5 b3.out)); go_ret; exact ⟨tE, tB⟩
end Go.Proofs.YtdacgdjjdifneaaGreatDoor.PFnGjFlattenOften
