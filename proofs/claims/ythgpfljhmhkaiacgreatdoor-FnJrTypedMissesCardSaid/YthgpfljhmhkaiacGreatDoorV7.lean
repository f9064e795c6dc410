/- Walks of the functions that the law calls, printed by program and rewritten. -/
import Derived.Test.YthgpfljhmhkaiacGreatDoorV0
import Derived.Test.YthgpfljhmhkaiacGreatDoorV6
set_option linter.all false
namespace Go.Proofs.YthgpfljhmhkaiacGreatDoor.PFnJrTypedMisses
open Go.RowKit Go.Proofs.YthgpfljhmhkaiacGreatDoorW.PrintWords Go.Proofs.YthgpfljhmhkaiacGreatDoorW.PrintLast Go.Proofs.YthgpfljhmhkaiacGreatDoorW.PrintMore
attribute [local go_sem] max2_int min2_int max_two min_two max_three min_three max_four min_four
/-! ### spec_Named: function 52 -/
def spec_Named.l0 : Nat → ByteArray → ByteArray → Int → Int → Int → Int → List (S64) → List (S31) → Option (Int)
 | 0, _, _, _, _, _, _, _, _ => none
 | k + 1, x0, x2, x7, b4, b5, b6, a8, b7 => if x7 < (a8.length : Int) then (if 0 ≤ x7 then (if 0 ≤ ((rd_T64 a8 x7).f0) then (if ((rd_T64 a8 x7).f0) ≤ ((rd_T64 a8 x7).f1) then (if ((rd_T64 a8 x7).f1) ≤ (x0.size : Int) then ((spec_Unquote.f k (x0.extract (((rd_T64 a8 x7).f0) : Int).toNat (((rd_T64 a8 x7).f1) : Int).toNat)).bind fun a9 => (if a9.toList = x2.toList then (some x7) else (spec_Named.l0 k x0 x2 (wrap64 (x7 + 1)) b4 b5 b6 a8 b7))) else (none)) else (none)) else (none)) else (none)) else (some (-1))
def spec_Named.f (k : Nat) (a0 : ByteArray) (a1_0 : Int) (a1_1 : Int) (a1_2 : Int) (l1_3 : List (S64)) (l1_4 : List (S31)) (a2 : ByteArray) : Option (Int) := spec_Named.l0 k a0 a2 0 a1_0 a1_1 a1_2 l1_3 l1_4
def spec_Named.T4 : Bool × List (List Nat × List Nat) := (true, [([], []), ([], []), ([1], [1]), ([], []), ([2, 3], [2, 3]), ([4], [4]), ([5], [5]), ([], []), ([7], [7]), ([], []), ([8, 9], [8, 9]), ([10], [10]), ([11], [11]), ([0, 6, 12], [0, 6, 12]), ([13], [13]), ([], []), ([14, 15], [14, 15])])
def spec_Named.B4 : List Nat := [0, 0, 2, 0, 14, 30, 62, 0, 128, 0, 896, 1920, 3968, 8191, 16383, 0, 65535]
theorem spec_Named.tab4 : rtab .any (opsOf Tryz.f52 4) = spec_Named.T4 := by kernel_rfl
theorem spec_Named.bits4 : waitsOk spec_Named.T4.2 spec_Named.B4 = true := by kernel_rfl
set_option maxHeartbeats 8000000 in
set_option maxRecDepth 100000 in
theorem spec_Named.calls (k : Nat) (a0 : ByteArray) (a1_0 : Int) (a1_1 : Int) (a1_2 : Int) (A1_3 : Option Addr) (c1_3 : Nat) (l1_3 : List (S64)) (A1_4 : Option Addr) (c1_4 : Nat) (l1_4 : List (S31)) (a2 : ByteArray) (r : Int) (w : World) (hr1_3 : Kd.C k64 w A1_3 l1_3.length l1_3) (hc1_3 : l1_3.length ≤ c1_3) (hr1_4 : Kd.C k31 w A1_4 l1_4.length l1_4) (hc1_4 : l1_4.length ≤ c1_4) (h : spec_Named.f k a0 a1_0 a1_1 a1_2 l1_3 l1_4 a2 = some r) :
  Calls Tryz.prog 52 #[.string a0, .agg #[.int .i64 a1_0, .int .i64 a1_1, .int .i64 a1_2, .slice A1_3 l1_3.length c1_3, .slice A1_4 l1_4.length c1_4], .string a2] w fun e w' => e = .returned (.int .i64 r) ∧ Below w.heap.size w w' := by
 have hu31 := Tryz.underlying31
 have HR1_3 := sd hr1_3
 have HC1_3 := sd hc1_3
 clear hr1_3 hc1_3
 have HR1_4 := sd hr1_4
 have HC1_4 := sd hc1_4
 clear hr1_4 hc1_4
 have HB := sd (Below.refl w.heap.size w)
 have H : (spec_Named.l0 k a0 a2 0 a1_0 a1_1 a1_2 l1_3 l1_4) = some r := h
 clear h
 have H' := sd H
 clear H
 go_enter Tryz.func52, Tryz.ntmps52
 go_wp2_with (first | ((with_reducible refine gate_dst (N := 4) rfl ?_); refine box_event (by rfl) (N := 4) (by rfl) (cs := #[.int .i64 a1_0, .int .i64 a1_1, .int .i64 a1_2, .slice A1_3 l1_3.length c1_3, .slice A1_4 l1_4.length c1_4]) (t := 31) tS ?_; intro a7 hg w4 hbox hb; have a1 := sd (hbox); have b9 := sd (leB hg tB); have c0 := sd (leB hg tB); have HB := sd (below_step tB hb); clear hb hbox hg))
 (try simp only [Act.put, List.setIfInBounds_toArray, List.set_cons_zero, List.set_cons_succ])
 go_loopg [7] k (fun kq v7 w' => ∃ (x7_1 : Int), v7 = .int .i64 x7_1 ∧ Aside0 (spec_Named.l0 kq a0 a2 x7_1 a1_0 a1_1 a1_2 l1_3 l1_4 = some r) ∧ Aside0 (kq ≤ k) ∧ Aside0 (w'.heap[a7]? = some (.cells #[.int .i64 a1_0, .int .i64 a1_1, .int .i64 a1_2, (.slice A1_3 l1_3.length c1_3), (.slice A1_4 l1_4.length c1_4)] 31 (0, 0))) ∧ Aside0 (Below w.heap.size w w'))
 case atStart => exact ⟨(0), tF, H', ⟨Nat.le_refl _⟩, ⟨tL⟩, ⟨tB⟩⟩
 case round =>
  clear H'
  obtain ⟨x7_1, rfl, HA, HK1, a1, HB⟩ := hrel
  cases gk with
  | zero => exact absurd HA.out (by simp [spec_Named.l0])
  | succ k1 =>
   have H := HA.out
   clear HA
   simp only [spec_Named.l0] at H
   by_cases c5 : x7_1 < (l1_3.length : Int)
   ·rw [if_pos c5] at H
    have c5b0 : decide (x7_1 < (l1_3.length : Int)) = true := decide_eq_true c5
    clear c5
    by_cases c6 : 0 ≤ x7_1
    ·rw [if_pos c6] at H
     have c6b0 : decide (0 ≤ x7_1) = true := decide_eq_true c6
     clear c6
     by_cases c7 : 0 ≤ ((rd_T64 l1_3 x7_1).f0)
     ·rw [if_pos c7] at H
      have c7b0 := eq_true c7
      have c7b1 : decide (0 ≤ ((rd_T64 l1_3 x7_1).f0)) = true := decide_eq_true c7
      clear c7
      by_cases c8 : ((rd_T64 l1_3 x7_1).f0) ≤ ((rd_T64 l1_3 x7_1).f1)
      ·rw [if_pos c8] at H
       have c8b0 := eq_true c8
       have c8b1 : decide (((rd_T64 l1_3 x7_1).f0) ≤ ((rd_T64 l1_3 x7_1).f1)) = true := decide_eq_true c8
       clear c8
       by_cases c9 : ((rd_T64 l1_3 x7_1).f1) ≤ (a0.size : Int)
       ·rw [if_pos c9] at H
        have c9b0 := eq_true c9
        have c9b1 : decide (((rd_T64 l1_3 x7_1).f1) ≤ (a0.size : Int)) = true := decide_eq_true c9
        clear c9
        replace H := Option.bind_eq_some_iff.mp H
        obtain ⟨a9, b8, H⟩ := H
        try dsimp only at H
        have A10 := sd b8
        clear b8
        by_cases c11 : a9.toList = a2.toList
        ·rw [if_pos c11] at H
         have c11b0 : (a9.toList == a2.toList) = true := beq_iff_eq.mpr c11
         have c11b1 : (a9.toList != a2.toList) = false := bne_eq_false_iff_eq.mpr c11
         clear c11
         obtain rfl := Option.some.inj H
         obtain ⟨z0, z1, z2, z3, z4, y0, y1, y2, y3, y4⟩ := blk5 a1.out
         try go_wp2
         have n0_ := sd (blk_drew a1.out)
         have n1_ := sd (below_drew1 HB.out)
         clear a1
         clear HB
         have a1 := n0_
         have HB := n1_
         clear n0_ n1_
         have b0 : 0 ≤ (x7_1 : Int) := of_decide_eq_true (by first | (with_reducible assumption) | assumption)
         have b1 : x7_1 < (l1_3.length : Int) := of_decide_eq_true (by first | (with_reducible assumption) | assumption)
         obtain ⟨ad355, e355, a3, a4⟩ := at_T64 HR1_3.out x7_1 b0 b1
         have hw355_1 := a4
         have hw355_0 := a3
         cases e355
         replace a3 := (HB.out.cell (World.block_lt_of_cell? w _ a3)).trans a3
         replace a4 := (HB.out.cell (World.block_lt_of_cell? w _ a4)).trans a4
         replace b0 := eq_true b0
         replace b1 := eq_true b1
         have b2 : 0 ≤ (x7_1 : Int) := of_decide_eq_true (by first | (with_reducible assumption) | assumption)
         have b3 : x7_1 < (l1_3.length : Int) := of_decide_eq_true (by first | (with_reducible assumption) | assumption)
         obtain ⟨ad356, e356, a5, a6⟩ := at_T64 HR1_3.out x7_1 b2 b3
         have hw356_1 := a6
         have hw356_0 := a5
         obtain rfl : ad355 = ad356 := (by injection e356)
         replace a5 := (HB.out.cell (World.block_lt_of_cell? w _ a5)).trans a5
         replace a6 := (HB.out.cell (World.block_lt_of_cell? w _ a6)).trans a6
         replace b2 := eq_true b2
         replace b3 := eq_true b3
         refine start_ (n := 17) (S := fun w' => w'.cell? ⟨a7, 0, none⟩ = some (.int .i64 a1_0) ∧ w'.cell? ⟨a7, 1, none⟩ = some (.int .i64 a1_1) ∧ w'.cell? ⟨a7, 2, none⟩ = some (.int .i64 a1_2) ∧ w'.cell? ⟨a7, 3, none⟩ = some (.slice (some ad355) l1_3.length c1_3) ∧ w'.cell? ⟨a7, 4, none⟩ = some (.slice A1_4 l1_4.length c1_4) ∧ w'.cell? (ad355.add ((x7_1).toNat * 2)) = some (.int .i64 ((rd_T64 l1_3 x7_1).f0)) ∧ w'.cell? ⟨(ad355.add ((x7_1).toNat * 2)).block, (ad355.add ((x7_1).toNat * 2)).off + 1, none⟩ = some (.int .i64 ((rd_T64 l1_3 x7_1).f1)) ∧ w'.cell? (ad355.add ((x7_1).toNat * 2)) = some (.int .i64 ((rd_T64 l1_3 x7_1).f0)) ∧ w'.cell? ⟨(ad355.add ((x7_1).toNat * 2)).block, (ad355.add ((x7_1).toNat * 2)).off + 1, none⟩ = some (.int .i64 ((rd_T64 l1_3 x7_1).f1))) (ds := []) #[false, false, false, false, false, false, false, false, false, false, false, false, false, false, false, false, false] (by kernel_rfl) rfl rfl ⟨(blk_cell a1.out 0).trans rfl, (blk_cell a1.out 1).trans rfl, (blk_cell a1.out 2).trans rfl, (blk_cell a1.out 3).trans rfl, (blk_cell a1.out 4).trans rfl, ((HB.out.cell (World.block_lt_of_cell? w _ hw355_0)).trans hw355_0), ((HB.out.cell (World.block_lt_of_cell? w _ hw355_1)).trans hw355_1), ((HB.out.cell (World.block_lt_of_cell? w _ hw356_0)).trans hw356_0), ((HB.out.cell (World.block_lt_of_cell? w _ hw356_1)).trans hw356_1)⟩ (fun hHeld => ?_); refine with_tabW spec_Named.tab4 spec_Named.bits4 (fun HT_ HW_ => ?_)
         generalize wr.drew = w13 at a1 HB a3 a4 a5 a6 hHeld ⊢
         refine pure_ (i := 0) (N := some 15) (v := ?_) (a' := ?_) #[true, false, false, false, false, false, false, false, false, false, false, false, false, false, false, false, false] rfl rfl (any_of HT_.out (by kernel_rfl)) (fun _ _ _ h => h) (Or.inl ⟨by rfl, ?_⟩) ?_ ?_
         rotate_left
         ·intro w'
          go_simp
          with_reducible rfl
         rotate_left
         ·simp only [Act.put, List.setIfInBounds_toArray, List.set_cons_zero, List.set_cons_succ, i64_w, i32_w]
          rfl
         refine pure_ (i := 1) (N := some 16) (v := ?_) (a' := ?_) #[true, true, false, false, false, false, false, false, false, false, false, false, false, false, false, false, false] rfl rfl (any_of HT_.out (by kernel_rfl)) (fun _ _ _ h => h) (Or.inl ⟨by rfl, ?_⟩) ?_ ?_
         rotate_left
         ·intro w'
          go_simp
          with_reducible rfl
         rotate_left
         ·simp only [Act.put, List.setIfInBounds_toArray, List.set_cons_zero, List.set_cons_succ, i64_w, i32_w]
          rfl
         refine pure_ (i := 3) (N := some 18) (v := ?_) (a' := ?_) #[true, true, false, true, false, false, false, false, false, false, false, false, false, false, false, false, false] rfl rfl (any_of HT_.out (by kernel_rfl)) (fun _ _ _ h => h) (Or.inl ⟨by rfl, ?_⟩) ?_ ?_
         rotate_left
         ·intro w'
          go_simp
          with_reducible rfl
         rotate_left
         ·simp only [Act.put, List.setIfInBounds_toArray, List.set_cons_zero, List.set_cons_succ, i64_w, i32_w]
          rfl
         refine pure_ (i := 7) (N := some 22) (v := ?_) (a' := ?_) #[true, true, false, true, false, false, false, true, false, false, false, false, false, false, false, false, false] rfl rfl (any_of HT_.out (by kernel_rfl)) (fun _ _ _ h => h) (Or.inl ⟨by rfl, ?_⟩) ?_ ?_
         rotate_left
         ·intro w'
          go_simp
          with_reducible rfl
         rotate_left
         ·simp only [Act.put, List.setIfInBounds_toArray, List.set_cons_zero, List.set_cons_succ, i64_w, i32_w]
          rfl
         refine pure_ (i := 9) (N := some 24) (v := ?_) (a' := ?_) #[true, true, false, true, false, false, false, true, false, true, false, false, false, false, false, false, false] rfl rfl (any_of HT_.out (by kernel_rfl)) (fun _ _ _ h => h) (Or.inl ⟨by rfl, ?_⟩) ?_ ?_
         rotate_left
         ·intro w'
          go_simp
          with_reducible rfl
         rotate_left
         ·simp only [Act.put, List.setIfInBounds_toArray, List.set_cons_zero, List.set_cons_succ, i64_w, i32_w]
          rfl
         refine pure_ (i := 15) (N := some 30) (v := ?_) (a' := ?_) #[true, true, false, true, false, false, false, true, false, true, false, false, false, false, false, true, false] rfl rfl (any_of HT_.out (by kernel_rfl)) (fun _ _ _ h => h) (Or.inl ⟨by rfl, ?_⟩) ?_ ?_
         rotate_left
         ·intro w'
          go_simp
          with_reducible rfl
         rotate_left
         ·simp only [Act.put, List.setIfInBounds_toArray, List.set_cons_zero, List.set_cons_succ, i64_w, i32_w]
          rfl
         refine take_ (i := 2) (N := some 17) (v := ?_) (a' := ?_) #[true, true, true, true, false, false, false, true, false, true, false, false, false, false, false, true, false] rfl rfl (take_ofW HT_.out HW_.out (by kernel_rfl)) (fun _ _ _ h => h) (Or.inl ⟨by rfl, ?_⟩) hHeld ?_ ?_
         rotate_left
         ·rintro w' ⟨s0, s1, s2, s3, s4, s5, s6, s7, s8⟩
          go_simp
          with_reducible rfl
         rotate_left
         ·simp only [Act.put, List.setIfInBounds_toArray, List.set_cons_zero, List.set_cons_succ, i64_w, i32_w]
          rfl
         refine pure_ (i := 4) (N := some 19) (v := ?_) (a' := ?_) #[true, true, true, true, true, false, false, true, false, true, false, false, false, false, false, true, false] rfl rfl (any_of HT_.out (by kernel_rfl)) (fun _ _ _ h => h) (Or.inl ⟨by rfl, ?_⟩) ?_ ?_
         rotate_left
         ·intro w'
          go_simp
          with_reducible rfl
         rotate_left
         ·simp only [Act.put, List.setIfInBounds_toArray, List.set_cons_zero, List.set_cons_succ, i64_w, i32_w]
          rfl
         refine pure_ (i := 5) (N := some 20) (v := ?_) (a' := ?_) #[true, true, true, true, true, true, false, true, false, true, false, false, false, false, false, true, false] rfl rfl (any_of HT_.out (by kernel_rfl)) (fun _ _ _ h => h) (Or.inl ⟨by rfl, ?_⟩) ?_ ?_
         rotate_left
         ·intro w'
          go_simp
          with_reducible rfl
         rotate_left
         ·simp only [Act.put, List.setIfInBounds_toArray, List.set_cons_zero, List.set_cons_succ, i64_w, i32_w]
          rfl
         refine take_ (i := 6) (N := some 21) (v := ?_) (a' := ?_) #[true, true, true, true, true, true, true, true, false, true, false, false, false, false, false, true, false] rfl rfl (take_ofW HT_.out HW_.out (by kernel_rfl)) (fun _ _ _ h => h) (Or.inl ⟨by rfl, ?_⟩) hHeld ?_ ?_
         rotate_left
         ·rintro w' ⟨s0, s1, s2, s3, s4, s5, s6, s7, s8⟩
          go_simp
          with_reducible rfl
         rotate_left
         ·simp only [Act.put, List.setIfInBounds_toArray, List.set_cons_zero, List.set_cons_succ, i64_w, i32_w]
          rfl
         refine take_ (i := 8) (N := some 23) (v := ?_) (a' := ?_) #[true, true, true, true, true, true, true, true, true, true, false, false, false, false, false, true, false] rfl rfl (take_ofW HT_.out HW_.out (by kernel_rfl)) (fun _ _ _ h => h) (Or.inl ⟨by rfl, ?_⟩) hHeld ?_ ?_
         rotate_left
         ·rintro w' ⟨s0, s1, s2, s3, s4, s5, s6, s7, s8⟩
          go_simp
          with_reducible rfl
         rotate_left
         ·simp only [Act.put, List.setIfInBounds_toArray, List.set_cons_zero, List.set_cons_succ, i64_w, i32_w]
          rfl
         refine pure_ (i := 10) (N := some 25) (v := ?_) (a' := ?_) #[true, true, true, true, true, true, true, true, true, true, true, false, false, false, false, true, false] rfl rfl (any_of HT_.out (by kernel_rfl)) (fun _ _ _ h => h) (Or.inl ⟨by rfl, ?_⟩) ?_ ?_
         rotate_left
         ·intro w'
          go_simp
          with_reducible rfl
         rotate_left
         ·simp only [Act.put, List.setIfInBounds_toArray, List.set_cons_zero, List.set_cons_succ, i64_w, i32_w]
          rfl
         refine pure_ (i := 11) (N := some 26) (v := ?_) (a' := ?_) #[true, true, true, true, true, true, true, true, true, true, true, true, false, false, false, true, false] rfl rfl (any_of HT_.out (by kernel_rfl)) (fun _ _ _ h => h) (Or.inl ⟨by rfl, ?_⟩) ?_ ?_
         rotate_left
         ·intro w'
          go_simp
          with_reducible rfl
         rotate_left
         ·simp only [Act.put, List.setIfInBounds_toArray, List.set_cons_zero, List.set_cons_succ, i64_w, i32_w]
          rfl
         refine take_ (i := 12) (N := some 27) (v := ?_) (a' := ?_) #[true, true, true, true, true, true, true, true, true, true, true, true, true, false, false, true, false] rfl rfl (take_ofW HT_.out HW_.out (by kernel_rfl)) (fun _ _ _ h => h) (Or.inl ⟨by rfl, ?_⟩) hHeld ?_ ?_
         rotate_left
         ·rintro w' ⟨s0, s1, s2, s3, s4, s5, s6, s7, s8⟩
          go_simp
          with_reducible rfl
         rotate_left
         ·simp only [Act.put, List.setIfInBounds_toArray, List.set_cons_zero, List.set_cons_succ, i64_w, i32_w]
          rfl
         refine pure_ (i := 13) (N := some 28) (v := ?_) (a' := ?_) #[true, true, true, true, true, true, true, true, true, true, true, true, true, true, false, true, false] rfl rfl (any_of HT_.out (by kernel_rfl)) (fun _ _ _ h => h) (Or.inl ⟨by rfl, ?_⟩) ?_ ?_
         rotate_left
         ·intro w'
          go_simp
          with_reducible rfl
         rotate_left
         ·simp only [Act.put, List.setIfInBounds_toArray, List.set_cons_zero, List.set_cons_succ, i64_w, i32_w]
          rfl
         refine one_ (i := 14) (N := some 29) #[true, true, true, true, true, true, true, true, true, true, true, true, true, true, true, true, false] rfl rfl (one_of HT_.out (by kernel_rfl)) (by decide) (fun K hK => ?_)
         refine goes_ Tryz.func30 (by kernel_rfl) rfl #[.string (a0.extract (((rd_T64 l1_3 x7_1).f0) : Int).toNat (((rd_T64 l1_3 x7_1).f1) : Int).toNat)] (by rfl) rfl rfl tM ?_
         with_reducible refine (spec_Unquote.calls k1 (a0.extract (((rd_T64 l1_3 x7_1).f0) : Int).toNat (((rd_T64 l1_3 x7_1).f1) : Int).toNat) a9 _ A10.out).mono ?_
         rintro e w14 ⟨rfl, hb⟩
         refine ⟨_, rfl, ?_⟩
         have n0_ := sd (blk_below (g := a7) tL hb)
         have n1_ := sd (below_step tB hb)
         clear a1
         clear HB
         have a1 := n0_
         have HB := n1_
         clear n0_ n1_
         (try clear hb)
         (try clear hb2)
         (try clear hk)
         (try clear hi)
         refine hK.out _ _ ⟨(blk_cell a1.out 0).trans rfl, (blk_cell a1.out 1).trans rfl, (blk_cell a1.out 2).trans rfl, (blk_cell a1.out 3).trans rfl, (blk_cell a1.out 4).trans rfl, ((HB.out.cell (World.block_lt_of_cell? w _ hw355_0)).trans hw355_0), ((HB.out.cell (World.block_lt_of_cell? w _ hw355_1)).trans hw355_1), ((HB.out.cell (World.block_lt_of_cell? w _ hw356_0)).trans hw356_0), ((HB.out.cell (World.block_lt_of_cell? w _ hw356_1)).trans hw356_1)⟩ (fun hHeld => ?_)
         clear hK K
         refine norm_ (a' := ?_) ?_ ?_
         rotate_left
         ·show Act.put _ (some 29) _ = _
          simp only [Act.put, List.setIfInBounds_toArray, List.set_cons_zero, List.set_cons_succ, i64_w, i32_w]
          rfl
         refine pure_ (i := 16) (N := some 31) (v := ?_) (a' := ?_) #[true, true, true, true, true, true, true, true, true, true, true, true, true, true, true, true, true] rfl rfl (any_of HT_.out (by kernel_rfl)) (fun _ _ _ h => h) (Or.inl ⟨by rfl, ?_⟩) ?_ ?_
         rotate_left
         ·intro w'
          go_simp
          with_reducible rfl
         rotate_left
         ·simp only [Act.put, List.setIfInBounds_toArray, List.set_cons_zero, List.set_cons_succ, i64_w, i32_w]
          rfl
         refine done_ (done_of HT_.out (by kernel_rfl)) ?_
         try go_wp2
         go_ret
         exact ⟨tE, tB⟩
        ·rw [if_neg c11] at H
         have c11b0 : (a9.toList == a2.toList) = false := beq_eq_false_iff_ne.mpr c11
         have c11b1 : (a9.toList != a2.toList) = true := bne_iff_ne.mpr c11
         have H' := sd H
         clear H
         obtain ⟨z0, z1, z2, z3, z4, y0, y1, y2, y3, y4⟩ := blk5 a1.out
         try go_wp2
         have n0_ := sd (blk_drew a1.out)
         have n1_ := sd (below_drew1 HB.out)
         clear a1
         clear HB
         have a1 := n0_
         have HB := n1_
         clear n0_ n1_
         have b0 : 0 ≤ (x7_1 : Int) := of_decide_eq_true (by first | (with_reducible assumption) | assumption)
         have b1 : x7_1 < (l1_3.length : Int) := of_decide_eq_true (by first | (with_reducible assumption) | assumption)
         obtain ⟨ad355, e355, a3, a4⟩ := at_T64 HR1_3.out x7_1 b0 b1
         have hw355_1 := a4
         have hw355_0 := a3
         cases e355
         replace a3 := (HB.out.cell (World.block_lt_of_cell? w _ a3)).trans a3
         replace a4 := (HB.out.cell (World.block_lt_of_cell? w _ a4)).trans a4
         replace b0 := eq_true b0
         replace b1 := eq_true b1
         have b2 : 0 ≤ (x7_1 : Int) := of_decide_eq_true (by first | (with_reducible assumption) | assumption)
         have b3 : x7_1 < (l1_3.length : Int) := of_decide_eq_true (by first | (with_reducible assumption) | assumption)
         obtain ⟨ad356, e356, a5, a6⟩ := at_T64 HR1_3.out x7_1 b2 b3
         have hw356_1 := a6
         have hw356_0 := a5
         obtain rfl : ad355 = ad356 := (by injection e356)
         replace a5 := (HB.out.cell (World.block_lt_of_cell? w _ a5)).trans a5
         replace a6 := (HB.out.cell (World.block_lt_of_cell? w _ a6)).trans a6
         replace b2 := eq_true b2
         replace b3 := eq_true b3
         refine start_ (n := 17) (S := fun w' => w'.cell? ⟨a7, 0, none⟩ = some (.int .i64 a1_0) ∧ w'.cell? ⟨a7, 1, none⟩ = some (.int .i64 a1_1) ∧ w'.cell? ⟨a7, 2, none⟩ = some (.int .i64 a1_2) ∧ w'.cell? ⟨a7, 3, none⟩ = some (.slice (some ad355) l1_3.length c1_3) ∧ w'.cell? ⟨a7, 4, none⟩ = some (.slice A1_4 l1_4.length c1_4) ∧ w'.cell? (ad355.add ((x7_1).toNat * 2)) = some (.int .i64 ((rd_T64 l1_3 x7_1).f0)) ∧ w'.cell? ⟨(ad355.add ((x7_1).toNat * 2)).block, (ad355.add ((x7_1).toNat * 2)).off + 1, none⟩ = some (.int .i64 ((rd_T64 l1_3 x7_1).f1)) ∧ w'.cell? (ad355.add ((x7_1).toNat * 2)) = some (.int .i64 ((rd_T64 l1_3 x7_1).f0)) ∧ w'.cell? ⟨(ad355.add ((x7_1).toNat * 2)).block, (ad355.add ((x7_1).toNat * 2)).off + 1, none⟩ = some (.int .i64 ((rd_T64 l1_3 x7_1).f1))) (ds := []) #[false, false, false, false, false, false, false, false, false, false, false, false, false, false, false, false, false] (by kernel_rfl) rfl rfl ⟨(blk_cell a1.out 0).trans rfl, (blk_cell a1.out 1).trans rfl, (blk_cell a1.out 2).trans rfl, (blk_cell a1.out 3).trans rfl, (blk_cell a1.out 4).trans rfl, ((HB.out.cell (World.block_lt_of_cell? w _ hw355_0)).trans hw355_0), ((HB.out.cell (World.block_lt_of_cell? w _ hw355_1)).trans hw355_1), ((HB.out.cell (World.block_lt_of_cell? w _ hw356_0)).trans hw356_0), ((HB.out.cell (World.block_lt_of_cell? w _ hw356_1)).trans hw356_1)⟩ (fun hHeld => ?_); refine with_tabW spec_Named.tab4 spec_Named.bits4 (fun HT_ HW_ => ?_)
         generalize wr.drew = w16 at a1 HB a3 a4 a5 a6 hHeld ⊢
         refine pure_ (i := 0) (N := some 15) (v := ?_) (a' := ?_) #[true, false, false, false, false, false, false, false, false, false, false, false, false, false, false, false, false] rfl rfl (any_of HT_.out (by kernel_rfl)) (fun _ _ _ h => h) (Or.inl ⟨by rfl, ?_⟩) ?_ ?_
         rotate_left
         ·intro w'
          go_simp
          with_reducible rfl
         rotate_left
         ·simp only [Act.put, List.setIfInBounds_toArray, List.set_cons_zero, List.set_cons_succ, i64_w, i32_w]
          rfl
         refine pure_ (i := 1) (N := some 16) (v := ?_) (a' := ?_) #[true, true, false, false, false, false, false, false, false, false, false, false, false, false, false, false, false] rfl rfl (any_of HT_.out (by kernel_rfl)) (fun _ _ _ h => h) (Or.inl ⟨by rfl, ?_⟩) ?_ ?_
         rotate_left
         ·intro w'
          go_simp
          with_reducible rfl
         rotate_left
         ·simp only [Act.put, List.setIfInBounds_toArray, List.set_cons_zero, List.set_cons_succ, i64_w, i32_w]
          rfl
         refine pure_ (i := 3) (N := some 18) (v := ?_) (a' := ?_) #[true, true, false, true, false, false, false, false, false, false, false, false, false, false, false, false, false] rfl rfl (any_of HT_.out (by kernel_rfl)) (fun _ _ _ h => h) (Or.inl ⟨by rfl, ?_⟩) ?_ ?_
         rotate_left
         ·intro w'
          go_simp
          with_reducible rfl
         rotate_left
         ·simp only [Act.put, List.setIfInBounds_toArray, List.set_cons_zero, List.set_cons_succ, i64_w, i32_w]
          rfl
         refine pure_ (i := 7) (N := some 22) (v := ?_) (a' := ?_) #[true, true, false, true, false, false, false, true, false, false, false, false, false, false, false, false, false] rfl rfl (any_of HT_.out (by kernel_rfl)) (fun _ _ _ h => h) (Or.inl ⟨by rfl, ?_⟩) ?_ ?_
         rotate_left
         ·intro w'
          go_simp
          with_reducible rfl
         rotate_left
         ·simp only [Act.put, List.setIfInBounds_toArray, List.set_cons_zero, List.set_cons_succ, i64_w, i32_w]
          rfl
         refine pure_ (i := 9) (N := some 24) (v := ?_) (a' := ?_) #[true, true, false, true, false, false, false, true, false, true, false, false, false, false, false, false, false] rfl rfl (any_of HT_.out (by kernel_rfl)) (fun _ _ _ h => h) (Or.inl ⟨by rfl, ?_⟩) ?_ ?_
         rotate_left
         ·intro w'
          go_simp
          with_reducible rfl
         rotate_left
         ·simp only [Act.put, List.setIfInBounds_toArray, List.set_cons_zero, List.set_cons_succ, i64_w, i32_w]
          rfl
         refine pure_ (i := 15) (N := some 30) (v := ?_) (a' := ?_) #[true, true, false, true, false, false, false, true, false, true, false, false, false, false, false, true, false] rfl rfl (any_of HT_.out (by kernel_rfl)) (fun _ _ _ h => h) (Or.inl ⟨by rfl, ?_⟩) ?_ ?_
         rotate_left
         ·intro w'
          go_simp
          with_reducible rfl
         rotate_left
         ·simp only [Act.put, List.setIfInBounds_toArray, List.set_cons_zero, List.set_cons_succ, i64_w, i32_w]
          rfl
         refine take_ (i := 2) (N := some 17) (v := ?_) (a' := ?_) #[true, true, true, true, false, false, false, true, false, true, false, false, false, false, false, true, false] rfl rfl (take_ofW HT_.out HW_.out (by kernel_rfl)) (fun _ _ _ h => h) (Or.inl ⟨by rfl, ?_⟩) hHeld ?_ ?_
         rotate_left
         ·rintro w' ⟨s0, s1, s2, s3, s4, s5, s6, s7, s8⟩
          go_simp
          with_reducible rfl
         rotate_left
         ·simp only [Act.put, List.setIfInBounds_toArray, List.set_cons_zero, List.set_cons_succ, i64_w, i32_w]
          rfl
         refine pure_ (i := 4) (N := some 19) (v := ?_) (a' := ?_) #[true, true, true, true, true, false, false, true, false, true, false, false, false, false, false, true, false] rfl rfl (any_of HT_.out (by kernel_rfl)) (fun _ _ _ h => h) (Or.inl ⟨by rfl, ?_⟩) ?_ ?_
         rotate_left
         ·intro w'
          go_simp
          with_reducible rfl
         rotate_left
         ·simp only [Act.put, List.setIfInBounds_toArray, List.set_cons_zero, List.set_cons_succ, i64_w, i32_w]
          rfl
         refine pure_ (i := 5) (N := some 20) (v := ?_) (a' := ?_) #[true, true, true, true, true, true, false, true, false, true, false, false, false, false, false, true, false] rfl rfl (any_of HT_.out (by kernel_rfl)) (fun _ _ _ h => h) (Or.inl ⟨by rfl, ?_⟩) ?_ ?_
         rotate_left
         ·intro w'
          go_simp
          with_reducible rfl
         rotate_left
         ·simp only [Act.put, List.setIfInBounds_toArray, List.set_cons_zero, List.set_cons_succ, i64_w, i32_w]
          rfl
         refine take_ (i := 6) (N := some 21) (v := ?_) (a' := ?_) #[true, true, true, true, true, true, true, true, false, true, false, false, false, false, false, true, false] rfl rfl (take_ofW HT_.out HW_.out (by kernel_rfl)) (fun _ _ _ h => h) (Or.inl ⟨by rfl, ?_⟩) hHeld ?_ ?_
         rotate_left
         ·rintro w' ⟨s0, s1, s2, s3, s4, s5, s6, s7, s8⟩
          go_simp
          with_reducible rfl
         rotate_left
         ·simp only [Act.put, List.setIfInBounds_toArray, List.set_cons_zero, List.set_cons_succ, i64_w, i32_w]
          rfl
         refine take_ (i := 8) (N := some 23) (v := ?_) (a' := ?_) #[true, true, true, true, true, true, true, true, true, true, false, false, false, false, false, true, false] rfl rfl (take_ofW HT_.out HW_.out (by kernel_rfl)) (fun _ _ _ h => h) (Or.inl ⟨by rfl, ?_⟩) hHeld ?_ ?_
         rotate_left
         ·rintro w' ⟨s0, s1, s2, s3, s4, s5, s6, s7, s8⟩
          go_simp
          with_reducible rfl
         rotate_left
         ·simp only [Act.put, List.setIfInBounds_toArray, List.set_cons_zero, List.set_cons_succ, i64_w, i32_w]
          rfl
         refine pure_ (i := 10) (N := some 25) (v := ?_) (a' := ?_) #[true, true, true, true, true, true, true, true, true, true, true, false, false, false, false, true, false] rfl rfl (any_of HT_.out (by kernel_rfl)) (fun _ _ _ h => h) (Or.inl ⟨by rfl, ?_⟩) ?_ ?_
         rotate_left
         ·intro w'
          go_simp
          with_reducible rfl
         rotate_left
         ·simp only [Act.put, List.setIfInBounds_toArray, List.set_cons_zero, List.set_cons_succ, i64_w, i32_w]
          rfl
         refine pure_ (i := 11) (N := some 26) (v := ?_) (a' := ?_) #[true, true, true, true, true, true, true, true, true, true, true, true, false, false, false, true, false] rfl rfl (any_of HT_.out (by kernel_rfl)) (fun _ _ _ h => h) (Or.inl ⟨by rfl, ?_⟩) ?_ ?_
         rotate_left
         ·intro w'
          go_simp
          with_reducible rfl
         rotate_left
         ·simp only [Act.put, List.setIfInBounds_toArray, List.set_cons_zero, List.set_cons_succ, i64_w, i32_w]
          rfl
         refine take_ (i := 12) (N := some 27) (v := ?_) (a' := ?_) #[true, true, true, true, true, true, true, true, true, true, true, true, true, false, false, true, false] rfl rfl (take_ofW HT_.out HW_.out (by kernel_rfl)) (fun _ _ _ h => h) (Or.inl ⟨by rfl, ?_⟩) hHeld ?_ ?_
         rotate_left
         ·rintro w' ⟨s0, s1, s2, s3, s4, s5, s6, s7, s8⟩
          go_simp
          with_reducible rfl
         rotate_left
         ·simp only [Act.put, List.setIfInBounds_toArray, List.set_cons_zero, List.set_cons_succ, i64_w, i32_w]
          rfl
         refine pure_ (i := 13) (N := some 28) (v := ?_) (a' := ?_) #[true, true, true, true, true, true, true, true, true, true, true, true, true, true, false, true, false] rfl rfl (any_of HT_.out (by kernel_rfl)) (fun _ _ _ h => h) (Or.inl ⟨by rfl, ?_⟩) ?_ ?_
         rotate_left
         ·intro w'
          go_simp
          with_reducible rfl
         rotate_left
         ·simp only [Act.put, List.setIfInBounds_toArray, List.set_cons_zero, List.set_cons_succ, i64_w, i32_w]
          rfl
         refine one_ (i := 14) (N := some 29) #[true, true, true, true, true, true, true, true, true, true, true, true, true, true, true, true, false] rfl rfl (one_of HT_.out (by kernel_rfl)) (by decide) (fun K hK => ?_)
         refine goes_ Tryz.func30 (by kernel_rfl) rfl #[.string (a0.extract (((rd_T64 l1_3 x7_1).f0) : Int).toNat (((rd_T64 l1_3 x7_1).f1) : Int).toNat)] (by rfl) rfl rfl tM ?_
         with_reducible refine (spec_Unquote.calls k1 (a0.extract (((rd_T64 l1_3 x7_1).f0) : Int).toNat (((rd_T64 l1_3 x7_1).f1) : Int).toNat) a9 _ A10.out).mono ?_
         rintro e w17 ⟨rfl, hb⟩
         refine ⟨_, rfl, ?_⟩
         have n0_ := sd (blk_below (g := a7) tL hb)
         have n1_ := sd (below_step tB hb)
         clear a1
         clear HB
         have a1 := n0_
         have HB := n1_
         clear n0_ n1_
         (try clear hb)
         (try clear hb2)
         (try clear hk)
         (try clear hi)
         refine hK.out _ _ ⟨(blk_cell a1.out 0).trans rfl, (blk_cell a1.out 1).trans rfl, (blk_cell a1.out 2).trans rfl, (blk_cell a1.out 3).trans rfl, (blk_cell a1.out 4).trans rfl, ((HB.out.cell (World.block_lt_of_cell? w _ hw355_0)).trans hw355_0), ((HB.out.cell (World.block_lt_of_cell? w _ hw355_1)).trans hw355_1), ((HB.out.cell (World.block_lt_of_cell? w _ hw356_0)).trans hw356_0), ((HB.out.cell (World.block_lt_of_cell? w _ hw356_1)).trans hw356_1)⟩ (fun hHeld => ?_)
         clear hK K
         refine norm_ (a' := ?_) ?_ ?_
         rotate_left
         ·show Act.put _ (some 29) _ = _
          simp only [Act.put, List.setIfInBounds_toArray, List.set_cons_zero, List.set_cons_succ, i64_w, i32_w]
          rfl
         refine pure_ (i := 16) (N := some 31) (v := ?_) (a' := ?_) #[true, true, true, true, true, true, true, true, true, true, true, true, true, true, true, true, true] rfl rfl (any_of HT_.out (by kernel_rfl)) (fun _ _ _ h => h) (Or.inl ⟨by rfl, ?_⟩) ?_ ?_
         rotate_left
         ·intro w'
          go_simp
          with_reducible rfl
         rotate_left
         ·simp only [Act.put, List.setIfInBounds_toArray, List.set_cons_zero, List.set_cons_succ, i64_w, i32_w]
          rfl
         refine done_ (done_of HT_.out (by kernel_rfl)) ?_
         try go_wp2
         go_roundg k1
         case measure => have := HK1.out; omega
         case rel => exact ⟨(wrap64 (x7_1 + 1)), tF, H', ⟨by have := HK1.out; omega⟩, ⟨tL⟩, ⟨tB⟩⟩
       ·rw [if_neg c9] at H
        exact absurd H (by simp)
      ·rw [if_neg c8] at H
       exact absurd H (by simp)
     ·rw [if_neg c7] at H
      exact absurd H (by simp)
    ·rw [if_neg c6] at H
     exact absurd H (by simp)
   ·rw [if_neg c5] at H
    have c5b0 : decide (x7_1 < (l1_3.length : Int)) = false := decide_eq_false c5
    clear c5
    obtain rfl := Option.some.inj H
    obtain ⟨z0, z1, z2, z3, z4, y0, y1, y2, y3, y4⟩ := blk5 a1.out
    go_wp2
    go_ret
    exact ⟨tE, tB⟩
end Go.Proofs.YthgpfljhmhkaiacGreatDoor.PFnJrTypedMisses
