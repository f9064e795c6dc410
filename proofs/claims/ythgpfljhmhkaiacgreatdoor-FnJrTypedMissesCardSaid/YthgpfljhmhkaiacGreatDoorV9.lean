/- Walks of the functions that the law calls, printed by program and rewritten. -/
import Derived.Test.YthgpfljhmhkaiacGreatDoorV0
import Derived.Test.YthgpfljhmhkaiacGreatDoorV6
import Derived.Test.YthgpfljhmhkaiacGreatDoorV8
set_option linter.all false
namespace Go.Proofs.YthgpfljhmhkaiacGreatDoor.PFnJrTypedMisses
open Go.RowKit Go.Proofs.YthgpfljhmhkaiacGreatDoorW.PrintWords Go.Proofs.YthgpfljhmhkaiacGreatDoorW.PrintLast Go.Proofs.YthgpfljhmhkaiacGreatDoorW.PrintMore
attribute [local go_sem] max2_int min2_int max_two min_two max_three min_three max_four min_four
/-! ### spec_Once: function 14 -/
mutual
def spec_Once.l0 : Nat → ByteArray → List ByteArray → Int → Int → Int → Int → Int → List (S64) → List (S31) → Option (Bool)
 | 0, _, _, _, _, _, _, _, _, _ => none
 | k + 1, x0, x13, x14, x15, b4, b6, b7, b0, b8 => if x15 < x14 then (if 0 ≤ x15 then (if x15 < (x13.length : Int) then (if b4 = 6 then (spec_Once.l1 k x0 (rdOf ByteArray.empty x13 x15) 0 0 x13 x14 x15 b4 b6 b7 b0 b8) else ((spec_Step.f k x0 b4 b6 b7 b0 b8 (rdOf ByteArray.empty x13 x15)).bind fun e0 => (if e0.2.2.2.2.2 = true then (spec_Once.l0 k x0 x13 x14 (wrap64 (x15 + 1)) e0.1 e0.2.1 e0.2.2.1 e0.2.2.2.1 e0.2.2.2.2.1) else (some true)))) else (none)) else (none)) else (some true)
def spec_Once.l1 : Nat → ByteArray → ByteArray → Int → Int → List ByteArray → Int → Int → Int → Int → Int → List (S64) → List (S31) → Option (Bool)
 | 0, _, _, _, _, _, _, _, _, _, _, _, _ => none
 | k + 1, x0, x8, x9, x10, x13, x14, x15, b4, b6, b7, b0, b8 => if x10 < (b0.length : Int) then (if 0 ≤ x10 then (if 0 ≤ ((rd_T64 b0 x10).f0) then (if ((rd_T64 b0 x10).f0) ≤ ((rd_T64 b0 x10).f1) then (if ((rd_T64 b0 x10).f1) ≤ (x0.size : Int) then ((spec_Unquote.f k (x0.extract (((rd_T64 b0 x10).f0) : Int).toNat (((rd_T64 b0 x10).f1) : Int).toNat)).bind fun d5 => (if d5.toList = x8.toList then (spec_Once.l1 k x0 x8 (wrap64 (x9 + 1)) (wrap64 (x10 + 1)) x13 x14 x15 b4 b6 b7 b0 b8) else (spec_Once.l1 k x0 x8 x9 (wrap64 (x10 + 1)) x13 x14 x15 b4 b6 b7 b0 b8))) else (none)) else (none)) else (none)) else (none)) else (if x9 > 1 then (some false) else ((spec_Step.f k x0 b4 b6 b7 b0 b8 x8).bind fun e1 => (if e1.2.2.2.2.2 = true then (spec_Once.l0 k x0 x13 x14 (wrap64 (x15 + 1)) e1.1 e1.2.1 e1.2.2.1 e1.2.2.2.1 e1.2.2.2.2.1) else (some true))))
end
def spec_Once.f (k : Nat) (a0 : ByteArray) (a1_0 : Int) (a1_1 : Int) (a1_2 : Int) (l1_3 : List (S64)) (l1_4 : List (S31)) (l2 : List ByteArray) : Option (Bool) := spec_Once.l0 k a0 l2 (l2.length : Int) 0 a1_0 a1_1 a1_2 l1_3 l1_4
def spec_Once.T9 : Bool × List (List Nat × List Nat) := (true, [([], []), ([], []), ([1], [1]), ([], []), ([2, 3], [2, 3]), ([4], [4]), ([5], [5]), ([], []), ([7], [7]), ([], []), ([8, 9], [8, 9]), ([10], [10]), ([11], [11]), ([0, 6, 12], [0, 6, 12]), ([13], [13]), ([], []), ([14, 15], [14, 15])])
def spec_Once.B9 : List Nat := [0, 0, 2, 0, 14, 30, 62, 0, 128, 0, 896, 1920, 3968, 8191, 16383, 0, 65535]
theorem spec_Once.tab9 : rtab .any (opsOf Tryz.f14 9) = spec_Once.T9 := by kernel_rfl
theorem spec_Once.bits9 : waitsOk spec_Once.T9.2 spec_Once.B9 = true := by kernel_rfl
set_option maxHeartbeats 8000000 in
set_option maxRecDepth 100000 in
theorem spec_Once.calls (k : Nat) (a0 : ByteArray) (a1_0 : Int) (a1_1 : Int) (a1_2 : Int) (P1_3_ : Nat → Prop) (A1_3 : Option Addr) (c1_3 : Nat) (l1_3 : List (S64)) (P1_4_ : Nat → Prop) (A1_4 : Option Addr) (c1_4 : Nat) (l1_4 : List (S31)) (A2 : Option Addr) (c2 : Nat) (l2 : List ByteArray) (r : Bool) (w : World) (hs1_3 : Kd.V k64 64 w w.heap.size (fun k_ => P1_3_ k_) (.slice A1_3 l1_3.length c1_3) l1_3) (hs1_4 : Kd.V k31 31 w w.heap.size (fun k_ => P1_4_ k_) (.slice A1_4 l1_4.length c1_4) l1_4) (hr2 : Kd.C Kd.string w A2 l2.length l2) (hc2 : l2.length ≤ c2) (h : spec_Once.f k a0 a1_0 a1_1 a1_2 l1_3 l1_4 l2 = some r) :
  Calls Tryz.prog 14 #[.string a0, .agg #[.int .i64 a1_0, .int .i64 a1_1, .int .i64 a1_2, .slice A1_3 l1_3.length c1_3, .slice A1_4 l1_4.length c1_4], .slice A2 l2.length c2] w fun e w' => e = .returned (.bool r) ∧ Below w.heap.size w w' := by
 have hu31 := Tryz.underlying31
 have HO1_3 := sd (show Kd.V k64 64 w w.heap.size (fun k_ => ((P1_3_ k_ ∨ P1_4_ k_) ∨ w.heap.size ≤ k_)) (.slice A1_3 l1_3.length c1_3) l1_3 from Kd.V_mono hs1_3 (fun k_ hk => .inl (.inl hk)))
 have HO1_4 := sd (show Kd.V k31 31 w w.heap.size (fun k_ => ((P1_3_ k_ ∨ P1_4_ k_) ∨ w.heap.size ≤ k_)) (.slice A1_4 l1_4.length c1_4) l1_4 from Kd.V_mono hs1_4 (fun k_ hk => .inl (.inr hk)))
 have HR2 := sd hr2
 have HC2 := sd hc2
 clear hr2 hc2
 have HB := sd (Below.refl w.heap.size w)
 have H : (spec_Once.l0 k a0 l2 (l2.length : Int) 0 a1_0 a1_1 a1_2 l1_3 l1_4) = some r := h
 clear h
 have H' := sd H
 clear H
 go_enter Tryz.func14, Tryz.ntmps14
 go_wp2_with (first | ((with_reducible refine gate_dst (N := 4) rfl ?_); refine box_event (by rfl) (N := 4) (by rfl) (cs := #[.int .i64 a1_0, .int .i64 a1_1, .int .i64 a1_2, .slice A1_3 l1_3.length c1_3, .slice A1_4 l1_4.length c1_4]) (t := 31) tS ?_; intro a4 hg w4 hbox hb; have HO1_3 := sd (Kd.V_below (Kd.V_elderB (uV HO1_3.out) a4 (Nat.le_of_eq hg.symm)) hb); have HO1_4 := sd (Kd.V_below (Kd.V_elderB (uV HO1_4.out) a4 (Nat.le_of_eq hg.symm)) hb); have a5 := sd (hbox); have i3 := sd (leB hg tB); have i4 := sd (leB hg tB); have HB := sd (below_step tB hb); clear hb hbox hg))
 (try simp only [Act.put, List.setIfInBounds_toArray, List.set_cons_zero, List.set_cons_succ])
 go_loopg [15] k (fun kq v15 w' => ∃ (x15_1 : Int) (a6 : Int) (a7 : Int) (a8 : Int) (a2 : List (S64)) (a9 : List (S31)) (d0 : Value) (b5 : Value), v15 = .int .i64 x15_1 ∧ Aside0 (spec_Once.l0 kq a0 l2 (l2.length : Int) x15_1 a6 a7 a8 a2 a9 = some r) ∧ Aside0 (kq ≤ k) ∧ Aside0 (Kd.V k64 64 w' w.heap.size (fun k_ => ((P1_3_ k_ ∨ P1_4_ k_) ∨ w.heap.size ≤ k_) ∧ k_ ≠ a4) d0 a2) ∧ Aside0 (Kd.V k31 31 w' w.heap.size (fun k_ => ((P1_3_ k_ ∨ P1_4_ k_) ∨ w.heap.size ≤ k_) ∧ k_ ≠ a4) b5 a9) ∧ Aside0 (w'.heap[a4]? = some (.cells #[.int .i64 a6, .int .i64 a7, .int .i64 a8, d0, b5] 31 (0, 0))) ∧ Aside0 (Below w.heap.size w w'))
 case atStart => exact ⟨(0), (a1_0), (a1_1), (a1_2), (l1_3), (l1_4), (.slice A1_3 l1_3.length c1_3), (.slice A1_4 l1_4.length c1_4), tF, H', ⟨Nat.le_refl _⟩, ⟨uV HO1_3.out⟩, ⟨uV HO1_4.out⟩, ⟨tL⟩, ⟨tB⟩⟩
 case round =>
  clear H'
  obtain ⟨x15_1, a6, a7, a8, a2, a9, d0, b5, rfl, HA, HK1, a1, a3, a5, HB⟩ := hrel
  cases gk with
  | zero => exact absurd HA.out (by simp [spec_Once.l0])
  | succ k1 =>
   have H := HA.out
   clear HA
   simp only [spec_Once.l0] at H
   by_cases c5 : x15_1 < (l2.length : Int)
   ·rw [if_pos c5] at H
    have c5b0 : decide (x15_1 < (l2.length : Int)) = true := decide_eq_true c5
    clear c5
    by_cases c6 : 0 ≤ x15_1
    ·rw [if_pos c6] at H
     have c6b0 : decide (0 ≤ x15_1) = true := decide_eq_true c6
     clear c6
     by_cases c7 : x15_1 < (l2.length : Int)
     ·rw [if_pos c7] at H
      have c7b0 : decide (x15_1 < (l2.length : Int)) = true := decide_eq_true c7
      clear c7
      by_cases c8 : a6 = 6
      ·rw [if_pos c8] at H
       have c8b0 : (a6 == 6) = true := beq_iff_eq.mpr c8
       have c8b1 : (a6 != 6) = false := bne_eq_false_iff_eq.mpr c8
       clear c8
       have H' := sd H
       clear H
       have b9 : 0 ≤ (x15_1 : Int) := of_decide_eq_true (by first | (with_reducible assumption) | assumption)
       have c0 : x15_1 < (l2.length : Int) := of_decide_eq_true (by first | (with_reducible assumption) | assumption)
       obtain ⟨ad367, e367, b1⟩ := Kd.at_string HR2.out x15_1 b9 c0
       cases e367
       replace b1 := (HB.out.cell (World.block_lt_of_cell? w _ b1)).trans b1
       replace b9 := eq_true b9
       replace c0 := eq_true c0
       obtain ⟨z0, z1, z2, z3, z4, y0, y1, y2, y3, y4⟩ := blk5 a5.out
       go_wp2
       (try simp only [Act.put, List.setIfInBounds_toArray, List.set_cons_zero, List.set_cons_succ])
       go_loopg [9, 10] k1 (fun kq v9 v10 w' => ∃ (x9_2 : Int) (x10_2 : Int), v9 = .int .i64 x9_2 ∧ v10 = .int .i64 x10_2 ∧ Aside0 (spec_Once.l1 kq a0 (rdOf ByteArray.empty l2 x15_1) x9_2 x10_2 l2 (l2.length : Int) x15_1 a6 a7 a8 a2 a9 = some r) ∧ Aside0 (kq ≤ k1) ∧ Aside0 (Kd.V k64 64 w' w.heap.size (fun k_ => ((P1_3_ k_ ∨ P1_4_ k_) ∨ w.heap.size ≤ k_) ∧ k_ ≠ a4) d0 a2) ∧ Aside0 (Kd.V k31 31 w' w.heap.size (fun k_ => ((P1_3_ k_ ∨ P1_4_ k_) ∨ w.heap.size ≤ k_) ∧ k_ ≠ a4) b5 a9) ∧ Aside0 (w'.heap[a4]? = some (.cells #[.int .i64 a6, .int .i64 a7, .int .i64 a8, d0, b5] 31 (0, 0))) ∧ Aside0 (Below w.heap.size w w'))
       case atStart => exact ⟨(0), (0), tF, tF, H', ⟨Nat.le_refl _⟩, ⟨uV a1.out⟩, ⟨uV a3.out⟩, ⟨tL⟩, ⟨tB⟩⟩
       case round =>
        clear H'
        obtain ⟨x9_2, x10_2, rfl, rfl, HA, HK2, a1, a3, a5, HB⟩ := hrel
        cases gk with
        | zero => exact absurd HA.out (by simp [spec_Once.l1])
        | succ k2 =>
         have H := HA.out
         clear HA
         simp only [spec_Once.l1] at H
         by_cases c10 : x10_2 < (a2.length : Int)
         ·rw [if_pos c10] at H
          have c10b0 : decide (x10_2 < (a2.length : Int)) = true := decide_eq_true c10
          clear c10
          by_cases c11 : 0 ≤ x10_2
          ·rw [if_pos c11] at H
           have c11b0 : decide (0 ≤ x10_2) = true := decide_eq_true c11
           clear c11
           by_cases c12 : 0 ≤ ((rd_T64 a2 x10_2).f0)
           ·rw [if_pos c12] at H
            have c12b0 := eq_true c12
            have c12b1 : decide (0 ≤ ((rd_T64 a2 x10_2).f0)) = true := decide_eq_true c12
            clear c12
            by_cases c13 : ((rd_T64 a2 x10_2).f0) ≤ ((rd_T64 a2 x10_2).f1)
            ·rw [if_pos c13] at H
             have c13b0 := eq_true c13
             have c13b1 : decide (((rd_T64 a2 x10_2).f0) ≤ ((rd_T64 a2 x10_2).f1)) = true := decide_eq_true c13
             clear c13
             by_cases c14 : ((rd_T64 a2 x10_2).f1) ≤ (a0.size : Int)
             ·rw [if_pos c14] at H
              have c14b0 := eq_true c14
              have c14b1 : decide (((rd_T64 a2 x10_2).f1) ≤ (a0.size : Int)) = true := decide_eq_true c14
              clear c14
              replace H := Option.bind_eq_some_iff.mp H
              obtain ⟨d5, g0, H⟩ := H
              try dsimp only at H
              have A15 := sd g0
              clear g0
              by_cases c16 : d5.toList = (rdOf ByteArray.empty l2 x15_1).toList
              ·rw [if_pos c16] at H
               have c16b0 : (d5.toList == (rdOf ByteArray.empty l2 x15_1).toList) = true := beq_iff_eq.mpr c16
               have c16b1 : (d5.toList != (rdOf ByteArray.empty l2 x15_1).toList) = false := bne_eq_false_iff_eq.mpr c16
               clear c16
               have H' := sd H
               clear H
               obtain ⟨z0, z1, z2, z3, z4, y0, y1, y2, y3, y4⟩ := blk5 a5.out
               obtain ⟨Ao18, co18, eo18⟩ := Kd.V_slice a1.out
               subst eo18
               try go_wp2
               have n0_ := sd (Kd.V_drew a1.out)
               have n1_ := sd (Kd.V_drew a3.out)
               have n2_ := sd (blk_drew a5.out)
               have n3_ := sd (below_drew1 HB.out)
               clear a1
               clear a3
               clear a5
               clear HB
               have a1 := n0_
               have a3 := n1_
               have a5 := n2_
               have HB := n3_
               clear n0_ n1_ n2_ n3_
               have e2 : 0 ≤ (x10_2 : Int) := of_decide_eq_true (by first | (with_reducible assumption) | assumption)
               have e3 : x10_2 < (a2.length : Int) := of_decide_eq_true (by first | (with_reducible assumption) | assumption)
               obtain ⟨ad368, e368, d1, d2⟩ := at_T64 (Kd.V_reads' a1.out).2.2 x10_2 e2 e3
               cases e368
               replace e2 := eq_true e2
               replace e3 := eq_true e3
               have e4 : 0 ≤ (x10_2 : Int) := of_decide_eq_true (by first | (with_reducible assumption) | assumption)
               have e5 : x10_2 < (a2.length : Int) := of_decide_eq_true (by first | (with_reducible assumption) | assumption)
               obtain ⟨ad369, e369, d3, d4⟩ := at_T64 (Kd.V_reads' a1.out).2.2 x10_2 e4 e5
               obtain rfl : ad368 = ad369 := (by injection e369)
               replace e4 := eq_true e4
               replace e5 := eq_true e5
               refine start_ (n := 17) (S := fun w' => w'.cell? ⟨a4, 0, none⟩ = some (.int .i64 a6) ∧ w'.cell? ⟨a4, 1, none⟩ = some (.int .i64 a7) ∧ w'.cell? ⟨a4, 2, none⟩ = some (.int .i64 a8) ∧ w'.cell? ⟨a4, 3, none⟩ = some (.slice (some ad368) a2.length co18) ∧ w'.cell? ⟨a4, 4, none⟩ = some (b5) ∧ w'.cell? (ad368.add ((x10_2).toNat * 2)) = some (.int .i64 ((rd_T64 a2 x10_2).f0)) ∧ w'.cell? ⟨(ad368.add ((x10_2).toNat * 2)).block, (ad368.add ((x10_2).toNat * 2)).off + 1, none⟩ = some (.int .i64 ((rd_T64 a2 x10_2).f1)) ∧ w'.cell? (ad368.add ((x10_2).toNat * 2)) = some (.int .i64 ((rd_T64 a2 x10_2).f0)) ∧ w'.cell? ⟨(ad368.add ((x10_2).toNat * 2)).block, (ad368.add ((x10_2).toNat * 2)).off + 1, none⟩ = some (.int .i64 ((rd_T64 a2 x10_2).f1))) (ds := []) #[false, false, false, false, false, false, false, false, false, false, false, false, false, false, false, false, false] (by kernel_rfl) rfl rfl ⟨(blk_cell a5.out 0).trans rfl, (blk_cell a5.out 1).trans rfl, (blk_cell a5.out 2).trans rfl, (blk_cell a5.out 3).trans rfl, (blk_cell a5.out 4).trans rfl, d1, d2, d3, d4⟩ (fun hHeld => ?_); refine with_tabW spec_Once.tab9 spec_Once.bits9 (fun HT_ HW_ => ?_)
               generalize wr.drew = w19 at a1 a3 a5 HB d1 d2 d3 d4 hHeld ⊢
               refine pure_ (i := 0) (N := some 29) (v := ?_) (a' := ?_) #[true, false, false, false, false, false, false, false, false, false, false, false, false, false, false, false, false] rfl rfl (any_of HT_.out (by kernel_rfl)) (fun _ _ _ h => h) (Or.inl ⟨by rfl, ?_⟩) ?_ ?_
               rotate_left
               ·intro w'
                go_simp
                with_reducible rfl
               rotate_left
               ·simp only [Act.put, List.setIfInBounds_toArray, List.set_cons_zero, List.set_cons_succ, i64_w, i32_w]
                rfl
               refine pure_ (i := 1) (N := some 30) (v := ?_) (a' := ?_) #[true, true, false, false, false, false, false, false, false, false, false, false, false, false, false, false, false] rfl rfl (any_of HT_.out (by kernel_rfl)) (fun _ _ _ h => h) (Or.inl ⟨by rfl, ?_⟩) ?_ ?_
               rotate_left
               ·intro w'
                go_simp
                with_reducible rfl
               rotate_left
               ·simp only [Act.put, List.setIfInBounds_toArray, List.set_cons_zero, List.set_cons_succ, i64_w, i32_w]
                rfl
               refine pure_ (i := 3) (N := some 32) (v := ?_) (a' := ?_) #[true, true, false, true, false, false, false, false, false, false, false, false, false, false, false, false, false] rfl rfl (any_of HT_.out (by kernel_rfl)) (fun _ _ _ h => h) (Or.inl ⟨by rfl, ?_⟩) ?_ ?_
               rotate_left
               ·intro w'
                go_simp
                with_reducible rfl
               rotate_left
               ·simp only [Act.put, List.setIfInBounds_toArray, List.set_cons_zero, List.set_cons_succ, i64_w, i32_w]
                rfl
               refine pure_ (i := 7) (N := some 36) (v := ?_) (a' := ?_) #[true, true, false, true, false, false, false, true, false, false, false, false, false, false, false, false, false] rfl rfl (any_of HT_.out (by kernel_rfl)) (fun _ _ _ h => h) (Or.inl ⟨by rfl, ?_⟩) ?_ ?_
               rotate_left
               ·intro w'
                go_simp
                with_reducible rfl
               rotate_left
               ·simp only [Act.put, List.setIfInBounds_toArray, List.set_cons_zero, List.set_cons_succ, i64_w, i32_w]
                rfl
               refine pure_ (i := 9) (N := some 38) (v := ?_) (a' := ?_) #[true, true, false, true, false, false, false, true, false, true, false, false, false, false, false, false, false] rfl rfl (any_of HT_.out (by kernel_rfl)) (fun _ _ _ h => h) (Or.inl ⟨by rfl, ?_⟩) ?_ ?_
               rotate_left
               ·intro w'
                go_simp
                with_reducible rfl
               rotate_left
               ·simp only [Act.put, List.setIfInBounds_toArray, List.set_cons_zero, List.set_cons_succ, i64_w, i32_w]
                rfl
               refine pure_ (i := 15) (N := some 44) (v := ?_) (a' := ?_) #[true, true, false, true, false, false, false, true, false, true, false, false, false, false, false, true, false] rfl rfl (any_of HT_.out (by kernel_rfl)) (fun _ _ _ h => h) (Or.inl ⟨by rfl, ?_⟩) ?_ ?_
               rotate_left
               ·intro w'
                go_simp
                with_reducible rfl
               rotate_left
               ·simp only [Act.put, List.setIfInBounds_toArray, List.set_cons_zero, List.set_cons_succ, i64_w, i32_w]
                rfl
               refine take_ (i := 2) (N := some 31) (v := ?_) (a' := ?_) #[true, true, true, true, false, false, false, true, false, true, false, false, false, false, false, true, false] rfl rfl (take_ofW HT_.out HW_.out (by kernel_rfl)) (fun _ _ _ h => h) (Or.inl ⟨by rfl, ?_⟩) hHeld ?_ ?_
               rotate_left
               ·rintro w' ⟨s0, s1, s2, s3, s4, s5, s6, s7, s8⟩
                go_simp
                with_reducible rfl
               rotate_left
               ·simp only [Act.put, List.setIfInBounds_toArray, List.set_cons_zero, List.set_cons_succ, i64_w, i32_w]
                rfl
               refine pure_ (i := 4) (N := some 33) (v := ?_) (a' := ?_) #[true, true, true, true, true, false, false, true, false, true, false, false, false, false, false, true, false] rfl rfl (any_of HT_.out (by kernel_rfl)) (fun _ _ _ h => h) (Or.inl ⟨by rfl, ?_⟩) ?_ ?_
               rotate_left
               ·intro w'
                go_simp
                with_reducible rfl
               rotate_left
               ·simp only [Act.put, List.setIfInBounds_toArray, List.set_cons_zero, List.set_cons_succ, i64_w, i32_w]
                rfl
               refine pure_ (i := 5) (N := some 34) (v := ?_) (a' := ?_) #[true, true, true, true, true, true, false, true, false, true, false, false, false, false, false, true, false] rfl rfl (any_of HT_.out (by kernel_rfl)) (fun _ _ _ h => h) (Or.inl ⟨by rfl, ?_⟩) ?_ ?_
               rotate_left
               ·intro w'
                go_simp
                with_reducible rfl
               rotate_left
               ·simp only [Act.put, List.setIfInBounds_toArray, List.set_cons_zero, List.set_cons_succ, i64_w, i32_w]
                rfl
               refine take_ (i := 6) (N := some 35) (v := ?_) (a' := ?_) #[true, true, true, true, true, true, true, true, false, true, false, false, false, false, false, true, false] rfl rfl (take_ofW HT_.out HW_.out (by kernel_rfl)) (fun _ _ _ h => h) (Or.inl ⟨by rfl, ?_⟩) hHeld ?_ ?_
               rotate_left
               ·rintro w' ⟨s0, s1, s2, s3, s4, s5, s6, s7, s8⟩
                go_simp
                with_reducible rfl
               rotate_left
               ·simp only [Act.put, List.setIfInBounds_toArray, List.set_cons_zero, List.set_cons_succ, i64_w, i32_w]
                rfl
               refine take_ (i := 8) (N := some 37) (v := ?_) (a' := ?_) #[true, true, true, true, true, true, true, true, true, true, false, false, false, false, false, true, false] rfl rfl (take_ofW HT_.out HW_.out (by kernel_rfl)) (fun _ _ _ h => h) (Or.inl ⟨by rfl, ?_⟩) hHeld ?_ ?_
               rotate_left
               ·rintro w' ⟨s0, s1, s2, s3, s4, s5, s6, s7, s8⟩
                go_simp
                with_reducible rfl
               rotate_left
               ·simp only [Act.put, List.setIfInBounds_toArray, List.set_cons_zero, List.set_cons_succ, i64_w, i32_w]
                rfl
               refine pure_ (i := 10) (N := some 39) (v := ?_) (a' := ?_) #[true, true, true, true, true, true, true, true, true, true, true, false, false, false, false, true, false] rfl rfl (any_of HT_.out (by kernel_rfl)) (fun _ _ _ h => h) (Or.inl ⟨by rfl, ?_⟩) ?_ ?_
               rotate_left
               ·intro w'
                go_simp
                with_reducible rfl
               rotate_left
               ·simp only [Act.put, List.setIfInBounds_toArray, List.set_cons_zero, List.set_cons_succ, i64_w, i32_w]
                rfl
               refine pure_ (i := 11) (N := some 40) (v := ?_) (a' := ?_) #[true, true, true, true, true, true, true, true, true, true, true, true, false, false, false, true, false] rfl rfl (any_of HT_.out (by kernel_rfl)) (fun _ _ _ h => h) (Or.inl ⟨by rfl, ?_⟩) ?_ ?_
               rotate_left
               ·intro w'
                go_simp
                with_reducible rfl
               rotate_left
               ·simp only [Act.put, List.setIfInBounds_toArray, List.set_cons_zero, List.set_cons_succ, i64_w, i32_w]
                rfl
               refine take_ (i := 12) (N := some 41) (v := ?_) (a' := ?_) #[true, true, true, true, true, true, true, true, true, true, true, true, true, false, false, true, false] rfl rfl (take_ofW HT_.out HW_.out (by kernel_rfl)) (fun _ _ _ h => h) (Or.inl ⟨by rfl, ?_⟩) hHeld ?_ ?_
               rotate_left
               ·rintro w' ⟨s0, s1, s2, s3, s4, s5, s6, s7, s8⟩
                go_simp
                with_reducible rfl
               rotate_left
               ·simp only [Act.put, List.setIfInBounds_toArray, List.set_cons_zero, List.set_cons_succ, i64_w, i32_w]
                rfl
               refine pure_ (i := 13) (N := some 42) (v := ?_) (a' := ?_) #[true, true, true, true, true, true, true, true, true, true, true, true, true, true, false, true, false] rfl rfl (any_of HT_.out (by kernel_rfl)) (fun _ _ _ h => h) (Or.inl ⟨by rfl, ?_⟩) ?_ ?_
               rotate_left
               ·intro w'
                go_simp
                with_reducible rfl
               rotate_left
               ·simp only [Act.put, List.setIfInBounds_toArray, List.set_cons_zero, List.set_cons_succ, i64_w, i32_w]
                rfl
               refine one_ (i := 14) (N := some 43) #[true, true, true, true, true, true, true, true, true, true, true, true, true, true, true, true, false] rfl rfl (one_of HT_.out (by kernel_rfl)) (by decide) (fun K hK => ?_)
               refine goes_ Tryz.func30 (by kernel_rfl) rfl #[.string (a0.extract (((rd_T64 a2 x10_2).f0) : Int).toNat (((rd_T64 a2 x10_2).f1) : Int).toNat)] (by rfl) rfl rfl tM ?_
               with_reducible refine (spec_Unquote.calls k2 (a0.extract (((rd_T64 a2 x10_2).f0) : Int).toNat (((rd_T64 a2 x10_2).f1) : Int).toNat) d5 _ A15.out).mono ?_
               rintro e w20 ⟨rfl, hb⟩
               have HS5_ := (hb.cell (World.block_lt_of_cell? _ _ (hHeld.2.2.2.2.2.1))).trans (hHeld.2.2.2.2.2.1)
               have HS6_ := (hb.cell (World.block_lt_of_cell? _ _ (hHeld.2.2.2.2.2.2.1))).trans (hHeld.2.2.2.2.2.2.1)
               have HS7_ := (hb.cell (World.block_lt_of_cell? _ _ (hHeld.2.2.2.2.2.2.2.1))).trans (hHeld.2.2.2.2.2.2.2.1)
               have HS8_ := (hb.cell (World.block_lt_of_cell? _ _ (hHeld.2.2.2.2.2.2.2.2))).trans (hHeld.2.2.2.2.2.2.2.2)
               refine ⟨_, rfl, ?_⟩
               have n0_ := sd (Kd.V_below (uV a1.out) hb)
               have n1_ := sd (Kd.V_below (uV a3.out) hb)
               have n2_ := sd (blk_below (g := a4) tL hb)
               have n3_ := sd (below_step tB hb)
               clear a1
               clear a3
               clear a5
               clear HB
               have a1 := n0_
               have a3 := n1_
               have a5 := n2_
               have HB := n3_
               clear n0_ n1_ n2_ n3_
               (try clear hb)
               (try clear hb2)
               (try clear hk)
               (try clear hi)
               refine hK.out _ _ ⟨(blk_cell a5.out 0).trans rfl, (blk_cell a5.out 1).trans rfl, (blk_cell a5.out 2).trans rfl, (blk_cell a5.out 3).trans rfl, (blk_cell a5.out 4).trans rfl, HS5_, HS6_, HS7_, HS8_⟩ (fun hHeld => ?_)
               clear hK K
               refine norm_ (a' := ?_) ?_ ?_
               rotate_left
               ·show Act.put _ (some 43) _ = _
                simp only [Act.put, List.setIfInBounds_toArray, List.set_cons_zero, List.set_cons_succ, i64_w, i32_w]
                rfl
               refine pure_ (i := 16) (N := some 45) (v := ?_) (a' := ?_) #[true, true, true, true, true, true, true, true, true, true, true, true, true, true, true, true, true] rfl rfl (any_of HT_.out (by kernel_rfl)) (fun _ _ _ h => h) (Or.inl ⟨by rfl, ?_⟩) ?_ ?_
               rotate_left
               ·intro w'
                go_simp
                with_reducible rfl
               rotate_left
               ·simp only [Act.put, List.setIfInBounds_toArray, List.set_cons_zero, List.set_cons_succ, i64_w, i32_w]
                rfl
               refine done_ (done_of HT_.out (by kernel_rfl)) ?_
               try go_wp2
               go_roundg k2
               case measure => have := HK1.out; have := HK2.out; omega
               case rel => exact ⟨(wrap64 (x9_2 + 1)), (wrap64 (x10_2 + 1)), tF, tF, H', ⟨by have := HK1.out; have := HK2.out; omega⟩, ⟨uV a1.out⟩, ⟨uV a3.out⟩, ⟨tL⟩, ⟨tB⟩⟩
              ·rw [if_neg c16] at H
               have c16b0 : (d5.toList == (rdOf ByteArray.empty l2 x15_1).toList) = false := beq_eq_false_iff_ne.mpr c16
               have c16b1 : (d5.toList != (rdOf ByteArray.empty l2 x15_1).toList) = true := bne_iff_ne.mpr c16
               have H' := sd H
               clear H
               obtain ⟨z0, z1, z2, z3, z4, y0, y1, y2, y3, y4⟩ := blk5 a5.out
               obtain ⟨Ao22, co22, eo22⟩ := Kd.V_slice a1.out
               subst eo22
               try go_wp2
               have n0_ := sd (Kd.V_drew a1.out)
               have n1_ := sd (Kd.V_drew a3.out)
               have n2_ := sd (blk_drew a5.out)
               have n3_ := sd (below_drew1 HB.out)
               clear a1
               clear a3
               clear a5
               clear HB
               have a1 := n0_
               have a3 := n1_
               have a5 := n2_
               have HB := n3_
               clear n0_ n1_ n2_ n3_
               have e2 : 0 ≤ (x10_2 : Int) := of_decide_eq_true (by first | (with_reducible assumption) | assumption)
               have e3 : x10_2 < (a2.length : Int) := of_decide_eq_true (by first | (with_reducible assumption) | assumption)
               obtain ⟨ad368, e368, d1, d2⟩ := at_T64 (Kd.V_reads' a1.out).2.2 x10_2 e2 e3
               cases e368
               replace e2 := eq_true e2
               replace e3 := eq_true e3
               have e4 : 0 ≤ (x10_2 : Int) := of_decide_eq_true (by first | (with_reducible assumption) | assumption)
               have e5 : x10_2 < (a2.length : Int) := of_decide_eq_true (by first | (with_reducible assumption) | assumption)
               obtain ⟨ad369, e369, d3, d4⟩ := at_T64 (Kd.V_reads' a1.out).2.2 x10_2 e4 e5
               obtain rfl : ad368 = ad369 := (by injection e369)
               replace e4 := eq_true e4
               replace e5 := eq_true e5
               refine start_ (n := 17) (S := fun w' => w'.cell? ⟨a4, 0, none⟩ = some (.int .i64 a6) ∧ w'.cell? ⟨a4, 1, none⟩ = some (.int .i64 a7) ∧ w'.cell? ⟨a4, 2, none⟩ = some (.int .i64 a8) ∧ w'.cell? ⟨a4, 3, none⟩ = some (.slice (some ad368) a2.length co22) ∧ w'.cell? ⟨a4, 4, none⟩ = some (b5) ∧ w'.cell? (ad368.add ((x10_2).toNat * 2)) = some (.int .i64 ((rd_T64 a2 x10_2).f0)) ∧ w'.cell? ⟨(ad368.add ((x10_2).toNat * 2)).block, (ad368.add ((x10_2).toNat * 2)).off + 1, none⟩ = some (.int .i64 ((rd_T64 a2 x10_2).f1)) ∧ w'.cell? (ad368.add ((x10_2).toNat * 2)) = some (.int .i64 ((rd_T64 a2 x10_2).f0)) ∧ w'.cell? ⟨(ad368.add ((x10_2).toNat * 2)).block, (ad368.add ((x10_2).toNat * 2)).off + 1, none⟩ = some (.int .i64 ((rd_T64 a2 x10_2).f1))) (ds := []) #[false, false, false, false, false, false, false, false, false, false, false, false, false, false, false, false, false] (by kernel_rfl) rfl rfl ⟨(blk_cell a5.out 0).trans rfl, (blk_cell a5.out 1).trans rfl, (blk_cell a5.out 2).trans rfl, (blk_cell a5.out 3).trans rfl, (blk_cell a5.out 4).trans rfl, d1, d2, d3, d4⟩ (fun hHeld => ?_); refine with_tabW spec_Once.tab9 spec_Once.bits9 (fun HT_ HW_ => ?_)
               generalize wr.drew = w23 at a1 a3 a5 HB d1 d2 d3 d4 hHeld ⊢
               refine pure_ (i := 0) (N := some 29) (v := ?_) (a' := ?_) #[true, false, false, false, false, false, false, false, false, false, false, false, false, false, false, false, false] rfl rfl (any_of HT_.out (by kernel_rfl)) (fun _ _ _ h => h) (Or.inl ⟨by rfl, ?_⟩) ?_ ?_
               rotate_left
               ·intro w'
                go_simp
                with_reducible rfl
               rotate_left
               ·simp only [Act.put, List.setIfInBounds_toArray, List.set_cons_zero, List.set_cons_succ, i64_w, i32_w]
                rfl
               refine pure_ (i := 1) (N := some 30) (v := ?_) (a' := ?_) #[true, true, false, false, false, false, false, false, false, false, false, false, false, false, false, false, false] rfl rfl (any_of HT_.out (by kernel_rfl)) (fun _ _ _ h => h) (Or.inl ⟨by rfl, ?_⟩) ?_ ?_
               rotate_left
               ·intro w'
                go_simp
                with_reducible rfl
               rotate_left
               ·simp only [Act.put, List.setIfInBounds_toArray, List.set_cons_zero, List.set_cons_succ, i64_w, i32_w]
                rfl
               refine pure_ (i := 3) (N := some 32) (v := ?_) (a' := ?_) #[true, true, false, true, false, false, false, false, false, false, false, false, false, false, false, false, false] rfl rfl (any_of HT_.out (by kernel_rfl)) (fun _ _ _ h => h) (Or.inl ⟨by rfl, ?_⟩) ?_ ?_
               rotate_left
               ·intro w'
                go_simp
                with_reducible rfl
               rotate_left
               ·simp only [Act.put, List.setIfInBounds_toArray, List.set_cons_zero, List.set_cons_succ, i64_w, i32_w]
                rfl
               refine pure_ (i := 7) (N := some 36) (v := ?_) (a' := ?_) #[true, true, false, true, false, false, false, true, false, false, false, false, false, false, false, false, false] rfl rfl (any_of HT_.out (by kernel_rfl)) (fun _ _ _ h => h) (Or.inl ⟨by rfl, ?_⟩) ?_ ?_
               rotate_left
               ·intro w'
                go_simp
                with_reducible rfl
               rotate_left
               ·simp only [Act.put, List.setIfInBounds_toArray, List.set_cons_zero, List.set_cons_succ, i64_w, i32_w]
                rfl
               refine pure_ (i := 9) (N := some 38) (v := ?_) (a' := ?_) #[true, true, false, true, false, false, false, true, false, true, false, false, false, false, false, false, false] rfl rfl (any_of HT_.out (by kernel_rfl)) (fun _ _ _ h => h) (Or.inl ⟨by rfl, ?_⟩) ?_ ?_
               rotate_left
               ·intro w'
                go_simp
                with_reducible rfl
               rotate_left
               ·simp only [Act.put, List.setIfInBounds_toArray, List.set_cons_zero, List.set_cons_succ, i64_w, i32_w]
                rfl
               refine pure_ (i := 15) (N := some 44) (v := ?_) (a' := ?_) #[true, true, false, true, false, false, false, true, false, true, false, false, false, false, false, true, false] rfl rfl (any_of HT_.out (by kernel_rfl)) (fun _ _ _ h => h) (Or.inl ⟨by rfl, ?_⟩) ?_ ?_
               rotate_left
               ·intro w'
                go_simp
                with_reducible rfl
               rotate_left
               ·simp only [Act.put, List.setIfInBounds_toArray, List.set_cons_zero, List.set_cons_succ, i64_w, i32_w]
                rfl
               refine take_ (i := 2) (N := some 31) (v := ?_) (a' := ?_) #[true, true, true, true, false, false, false, true, false, true, false, false, false, false, false, true, false] rfl rfl (take_ofW HT_.out HW_.out (by kernel_rfl)) (fun _ _ _ h => h) (Or.inl ⟨by rfl, ?_⟩) hHeld ?_ ?_
               rotate_left
               ·rintro w' ⟨s0, s1, s2, s3, s4, s5, s6, s7, s8⟩
                go_simp
                with_reducible rfl
               rotate_left
               ·simp only [Act.put, List.setIfInBounds_toArray, List.set_cons_zero, List.set_cons_succ, i64_w, i32_w]
                rfl
               refine pure_ (i := 4) (N := some 33) (v := ?_) (a' := ?_) #[true, true, true, true, true, false, false, true, false, true, false, false, false, false, false, true, false] rfl rfl (any_of HT_.out (by kernel_rfl)) (fun _ _ _ h => h) (Or.inl ⟨by rfl, ?_⟩) ?_ ?_
               rotate_left
               ·intro w'
                go_simp
                with_reducible rfl
               rotate_left
               ·simp only [Act.put, List.setIfInBounds_toArray, List.set_cons_zero, List.set_cons_succ, i64_w, i32_w]
                rfl
               refine pure_ (i := 5) (N := some 34) (v := ?_) (a' := ?_) #[true, true, true, true, true, true, false, true, false, true, false, false, false, false, false, true, false] rfl rfl (any_of HT_.out (by kernel_rfl)) (fun _ _ _ h => h) (Or.inl ⟨by rfl, ?_⟩) ?_ ?_
               rotate_left
               ·intro w'
                go_simp
                with_reducible rfl
               rotate_left
               ·simp only [Act.put, List.setIfInBounds_toArray, List.set_cons_zero, List.set_cons_succ, i64_w, i32_w]
                rfl
               refine take_ (i := 6) (N := some 35) (v := ?_) (a' := ?_) #[true, true, true, true, true, true, true, true, false, true, false, false, false, false, false, true, false] rfl rfl (take_ofW HT_.out HW_.out (by kernel_rfl)) (fun _ _ _ h => h) (Or.inl ⟨by rfl, ?_⟩) hHeld ?_ ?_
               rotate_left
               ·rintro w' ⟨s0, s1, s2, s3, s4, s5, s6, s7, s8⟩
                go_simp
                with_reducible rfl
               rotate_left
               ·simp only [Act.put, List.setIfInBounds_toArray, List.set_cons_zero, List.set_cons_succ, i64_w, i32_w]
                rfl
               refine take_ (i := 8) (N := some 37) (v := ?_) (a' := ?_) #[true, true, true, true, true, true, true, true, true, true, false, false, false, false, false, true, false] rfl rfl (take_ofW HT_.out HW_.out (by kernel_rfl)) (fun _ _ _ h => h) (Or.inl ⟨by rfl, ?_⟩) hHeld ?_ ?_
               rotate_left
               ·rintro w' ⟨s0, s1, s2, s3, s4, s5, s6, s7, s8⟩
                go_simp
                with_reducible rfl
               rotate_left
               ·simp only [Act.put, List.setIfInBounds_toArray, List.set_cons_zero, List.set_cons_succ, i64_w, i32_w]
                rfl
               refine pure_ (i := 10) (N := some 39) (v := ?_) (a' := ?_) #[true, true, true, true, true, true, true, true, true, true, true, false, false, false, false, true, false] rfl rfl (any_of HT_.out (by kernel_rfl)) (fun _ _ _ h => h) (Or.inl ⟨by rfl, ?_⟩) ?_ ?_
               rotate_left
               ·intro w'
                go_simp
                with_reducible rfl
               rotate_left
               ·simp only [Act.put, List.setIfInBounds_toArray, List.set_cons_zero, List.set_cons_succ, i64_w, i32_w]
                rfl
               refine pure_ (i := 11) (N := some 40) (v := ?_) (a' := ?_) #[true, true, true, true, true, true, true, true, true, true, true, true, false, false, false, true, false] rfl rfl (any_of HT_.out (by kernel_rfl)) (fun _ _ _ h => h) (Or.inl ⟨by rfl, ?_⟩) ?_ ?_
               rotate_left
               ·intro w'
                go_simp
                with_reducible rfl
               rotate_left
               ·simp only [Act.put, List.setIfInBounds_toArray, List.set_cons_zero, List.set_cons_succ, i64_w, i32_w]
                rfl
               refine take_ (i := 12) (N := some 41) (v := ?_) (a' := ?_) #[true, true, true, true, true, true, true, true, true, true, true, true, true, false, false, true, false] rfl rfl (take_ofW HT_.out HW_.out (by kernel_rfl)) (fun _ _ _ h => h) (Or.inl ⟨by rfl, ?_⟩) hHeld ?_ ?_
               rotate_left
               ·rintro w' ⟨s0, s1, s2, s3, s4, s5, s6, s7, s8⟩
                go_simp
                with_reducible rfl
               rotate_left
               ·simp only [Act.put, List.setIfInBounds_toArray, List.set_cons_zero, List.set_cons_succ, i64_w, i32_w]
                rfl
               refine pure_ (i := 13) (N := some 42) (v := ?_) (a' := ?_) #[true, true, true, true, true, true, true, true, true, true, true, true, true, true, false, true, false] rfl rfl (any_of HT_.out (by kernel_rfl)) (fun _ _ _ h => h) (Or.inl ⟨by rfl, ?_⟩) ?_ ?_
               rotate_left
               ·intro w'
                go_simp
                with_reducible rfl
               rotate_left
               ·simp only [Act.put, List.setIfInBounds_toArray, List.set_cons_zero, List.set_cons_succ, i64_w, i32_w]
                rfl
               refine one_ (i := 14) (N := some 43) #[true, true, true, true, true, true, true, true, true, true, true, true, true, true, true, true, false] rfl rfl (one_of HT_.out (by kernel_rfl)) (by decide) (fun K hK => ?_)
               refine goes_ Tryz.func30 (by kernel_rfl) rfl #[.string (a0.extract (((rd_T64 a2 x10_2).f0) : Int).toNat (((rd_T64 a2 x10_2).f1) : Int).toNat)] (by rfl) rfl rfl tM ?_
               with_reducible refine (spec_Unquote.calls k2 (a0.extract (((rd_T64 a2 x10_2).f0) : Int).toNat (((rd_T64 a2 x10_2).f1) : Int).toNat) d5 _ A15.out).mono ?_
               rintro e w24 ⟨rfl, hb⟩
               have HS5_ := (hb.cell (World.block_lt_of_cell? _ _ (hHeld.2.2.2.2.2.1))).trans (hHeld.2.2.2.2.2.1)
               have HS6_ := (hb.cell (World.block_lt_of_cell? _ _ (hHeld.2.2.2.2.2.2.1))).trans (hHeld.2.2.2.2.2.2.1)
               have HS7_ := (hb.cell (World.block_lt_of_cell? _ _ (hHeld.2.2.2.2.2.2.2.1))).trans (hHeld.2.2.2.2.2.2.2.1)
               have HS8_ := (hb.cell (World.block_lt_of_cell? _ _ (hHeld.2.2.2.2.2.2.2.2))).trans (hHeld.2.2.2.2.2.2.2.2)
               refine ⟨_, rfl, ?_⟩
               have n0_ := sd (Kd.V_below (uV a1.out) hb)
               have n1_ := sd (Kd.V_below (uV a3.out) hb)
               have n2_ := sd (blk_below (g := a4) tL hb)
               have n3_ := sd (below_step tB hb)
               clear a1
               clear a3
               clear a5
               clear HB
               have a1 := n0_
               have a3 := n1_
               have a5 := n2_
               have HB := n3_
               clear n0_ n1_ n2_ n3_
               (try clear hb)
               (try clear hb2)
               (try clear hk)
               (try clear hi)
               refine hK.out _ _ ⟨(blk_cell a5.out 0).trans rfl, (blk_cell a5.out 1).trans rfl, (blk_cell a5.out 2).trans rfl, (blk_cell a5.out 3).trans rfl, (blk_cell a5.out 4).trans rfl, HS5_, HS6_, HS7_, HS8_⟩ (fun hHeld => ?_)
               clear hK K
               refine norm_ (a' := ?_) ?_ ?_
               rotate_left
               ·show Act.put _ (some 43) _ = _
                simp only [Act.put, List.setIfInBounds_toArray, List.set_cons_zero, List.set_cons_succ, i64_w, i32_w]
                rfl
               refine pure_ (i := 16) (N := some 45) (v := ?_) (a' := ?_) #[true, true, true, true, true, true, true, true, true, true, true, true, true, true, true, true, true] rfl rfl (any_of HT_.out (by kernel_rfl)) (fun _ _ _ h => h) (Or.inl ⟨by rfl, ?_⟩) ?_ ?_
               rotate_left
               ·intro w'
                go_simp
                with_reducible rfl
               rotate_left
               ·simp only [Act.put, List.setIfInBounds_toArray, List.set_cons_zero, List.set_cons_succ, i64_w, i32_w]
                rfl
               refine done_ (done_of HT_.out (by kernel_rfl)) ?_
               try go_wp2
               go_roundg k2
               case measure => have := HK1.out; have := HK2.out; omega
               case rel => exact ⟨(x9_2), (wrap64 (x10_2 + 1)), tF, tF, H', ⟨by have := HK1.out; have := HK2.out; omega⟩, ⟨uV a1.out⟩, ⟨uV a3.out⟩, ⟨tL⟩, ⟨tB⟩⟩
             ·rw [if_neg c14] at H
              exact absurd H (by simp)
            ·rw [if_neg c13] at H
             exact absurd H (by simp)
           ·rw [if_neg c12] at H
            exact absurd H (by simp)
          ·rw [if_neg c11] at H
           exact absurd H (by simp)
         ·rw [if_neg c10] at H
          have c10b0 : decide (x10_2 < (a2.length : Int)) = false := decide_eq_false c10
          clear c10
          by_cases c25 : x9_2 > 1
          ·rw [if_pos c25] at H
           have c25b0 : decide (1 < x9_2) = true := decide_eq_true c25
           clear c25
           obtain rfl := Option.some.inj H
           obtain ⟨z0, z1, z2, z3, z4, y0, y1, y2, y3, y4⟩ := blk5 a5.out
           obtain ⟨Ao27, co27, eo27⟩ := Kd.V_slice a1.out
           subst eo27
           go_wp2
           go_ret
           exact ⟨tE, tB⟩
          ·rw [if_neg c25] at H
           have c25b0 : decide (1 < x9_2) = false := decide_eq_false c25
           clear c25
           replace H := Option.bind_eq_some_iff.mp H
           obtain ⟨⟨f4, f5, f6, e6, e7, g7⟩, g1, H⟩ := H
           try dsimp only at H
           have A28 := sd g1
           clear g1
           by_cases c29 : g7 = true
           ·subst c29
            rw [if_pos rfl] at H
            have H' := sd H
            clear H
            obtain ⟨z0, z1, z2, z3, z4, y0, y1, y2, y3, y4⟩ := blk5 a5.out
            obtain ⟨Ao31, co31, eo31⟩ := Kd.V_slice a1.out
            subst eo31
            obtain ⟨Ao32, co32, eo32⟩ := Kd.V_slice a3.out
            subst eo32
            go_wp2_with (first | ((with_reducible refine gate_callee (f := 31) rfl ?_); refine goesL_ (some 54) rfl rfl Tryz.func31 (by kernel_rfl) rfl #[.string a0, .agg #[.int .i64 a6, .int .i64 a7, .int .i64 a8, .slice Ao31 a2.length co31, .slice Ao32 a9.length co32], .string (rdOf ByteArray.empty l2 x15_1)] rfl tM ?_; (with_reducible refine (spec_Step.calls k2 a0 a6 a7 a8 _ _ a2 (fun k_ => (((P1_3_ k_ ∨ P1_4_ k_) ∨ w.heap.size ≤ k_) ∧ k_ ≠ a4)) _ _ a9 (rdOf ByteArray.empty l2 x15_1) f4 f5 f6 e6 e7 true _ ?side1 ?side2 ?side3 A28.out).mono ?_); (case side1 => repeat (first | exact (Kd.V_reads' a1.out).2.2 | (with_reducible refine Kd.C_alloc ?_ _) | (with_reducible refine Kd.C_drewN ?_ _) | (with_reducible refine Kd.C_drew ?_))); (case side2 => exact (Kd.V_reads' a1.out).2.1); (case side3 => exact a3.out); rintro e w33 ⟨g8, g9, rfl, ho0, ho1, hb⟩; refine ⟨_, rfl, ?_⟩; have a1 := sd (Kd.V_below (uV a1.out) hb); have a3 := sd (Kd.V_below (uV a3.out) hb); have c1 := sd (Kd.V_lower (Kd.V_mono (ok' := fun k_ => ((P1_3_ k_ ∨ P1_4_ k_) ∨ w.heap.size ≤ k_) ∧ k_ ≠ a4) ho0 (fun k_ hk_ => ⟨Or.elim hk_ (fun hs_ => hs_.1) (fun hn_ => (.inr (Nat.le_trans (below_size tB) hn_))), Or.elim hk_ (fun hs_ => hs_.2) (fun hn_ => (Kd.freshB (g := a4) tL k_ hn_))⟩)) (below_size tB)); have c3 := sd (Kd.V_lower (Kd.V_mono (ok' := fun k_ => ((P1_3_ k_ ∨ P1_4_ k_) ∨ w.heap.size ≤ k_) ∧ k_ ≠ a4) ho1 (fun k_ hk_ => ⟨Or.elim hk_ (fun hs_ => hs_.1) (fun hn_ => (.inr (Nat.le_trans (below_size tB) hn_))), Or.elim hk_ (fun hs_ => hs_.2) (fun hn_ => (Kd.freshB (g := a4) tL k_ hn_))⟩)) (below_size tB)); have a5 := sd (blk_below (g := a4) tL hb); have HB := sd (below_step tB hb); clear hb ho0 ho1) | ((with_reducible refine gate_dst (N := 11) rfl ?_); refine box_event (by rfl) (N := 11) (by rfl) (cs := #[.int .i64 0, .int .i64 0, .int .i64 0, .slice none 0 0, .slice none 0 0]) (t := 31) tS ?_; intro b2 hg w34 hbox hb; have a1 := sd (Kd.V_below (Kd.V_elderB (uV a1.out) b2 (Nat.le_of_eq hg.symm)) hb); have a3 := sd (Kd.V_below (Kd.V_elderB (uV a3.out) b2 (Nat.le_of_eq hg.symm)) hb); have c1 := sd (Kd.V_below (Kd.V_elderB (uV c1.out) b2 (Nat.le_of_eq hg.symm)) hb); have c3 := sd (Kd.V_below (Kd.V_elderB (uV c3.out) b2 (Nat.le_of_eq hg.symm)) hb); have a5 := sd (blk_below (g := a4) tL hb); have e8 := sd (hbox); have g3 := sd (leB hg tB); have g4 := sd (leB hg tB); have HB := sd (below_step tB hb); have d6 := sd (neL hg (blk_lt (g := a4) tL)); have d7 := sd (neR hg (blk_lt (g := a4) tL)); clear hb hbox hg; have hnb35 := d7.out; have hnc35 := d6.out; obtain ⟨z0, z1, z2, z3, z4, y0, y1, y2, y3, y4⟩ := blk5 e8.out; obtain ⟨Ao37, co37, eo37⟩ := Kd.V_slice c1.out; subst eo37; obtain ⟨Ao38, co38, eo38⟩ := Kd.V_slice c3.out; subst eo38; obtain ⟨z0, z1, z2, z3, z4, y0, y1, y2, y3, y4⟩ := blk5 a5.out))
            go_roundg k2
            case measure => have := HK1.out; have := HK2.out; omega
            case rel => exact ⟨(wrap64 (x15_1 + 1)), (f4), (f5), (f6), (e6), (e7), (.slice Ao37 e6.length co37), (.slice Ao38 e7.length co38), tF, H', ⟨by have := HK1.out; have := HK2.out; omega⟩, ⟨Kd.V_mono (uV (Kd.V_mono (Kd.V_mono c1.out (fun k_ hk => (⟨hk, hk.2⟩ : _ ∧ k_ ≠ b2))) (fun k_ hk => (⟨hk, hk.1.1.2⟩ : _ ∧ k_ ≠ a4)))) (fun _ hk => ⟨hk.1.1.1.1, hk.1.1.1.2⟩)⟩, ⟨Kd.V_mono (uV (Kd.V_mono (Kd.V_mono c3.out (fun k_ hk => (⟨hk, hk.2⟩ : _ ∧ k_ ≠ b2))) (fun k_ hk => (⟨hk, hk.1.1.2⟩ : _ ∧ k_ ≠ a4)))) (fun _ hk => ⟨hk.1.1.1.1, hk.1.1.1.2⟩)⟩, ⟨tC⟩, ⟨tB⟩⟩
           ·replace c29 := Bool.eq_false_iff.mpr c29
            subst c29
            rw [if_neg (show ¬ (false = true) by decide)] at H
            obtain rfl := Option.some.inj H
            obtain ⟨z0, z1, z2, z3, z4, y0, y1, y2, y3, y4⟩ := blk5 a5.out
            obtain ⟨Ao41, co41, eo41⟩ := Kd.V_slice a1.out
            subst eo41
            obtain ⟨Ao42, co42, eo42⟩ := Kd.V_slice a3.out
            subst eo42
            go_wp2_with (first | ((with_reducible refine gate_callee (f := 31) rfl ?_); refine goesL_ (some 54) rfl rfl Tryz.func31 (by kernel_rfl) rfl #[.string a0, .agg #[.int .i64 a6, .int .i64 a7, .int .i64 a8, .slice Ao41 a2.length co41, .slice Ao42 a9.length co42], .string (rdOf ByteArray.empty l2 x15_1)] rfl tM ?_; (with_reducible refine (spec_Step.calls k2 a0 a6 a7 a8 _ _ a2 (fun k_ => (((P1_3_ k_ ∨ P1_4_ k_) ∨ w.heap.size ≤ k_) ∧ k_ ≠ a4)) _ _ a9 (rdOf ByteArray.empty l2 x15_1) f4 f5 f6 e6 e7 false _ ?side1 ?side2 ?side3 A28.out).mono ?_); (case side1 => repeat (first | exact (Kd.V_reads' a1.out).2.2 | (with_reducible refine Kd.C_alloc ?_ _) | (with_reducible refine Kd.C_drewN ?_ _) | (with_reducible refine Kd.C_drew ?_))); (case side2 => exact (Kd.V_reads' a1.out).2.1); (case side3 => exact a3.out); rintro e w43 ⟨g8, g9, rfl, ho0, ho1, hb⟩; refine ⟨_, rfl, ?_⟩; have a1 := sd (Kd.V_below (uV a1.out) hb); have a3 := sd (Kd.V_below (uV a3.out) hb); have c1 := sd (Kd.V_lower (Kd.V_mono (ok' := fun k_ => ((P1_3_ k_ ∨ P1_4_ k_) ∨ w.heap.size ≤ k_) ∧ k_ ≠ a4) ho0 (fun k_ hk_ => ⟨Or.elim hk_ (fun hs_ => hs_.1) (fun hn_ => (.inr (Nat.le_trans (below_size tB) hn_))), Or.elim hk_ (fun hs_ => hs_.2) (fun hn_ => (Kd.freshB (g := a4) tL k_ hn_))⟩)) (below_size tB)); have c3 := sd (Kd.V_lower (Kd.V_mono (ok' := fun k_ => ((P1_3_ k_ ∨ P1_4_ k_) ∨ w.heap.size ≤ k_) ∧ k_ ≠ a4) ho1 (fun k_ hk_ => ⟨Or.elim hk_ (fun hs_ => hs_.1) (fun hn_ => (.inr (Nat.le_trans (below_size tB) hn_))), Or.elim hk_ (fun hs_ => hs_.2) (fun hn_ => (Kd.freshB (g := a4) tL k_ hn_))⟩)) (below_size tB)); have a5 := sd (blk_below (g := a4) tL hb); have HB := sd (below_step tB hb); clear hb ho0 ho1) | ((with_reducible refine gate_dst (N := 11) rfl ?_); refine box_event (by rfl) (N := 11) (by rfl) (cs := #[.int .i64 0, .int .i64 0, .int .i64 0, .slice none 0 0, .slice none 0 0]) (t := 31) tS ?_; intro b2 hg w44 hbox hb; have a1 := sd (Kd.V_below (Kd.V_elderB (uV a1.out) b2 (Nat.le_of_eq hg.symm)) hb); have a3 := sd (Kd.V_below (Kd.V_elderB (uV a3.out) b2 (Nat.le_of_eq hg.symm)) hb); have c1 := sd (Kd.V_below (Kd.V_elderB (uV c1.out) b2 (Nat.le_of_eq hg.symm)) hb); have c3 := sd (Kd.V_below (Kd.V_elderB (uV c3.out) b2 (Nat.le_of_eq hg.symm)) hb); have a5 := sd (blk_below (g := a4) tL hb); have e8 := sd (hbox); have g3 := sd (leB hg tB); have g4 := sd (leB hg tB); have HB := sd (below_step tB hb); have d6 := sd (neL hg (blk_lt (g := a4) tL)); have d7 := sd (neR hg (blk_lt (g := a4) tL)); clear hb hbox hg; have hnb45 := d7.out; have hnc45 := d6.out; obtain ⟨z0, z1, z2, z3, z4, y0, y1, y2, y3, y4⟩ := blk5 e8.out; obtain ⟨Ao47, co47, eo47⟩ := Kd.V_slice c1.out; subst eo47; obtain ⟨Ao48, co48, eo48⟩ := Kd.V_slice c3.out; subst eo48))
            go_ret
            exact ⟨tE, tB⟩
      ·rw [if_neg c8] at H
       have c8b0 : (a6 == 6) = false := beq_eq_false_iff_ne.mpr c8
       have c8b1 : (a6 != 6) = true := bne_iff_ne.mpr c8
       replace H := Option.bind_eq_some_iff.mp H
       obtain ⟨⟨f7, f8, f9, e9, f2, i0⟩, g2, H⟩ := H
       try dsimp only at H
       have A49 := sd g2
       clear g2
       by_cases c50 : i0 = true
       ·subst c50
        rw [if_pos rfl] at H
        have H' := sd H
        clear H
        have b9 : 0 ≤ (x15_1 : Int) := of_decide_eq_true (by first | (with_reducible assumption) | assumption)
        have c0 : x15_1 < (l2.length : Int) := of_decide_eq_true (by first | (with_reducible assumption) | assumption)
        obtain ⟨ad367, e367, b1⟩ := Kd.at_string HR2.out x15_1 b9 c0
        cases e367
        replace b1 := (HB.out.cell (World.block_lt_of_cell? w _ b1)).trans b1
        replace b9 := eq_true b9
        replace c0 := eq_true c0
        obtain ⟨z0, z1, z2, z3, z4, y0, y1, y2, y3, y4⟩ := blk5 a5.out
        obtain ⟨Ao52, co52, eo52⟩ := Kd.V_slice a1.out
        subst eo52
        obtain ⟨Ao53, co53, eo53⟩ := Kd.V_slice a3.out
        subst eo53
        go_wp2_with (first | ((with_reducible refine gate_callee (f := 31) rfl ?_); refine goesL_ (some 54) rfl rfl Tryz.func31 (by kernel_rfl) rfl #[.string a0, .agg #[.int .i64 a6, .int .i64 a7, .int .i64 a8, .slice Ao52 a2.length co52, .slice Ao53 a9.length co53], .string (rdOf ByteArray.empty l2 x15_1)] rfl tM ?_; (with_reducible refine (spec_Step.calls k1 a0 a6 a7 a8 _ _ a2 (fun k_ => (((P1_3_ k_ ∨ P1_4_ k_) ∨ w.heap.size ≤ k_) ∧ k_ ≠ a4)) _ _ a9 (rdOf ByteArray.empty l2 x15_1) f7 f8 f9 e9 f2 true _ ?side1 ?side2 ?side3 A49.out).mono ?_); (case side1 => repeat (first | exact (Kd.V_reads' a1.out).2.2 | (with_reducible refine Kd.C_alloc ?_ _) | (with_reducible refine Kd.C_drewN ?_ _) | (with_reducible refine Kd.C_drew ?_))); (case side2 => exact (Kd.V_reads' a1.out).2.1); (case side3 => exact a3.out); rintro e w54 ⟨i1, i2, rfl, ho0, ho1, hb⟩; refine ⟨_, rfl, ?_⟩; have a1 := sd (Kd.V_below (uV a1.out) hb); have a3 := sd (Kd.V_below (uV a3.out) hb); have c4 := sd (Kd.V_lower (Kd.V_mono (ok' := fun k_ => ((P1_3_ k_ ∨ P1_4_ k_) ∨ w.heap.size ≤ k_) ∧ k_ ≠ a4) ho0 (fun k_ hk_ => ⟨Or.elim hk_ (fun hs_ => hs_.1) (fun hn_ => (.inr (Nat.le_trans (below_size tB) hn_))), Or.elim hk_ (fun hs_ => hs_.2) (fun hn_ => (Kd.freshB (g := a4) tL k_ hn_))⟩)) (below_size tB)); have c9 := sd (Kd.V_lower (Kd.V_mono (ok' := fun k_ => ((P1_3_ k_ ∨ P1_4_ k_) ∨ w.heap.size ≤ k_) ∧ k_ ≠ a4) ho1 (fun k_ hk_ => ⟨Or.elim hk_ (fun hs_ => hs_.1) (fun hn_ => (.inr (Nat.le_trans (below_size tB) hn_))), Or.elim hk_ (fun hs_ => hs_.2) (fun hn_ => (Kd.freshB (g := a4) tL k_ hn_))⟩)) (below_size tB)); have a5 := sd (blk_below (g := a4) tL hb); have HB := sd (below_step tB hb); clear hb ho0 ho1) | ((with_reducible refine gate_dst (N := 11) rfl ?_); refine box_event (by rfl) (N := 11) (by rfl) (cs := #[.int .i64 0, .int .i64 0, .int .i64 0, .slice none 0 0, .slice none 0 0]) (t := 31) tS ?_; intro b3 hg w55 hbox hb; have a1 := sd (Kd.V_below (Kd.V_elderB (uV a1.out) b3 (Nat.le_of_eq hg.symm)) hb); have a3 := sd (Kd.V_below (Kd.V_elderB (uV a3.out) b3 (Nat.le_of_eq hg.symm)) hb); have c4 := sd (Kd.V_below (Kd.V_elderB (uV c4.out) b3 (Nat.le_of_eq hg.symm)) hb); have c9 := sd (Kd.V_below (Kd.V_elderB (uV c9.out) b3 (Nat.le_of_eq hg.symm)) hb); have a5 := sd (blk_below (g := a4) tL hb); have f3 := sd (hbox); have g5 := sd (leB hg tB); have g6 := sd (leB hg tB); have HB := sd (below_step tB hb); have d8 := sd (neL hg (blk_lt (g := a4) tL)); have d9 := sd (neR hg (blk_lt (g := a4) tL)); clear hb hbox hg; have hnb56 := d9.out; have hnc56 := d8.out; obtain ⟨z0, z1, z2, z3, z4, y0, y1, y2, y3, y4⟩ := blk5 f3.out; obtain ⟨Ao58, co58, eo58⟩ := Kd.V_slice c4.out; subst eo58; obtain ⟨Ao59, co59, eo59⟩ := Kd.V_slice c9.out; subst eo59; obtain ⟨z0, z1, z2, z3, z4, y0, y1, y2, y3, y4⟩ := blk5 a5.out))
        go_roundg k1
        case measure => have := HK1.out; omega
        case rel => exact ⟨(wrap64 (x15_1 + 1)), (f7), (f8), (f9), (e9), (f2), (.slice Ao58 e9.length co58), (.slice Ao59 f2.length co59), tF, H', ⟨by have := HK1.out; omega⟩, ⟨Kd.V_mono (uV (Kd.V_mono (Kd.V_mono c4.out (fun k_ hk => (⟨hk, hk.2⟩ : _ ∧ k_ ≠ b3))) (fun k_ hk => (⟨hk, hk.1.1.2⟩ : _ ∧ k_ ≠ a4)))) (fun _ hk => ⟨hk.1.1.1.1, hk.1.1.1.2⟩)⟩, ⟨Kd.V_mono (uV (Kd.V_mono (Kd.V_mono c9.out (fun k_ hk => (⟨hk, hk.2⟩ : _ ∧ k_ ≠ b3))) (fun k_ hk => (⟨hk, hk.1.1.2⟩ : _ ∧ k_ ≠ a4)))) (fun _ hk => ⟨hk.1.1.1.1, hk.1.1.1.2⟩)⟩, ⟨tC⟩, ⟨tB⟩⟩
       ·replace c50 := Bool.eq_false_iff.mpr c50
        subst c50
        rw [if_neg (show ¬ (false = true) by decide)] at H
        obtain rfl := Option.some.inj H
        have b9 : 0 ≤ (x15_1 : Int) := of_decide_eq_true (by first | (with_reducible assumption) | assumption)
        have c0 : x15_1 < (l2.length : Int) := of_decide_eq_true (by first | (with_reducible assumption) | assumption)
        obtain ⟨ad367, e367, b1⟩ := Kd.at_string HR2.out x15_1 b9 c0
        cases e367
        replace b1 := (HB.out.cell (World.block_lt_of_cell? w _ b1)).trans b1
        replace b9 := eq_true b9
        replace c0 := eq_true c0
        obtain ⟨z0, z1, z2, z3, z4, y0, y1, y2, y3, y4⟩ := blk5 a5.out
        obtain ⟨Ao62, co62, eo62⟩ := Kd.V_slice a1.out
        subst eo62
        obtain ⟨Ao63, co63, eo63⟩ := Kd.V_slice a3.out
        subst eo63
        go_wp2_with (first | ((with_reducible refine gate_callee (f := 31) rfl ?_); refine goesL_ (some 54) rfl rfl Tryz.func31 (by kernel_rfl) rfl #[.string a0, .agg #[.int .i64 a6, .int .i64 a7, .int .i64 a8, .slice Ao62 a2.length co62, .slice Ao63 a9.length co63], .string (rdOf ByteArray.empty l2 x15_1)] rfl tM ?_; (with_reducible refine (spec_Step.calls k1 a0 a6 a7 a8 _ _ a2 (fun k_ => (((P1_3_ k_ ∨ P1_4_ k_) ∨ w.heap.size ≤ k_) ∧ k_ ≠ a4)) _ _ a9 (rdOf ByteArray.empty l2 x15_1) f7 f8 f9 e9 f2 false _ ?side1 ?side2 ?side3 A49.out).mono ?_); (case side1 => repeat (first | exact (Kd.V_reads' a1.out).2.2 | (with_reducible refine Kd.C_alloc ?_ _) | (with_reducible refine Kd.C_drewN ?_ _) | (with_reducible refine Kd.C_drew ?_))); (case side2 => exact (Kd.V_reads' a1.out).2.1); (case side3 => exact a3.out); rintro e w64 ⟨i1, i2, rfl, ho0, ho1, hb⟩; refine ⟨_, rfl, ?_⟩; have a1 := sd (Kd.V_below (uV a1.out) hb); have a3 := sd (Kd.V_below (uV a3.out) hb); have c4 := sd (Kd.V_lower (Kd.V_mono (ok' := fun k_ => ((P1_3_ k_ ∨ P1_4_ k_) ∨ w.heap.size ≤ k_) ∧ k_ ≠ a4) ho0 (fun k_ hk_ => ⟨Or.elim hk_ (fun hs_ => hs_.1) (fun hn_ => (.inr (Nat.le_trans (below_size tB) hn_))), Or.elim hk_ (fun hs_ => hs_.2) (fun hn_ => (Kd.freshB (g := a4) tL k_ hn_))⟩)) (below_size tB)); have c9 := sd (Kd.V_lower (Kd.V_mono (ok' := fun k_ => ((P1_3_ k_ ∨ P1_4_ k_) ∨ w.heap.size ≤ k_) ∧ k_ ≠ a4) ho1 (fun k_ hk_ => ⟨Or.elim hk_ (fun hs_ => hs_.1) (fun hn_ => (.inr (Nat.le_trans (below_size tB) hn_))), Or.elim hk_ (fun hs_ => hs_.2) (fun hn_ => (Kd.freshB (g := a4) tL k_ hn_))⟩)) (below_size tB)); have a5 := sd (blk_below (g := a4) tL hb); have HB := sd (below_step tB hb); clear hb ho0 ho1) | ((with_reducible refine gate_dst (N := 11) rfl ?_); refine box_event (by rfl) (N := 11) (by rfl) (cs := #[.int .i64 0, .int .i64 0, .int .i64 0, .slice none 0 0, .slice none 0 0]) (t := 31) tS ?_; intro b3 hg w65 hbox hb; have a1 := sd (Kd.V_below (Kd.V_elderB (uV a1.out) b3 (Nat.le_of_eq hg.symm)) hb); have a3 := sd (Kd.V_below (Kd.V_elderB (uV a3.out) b3 (Nat.le_of_eq hg.symm)) hb); have c4 := sd (Kd.V_below (Kd.V_elderB (uV c4.out) b3 (Nat.le_of_eq hg.symm)) hb); have c9 := sd (Kd.V_below (Kd.V_elderB (uV c9.out) b3 (Nat.le_of_eq hg.symm)) hb); have a5 := sd (blk_below (g := a4) tL hb); have f3 := sd (hbox); have g5 := sd (leB hg tB); have g6 := sd (leB hg tB); have HB := sd (below_step tB hb); have d8 := sd (neL hg (blk_lt (g := a4) tL)); have d9 := sd (neR hg (blk_lt (g := a4) tL)); clear hb hbox hg; have hnb66 := d9.out; have hnc66 := d8.out; obtain ⟨z0, z1, z2, z3, z4, y0, y1, y2, y3, y4⟩ := blk5 f3.out; obtain ⟨Ao68, co68, eo68⟩ := Kd.V_slice c4.out; subst eo68; obtain ⟨Ao69, co69, eo69⟩ := Kd.V_slice c9.out; subst eo69))
        go_ret
        exact ⟨tE, tB⟩
     ·rw [if_neg c7] at H
      exact absurd H (by simp)
    ·rw [if_neg c6] at H
     exact absurd H (by simp)
   ·rw [if_neg c5] at H
    have c5b0 : decide (x15_1 < (l2.length : Int)) = false := decide_eq_false c5
    clear c5
    obtain rfl := Option.some.inj H
    go_wp2
    go_ret
    exact ⟨tE, tB⟩
end Go.Proofs.YthgpfljhmhkaiacGreatDoor.PFnJrTypedMisses
