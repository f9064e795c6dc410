/- Walks of the functions that the law calls, printed by program and rewritten. -/
import Derived.Test.YthgpfljhmhkaiacGreatDoorV0
import Derived.Test.YthgpfljhmhkaiacGreatDoorV5
import Derived.Test.YthgpfljhmhkaiacGreatDoorV8
import Derived.Test.YthgpfljhmhkaiacGreatDoorV9
set_option linter.all false
namespace Go.Proofs.YthgpfljhmhkaiacGreatDoor.PFnJrTypedMisses
open Go.RowKit Go.Proofs.YthgpfljhmhkaiacGreatDoorW.PrintWords Go.Proofs.YthgpfljhmhkaiacGreatDoorW.PrintLast Go.Proofs.YthgpfljhmhkaiacGreatDoorW.PrintMore
attribute [local go_sem] max2_int min2_int max_two min_two max_three min_three max_four min_four
/-! ### spec_Reach: function 15 -/
def spec_Reach.l0 : Nat → ByteArray → List ByteArray → List ByteArray → Int → Int → Int → Int → Int → List (S64) → List (S31) → Option (Int × Int × Int × (List (S64)) × (List (S31)) × Int)
 | 0, _, _, _, _, _, _, _, _, _, _ => none
 | k + 1, x0, x2, x12, x13, x14, g6, g7, g8, g9, i0 => if x14 < x13 then (if 0 ≤ x14 then (if x14 < (x12.length : Int) then ((spec_Step.f k x0 g6 g7 g8 g9 i0 (rdOf ByteArray.empty x12 x14)).bind fun f9 => (if f9.2.2.2.2.2 = true then (spec_Reach.l0 k x0 x2 x12 x13 (wrap64 (x14 + 1)) f9.1 f9.2.1 f9.2.2.1 f9.2.2.2.1 f9.2.2.2.2.1) else (some (g6, g7, g8, g9, i0, x14)))) else (none)) else (none)) else (some (g6, g7, g8, g9, i0, (x2.length : Int)))
def spec_Reach.f (k : Nat) (a0 : ByteArray) (a1_0 : Int) (a1_1 : Int) (a1_2 : Int) (l1_3 : List (S64)) (l1_4 : List (S31)) (l2 : List ByteArray) : Option (Int × Int × Int × (List (S64)) × (List (S31)) × Int) := spec_Reach.l0 k a0 l2 l2 (l2.length : Int) 0 a1_0 a1_1 a1_2 l1_3 l1_4
set_option maxHeartbeats 8000000 in
set_option maxRecDepth 100000 in
theorem spec_Reach.calls (k : Nat) (a0 : ByteArray) (a1_0 : Int) (a1_1 : Int) (a1_2 : Int) (P1_3_ : Nat → Prop) (A1_3 : Option Addr) (c1_3 : Nat) (l1_3 : List (S64)) (P1_4_ : Nat → Prop) (A1_4 : Option Addr) (c1_4 : Nat) (l1_4 : List (S31)) (A2 : Option Addr) (c2 : Nat) (l2 : List ByteArray) (r1 : Int) (r2 : Int) (r3 : Int) (r4 : List (S64)) (r5 : List (S31)) (r6 : Int) (w : World) (hs1_3 : Kd.V k64 64 w w.heap.size (fun k_ => P1_3_ k_) (.slice A1_3 l1_3.length c1_3) l1_3) (hs1_4 : Kd.V k31 31 w w.heap.size (fun k_ => P1_4_ k_) (.slice A1_4 l1_4.length c1_4) l1_4) (hr2 : Kd.C Kd.string w A2 l2.length l2) (hc2 : l2.length ≤ c2) (h : spec_Reach.f k a0 a1_0 a1_1 a1_2 l1_3 l1_4 l2 = some (r1, r2, r3, r4, r5, r6)) :
  Calls Tryz.prog 15 #[.string a0, .agg #[.int .i64 a1_0, .int .i64 a1_1, .int .i64 a1_2, .slice A1_3 l1_3.length c1_3, .slice A1_4 l1_4.length c1_4], .slice A2 l2.length c2] w fun e w' => ∃ v3_ v4_ : Value, e = .returned (.tuple #[.agg #[.int .i64 r1, .int .i64 r2, .int .i64 r3, v3_, v4_], .int .i64 r6]) ∧ Kd.V k64 64 w' w.heap.size (fun k_ => ((P1_3_ k_ ∨ P1_4_ k_) ∨ w.heap.size ≤ k_)) v3_ r4 ∧ Kd.V k31 31 w' w.heap.size (fun k_ => ((P1_3_ k_ ∨ P1_4_ k_) ∨ w.heap.size ≤ k_)) v4_ r5 ∧ Below w.heap.size w w' := by
 have hu31 := Tryz.underlying31
 have HO1_3 := sd (show Kd.V k64 64 w w.heap.size (fun k_ => ((P1_3_ k_ ∨ P1_4_ k_) ∨ w.heap.size ≤ k_)) (.slice A1_3 l1_3.length c1_3) l1_3 from Kd.V_mono hs1_3 (fun k_ hk => .inl (.inl hk)))
 have HO1_4 := sd (show Kd.V k31 31 w w.heap.size (fun k_ => ((P1_3_ k_ ∨ P1_4_ k_) ∨ w.heap.size ≤ k_)) (.slice A1_4 l1_4.length c1_4) l1_4 from Kd.V_mono hs1_4 (fun k_ hk => .inl (.inr hk)))
 have HR2 := sd hr2
 have HC2 := sd hc2
 clear hr2 hc2
 have HB := sd (Below.refl w.heap.size w)
 have H : (spec_Reach.l0 k a0 l2 l2 (l2.length : Int) 0 a1_0 a1_1 a1_2 l1_3 l1_4) = some (r1, r2, r3, r4, r5, r6) := h
 clear h
 have H' := sd H
 clear H
 go_enter Tryz.func15, Tryz.ntmps15
 go_wp2_with (first | ((with_reducible refine gate_dst (N := 4) rfl ?_); refine box_event (by rfl) (N := 4) (by rfl) (cs := #[.int .i64 a1_0, .int .i64 a1_1, .int .i64 a1_2, .slice A1_3 l1_3.length c1_3, .slice A1_4 l1_4.length c1_4]) (t := 31) tS ?_; intro a7 hg w4 hbox hb; have HO1_3 := sd (Kd.V_below (Kd.V_elderB (uV HO1_3.out) a7 (Nat.le_of_eq hg.symm)) hb); have HO1_4 := sd (Kd.V_below (Kd.V_elderB (uV HO1_4.out) a7 (Nat.le_of_eq hg.symm)) hb); have d2 := sd (hbox); have m8 := sd (leB hg tB); have m9 := sd (leB hg tB); have HB := sd (below_step tB hb); clear hb hbox hg) | ((with_reducible refine gate_dst (N := 6) rfl ?_); refine box_event (by rfl) (N := 6) (by rfl) (cs := #[.int .i64 0, .int .i64 0, .int .i64 0, .slice none 0 0, .slice none 0 0]) (t := 31) tS ?_; intro a6 hg w5 hbox hb; have HO1_3 := sd (Kd.V_below (Kd.V_elderB (uV HO1_3.out) a6 (Nat.le_of_eq hg.symm)) hb); have HO1_4 := sd (Kd.V_below (Kd.V_elderB (uV HO1_4.out) a6 (Nat.le_of_eq hg.symm)) hb); have d2 := sd (blk_below (g := a7) tL hb); have e9 := sd (hbox); have n0 := sd (leB hg tB); have n1 := sd (leB hg tB); have HB := sd (below_step tB hb); have f0 := sd (neL hg (blk_lt (g := a7) tL)); have f1 := sd (neR hg (blk_lt (g := a7) tL)); clear hb hbox hg))
 (try simp only [Act.put, List.setIfInBounds_toArray, List.set_cons_zero, List.set_cons_succ])
 go_loopg [14] k (fun kq v14 w' => ∃ (x14_1 : Int) (b6 : Int) (b7 : Int) (b8 : Int) (b9 : List (S64)) (c0 : List (S31)) (f2 : Int) (f3 : Int) (f4 : Int) (i1 : Value) (i2 : Value), v14 = .int .i64 x14_1 ∧ Aside0 (spec_Reach.l0 kq a0 l2 l2 (l2.length : Int) x14_1 b6 b7 b8 b9 c0 = some (r1, r2, r3, r4, r5, r6)) ∧ Aside0 (kq ≤ k) ∧ Aside0 (Kd.V k64 64 w' w.heap.size (fun k_ => ((P1_3_ k_ ∨ P1_4_ k_) ∨ w.heap.size ≤ k_) ∧ k_ ≠ a7 ∧ k_ ≠ a6) i1 b9) ∧ Aside0 (Kd.V k31 31 w' w.heap.size (fun k_ => ((P1_3_ k_ ∨ P1_4_ k_) ∨ w.heap.size ≤ k_) ∧ k_ ≠ a7 ∧ k_ ≠ a6) i2 c0) ∧ Aside0 (w'.heap[a7]? = some (.cells #[.int .i64 b6, .int .i64 b7, .int .i64 b8, i1, i2] 31 (0, 0))) ∧ Aside0 (w'.heap[a6]? = some (.cells #[.int .i64 f2, .int .i64 f3, .int .i64 f4, (.slice none 0 0), (.slice none 0 0)] 31 (0, 0))) ∧ Aside0 (Below w.heap.size w w'))
 case atStart => exact ⟨(0), (a1_0), (a1_1), (a1_2), (l1_3), (l1_4), (0), (0), (0), (.slice A1_3 l1_3.length c1_3), (.slice A1_4 l1_4.length c1_4), tF, H', ⟨Nat.le_refl _⟩, ⟨Kd.V_mono (uV HO1_3.out) (fun _ hk => ⟨hk.1.1, ⟨hk.1.2, hk.2⟩⟩)⟩, ⟨Kd.V_mono (uV HO1_4.out) (fun _ hk => ⟨hk.1.1, ⟨hk.1.2, hk.2⟩⟩)⟩, ⟨tL⟩, ⟨tL⟩, ⟨tB⟩⟩
 case round =>
  clear H'
  obtain ⟨x14_1, b6, b7, b8, b9, c0, f2, f3, f4, i1, i2, rfl, HA, HK1, a4, a8, d2, e9, HB⟩ := hrel
  cases gk with
  | zero => exact absurd HA.out (by simp [spec_Reach.l0])
  | succ k1 =>
   have H := HA.out
   clear HA
   simp only [spec_Reach.l0] at H
   by_cases c6 : x14_1 < (l2.length : Int)
   ·rw [if_pos c6] at H
    have c6b0 : decide (x14_1 < (l2.length : Int)) = true := decide_eq_true c6
    clear c6
    by_cases c7 : 0 ≤ x14_1
    ·rw [if_pos c7] at H
     have c7b0 : decide (0 ≤ x14_1) = true := decide_eq_true c7
     clear c7
     by_cases c8 : x14_1 < (l2.length : Int)
     ·rw [if_pos c8] at H
      have c8b0 : decide (x14_1 < (l2.length : Int)) = true := decide_eq_true c8
      clear c8
      replace H := Option.bind_eq_some_iff.mp H
      obtain ⟨⟨j5, j6, j7, i7, i8, m2⟩, A90, H⟩ := H
      try dsimp only at H
      have A9 := sd A90
      clear A90
      by_cases c10 : m2 = true
      ·subst c10
       rw [if_pos rfl] at H
       have H' := sd H
       clear H
       have g1 : 0 ≤ (x14_1 : Int) := of_decide_eq_true (by first | (with_reducible assumption) | assumption)
       have g2 : x14_1 < (l2.length : Int) := of_decide_eq_true (by first | (with_reducible assumption) | assumption)
       obtain ⟨ad395, e395, d3⟩ := Kd.at_string HR2.out x14_1 g1 g2
       cases e395
       replace d3 := (HB.out.cell (World.block_lt_of_cell? w _ d3)).trans d3
       replace g1 := eq_true g1
       replace g2 := eq_true g2
       have hnb11 := f0.out
       have hnc11 := f1.out
       obtain ⟨z0, z1, z2, z3, z4, y0, y1, y2, y3, y4⟩ := blk5 d2.out
       obtain ⟨Ao13, co13, eo13⟩ := Kd.V_slice a4.out
       subst eo13
       obtain ⟨Ao14, co14, eo14⟩ := Kd.V_slice a8.out
       subst eo14
       go_wp2_with (first | ((with_reducible refine gate_callee (f := 31) rfl ?_); refine goesL_ (some 23) rfl rfl Tryz.func31 (by kernel_rfl) rfl #[.string a0, .agg #[.int .i64 b6, .int .i64 b7, .int .i64 b8, .slice Ao13 b9.length co13, .slice Ao14 c0.length co14], .string (rdOf ByteArray.empty l2 x14_1)] rfl tM ?_; (with_reducible refine (spec_Step.calls k1 a0 b6 b7 b8 _ _ b9 (fun k_ => (((P1_3_ k_ ∨ P1_4_ k_) ∨ w.heap.size ≤ k_) ∧ (k_ ≠ a7 ∧ k_ ≠ a6))) _ _ c0 (rdOf ByteArray.empty l2 x14_1) j5 j6 j7 i7 i8 true _ ?side1 ?side2 ?side3 A9.out).mono ?_); (case side1 => repeat (first | exact (Kd.V_reads' a4.out).2.2 | (with_reducible refine Kd.C_alloc ?_ _) | (with_reducible refine Kd.C_drewN ?_ _) | (with_reducible refine Kd.C_drew ?_))); (case side2 => exact (Kd.V_reads' a4.out).2.1); (case side3 => exact a8.out); rintro e w15 ⟨m3, m4, rfl, ho0, ho1, hb⟩; refine ⟨_, rfl, ?_⟩; have a4 := sd (Kd.V_below (uV a4.out) hb); have a8 := sd (Kd.V_below (uV a8.out) hb); have e0 := sd (Kd.V_lower (Kd.V_mono (ok' := fun k_ => ((P1_3_ k_ ∨ P1_4_ k_) ∨ w.heap.size ≤ k_) ∧ k_ ≠ a7 ∧ k_ ≠ a6) ho0 (fun k_ hk_ => ⟨Or.elim hk_ (fun hs_ => hs_.1) (fun hn_ => (.inr (Nat.le_trans (below_size tB) hn_))), Or.elim hk_ (fun hs_ => hs_.2.1) (fun hn_ => (Kd.freshB (g := a7) tL k_ hn_)), Or.elim hk_ (fun hs_ => hs_.2.2) (fun hn_ => (Kd.freshB (g := a6) tL k_ hn_))⟩)) (below_size tB)); have e1 := sd (Kd.V_lower (Kd.V_mono (ok' := fun k_ => ((P1_3_ k_ ∨ P1_4_ k_) ∨ w.heap.size ≤ k_) ∧ k_ ≠ a7 ∧ k_ ≠ a6) ho1 (fun k_ hk_ => ⟨Or.elim hk_ (fun hs_ => hs_.1) (fun hn_ => (.inr (Nat.le_trans (below_size tB) hn_))), Or.elim hk_ (fun hs_ => hs_.2.1) (fun hn_ => (Kd.freshB (g := a7) tL k_ hn_)), Or.elim hk_ (fun hs_ => hs_.2.2) (fun hn_ => (Kd.freshB (g := a6) tL k_ hn_))⟩)) (below_size tB)); have d2 := sd (blk_below (g := a7) tL hb); have e9 := sd (blk_below (g := a6) tL hb); have HB := sd (below_step tB hb); clear hb ho0 ho1) | ((with_reducible refine gate_dst (N := 10) rfl ?_); refine box_event (by rfl) (N := 10) (by rfl) (cs := #[.int .i64 0, .int .i64 0, .int .i64 0, .slice none 0 0, .slice none 0 0]) (t := 31) tS ?_; intro c9 hg w16 hbox hb; have a4 := sd (Kd.V_below (Kd.V_elderB (uV a4.out) c9 (Nat.le_of_eq hg.symm)) hb); have a8 := sd (Kd.V_below (Kd.V_elderB (uV a8.out) c9 (Nat.le_of_eq hg.symm)) hb); have e0 := sd (Kd.V_below (Kd.V_elderB (uV e0.out) c9 (Nat.le_of_eq hg.symm)) hb); have e1 := sd (Kd.V_below (Kd.V_elderB (uV e1.out) c9 (Nat.le_of_eq hg.symm)) hb); have d2 := sd (blk_below (g := a7) tL hb); have e9 := sd (blk_below (g := a6) tL hb); have i9 := sd (hbox); have m0 := sd (leB hg tB); have m1 := sd (leB hg tB); have HB := sd (below_step tB hb); have f5 := sd (neL hg (blk_lt (g := a7) tL)); have f6 := sd (neR hg (blk_lt (g := a7) tL)); have f7 := sd (neL hg (blk_lt (g := a6) tL)); have f8 := sd (neR hg (blk_lt (g := a6) tL)); clear hb hbox hg; have hnb17 := f6.out; have hnc17 := f5.out; have hnb18 := f8.out; have hnc18 := f7.out; obtain ⟨z0, z1, z2, z3, z4, y0, y1, y2, y3, y4⟩ := blk5 i9.out; obtain ⟨Ao20, co20, eo20⟩ := Kd.V_slice e0.out; subst eo20; obtain ⟨Ao21, co21, eo21⟩ := Kd.V_slice e1.out; subst eo21; obtain ⟨z0, z1, z2, z3, z4, y0, y1, y2, y3, y4⟩ := blk5 d2.out))
       go_roundg k1
       case measure => have := HK1.out; omega
       case rel => exact ⟨(wrap64 (x14_1 + 1)), (j5), (j6), (j7), (i7), (i8), (f2), (f3), (f4), (.slice Ao20 i7.length co20), (.slice Ao21 i8.length co21), tF, H', ⟨by have := HK1.out; omega⟩, ⟨Kd.V_mono (uV (Kd.V_mono (Kd.V_mono e0.out (fun k_ hk => (⟨hk, hk.2⟩ : _ ∧ k_ ≠ c9))) (fun k_ hk => (⟨hk, hk.1.1.2.1⟩ : _ ∧ k_ ≠ a7)))) (fun _ hk => ⟨hk.1.1.1.1, ⟨hk.1.1.1.2.1, hk.1.1.1.2.2⟩⟩)⟩, ⟨Kd.V_mono (uV (Kd.V_mono (Kd.V_mono e1.out (fun k_ hk => (⟨hk, hk.2⟩ : _ ∧ k_ ≠ c9))) (fun k_ hk => (⟨hk, hk.1.1.2.1⟩ : _ ∧ k_ ≠ a7)))) (fun _ hk => ⟨hk.1.1.1.1, ⟨hk.1.1.1.2.1, hk.1.1.1.2.2⟩⟩)⟩, ⟨tC⟩, ⟨tC⟩, ⟨tB⟩⟩
      ·replace c10 := Bool.eq_false_iff.mpr c10
       subst c10
       rw [if_neg (show ¬ (false = true) by decide)] at H
       simp only [Option.some.injEq, Prod.mk.injEq] at H
       obtain ⟨rfl, rfl, rfl, rfl, rfl, rfl⟩ := H
       have g1 : 0 ≤ (x14_1 : Int) := of_decide_eq_true (by first | (with_reducible assumption) | assumption)
       have g2 : x14_1 < (l2.length : Int) := of_decide_eq_true (by first | (with_reducible assumption) | assumption)
       obtain ⟨ad395, e395, d3⟩ := Kd.at_string HR2.out x14_1 g1 g2
       cases e395
       replace d3 := (HB.out.cell (World.block_lt_of_cell? w _ d3)).trans d3
       replace g1 := eq_true g1
       replace g2 := eq_true g2
       have hnb23 := f0.out
       have hnc23 := f1.out
       obtain ⟨z0, z1, z2, z3, z4, y0, y1, y2, y3, y4⟩ := blk5 d2.out
       obtain ⟨Ao25, co25, eo25⟩ := Kd.V_slice a4.out
       subst eo25
       obtain ⟨Ao26, co26, eo26⟩ := Kd.V_slice a8.out
       subst eo26
       go_wp2_with (first | ((with_reducible refine gate_callee (f := 31) rfl ?_); refine goesL_ (some 23) rfl rfl Tryz.func31 (by kernel_rfl) rfl #[.string a0, .agg #[.int .i64 b6, .int .i64 b7, .int .i64 b8, .slice Ao25 b9.length co25, .slice Ao26 c0.length co26], .string (rdOf ByteArray.empty l2 x14_1)] rfl tM ?_; (with_reducible refine (spec_Step.calls k1 a0 b6 b7 b8 _ _ b9 (fun k_ => (((P1_3_ k_ ∨ P1_4_ k_) ∨ w.heap.size ≤ k_) ∧ (k_ ≠ a7 ∧ k_ ≠ a6))) _ _ c0 (rdOf ByteArray.empty l2 x14_1) j5 j6 j7 i7 i8 false _ ?side1 ?side2 ?side3 A9.out).mono ?_); (case side1 => repeat (first | exact (Kd.V_reads' a4.out).2.2 | (with_reducible refine Kd.C_alloc ?_ _) | (with_reducible refine Kd.C_drewN ?_ _) | (with_reducible refine Kd.C_drew ?_))); (case side2 => exact (Kd.V_reads' a4.out).2.1); (case side3 => exact a8.out); rintro e w27 ⟨m3, m4, rfl, ho0, ho1, hb⟩; refine ⟨_, rfl, ?_⟩; have a4 := sd (Kd.V_below (uV a4.out) hb); have a8 := sd (Kd.V_below (uV a8.out) hb); have e0 := sd (Kd.V_lower (Kd.V_mono (ok' := fun k_ => ((P1_3_ k_ ∨ P1_4_ k_) ∨ w.heap.size ≤ k_) ∧ k_ ≠ a7 ∧ k_ ≠ a6) ho0 (fun k_ hk_ => ⟨Or.elim hk_ (fun hs_ => hs_.1) (fun hn_ => (.inr (Nat.le_trans (below_size tB) hn_))), Or.elim hk_ (fun hs_ => hs_.2.1) (fun hn_ => (Kd.freshB (g := a7) tL k_ hn_)), Or.elim hk_ (fun hs_ => hs_.2.2) (fun hn_ => (Kd.freshB (g := a6) tL k_ hn_))⟩)) (below_size tB)); have e1 := sd (Kd.V_lower (Kd.V_mono (ok' := fun k_ => ((P1_3_ k_ ∨ P1_4_ k_) ∨ w.heap.size ≤ k_) ∧ k_ ≠ a7 ∧ k_ ≠ a6) ho1 (fun k_ hk_ => ⟨Or.elim hk_ (fun hs_ => hs_.1) (fun hn_ => (.inr (Nat.le_trans (below_size tB) hn_))), Or.elim hk_ (fun hs_ => hs_.2.1) (fun hn_ => (Kd.freshB (g := a7) tL k_ hn_)), Or.elim hk_ (fun hs_ => hs_.2.2) (fun hn_ => (Kd.freshB (g := a6) tL k_ hn_))⟩)) (below_size tB)); have d2 := sd (blk_below (g := a7) tL hb); have e9 := sd (blk_below (g := a6) tL hb); have HB := sd (below_step tB hb); clear hb ho0 ho1) | ((with_reducible refine gate_dst (N := 10) rfl ?_); refine box_event (by rfl) (N := 10) (by rfl) (cs := #[.int .i64 0, .int .i64 0, .int .i64 0, .slice none 0 0, .slice none 0 0]) (t := 31) tS ?_; intro c9 hg w28 hbox hb; have a4 := sd (Kd.V_below (Kd.V_elderB (uV a4.out) c9 (Nat.le_of_eq hg.symm)) hb); have a8 := sd (Kd.V_below (Kd.V_elderB (uV a8.out) c9 (Nat.le_of_eq hg.symm)) hb); have e0 := sd (Kd.V_below (Kd.V_elderB (uV e0.out) c9 (Nat.le_of_eq hg.symm)) hb); have e1 := sd (Kd.V_below (Kd.V_elderB (uV e1.out) c9 (Nat.le_of_eq hg.symm)) hb); have d2 := sd (blk_below (g := a7) tL hb); have e9 := sd (blk_below (g := a6) tL hb); have i9 := sd (hbox); have m0 := sd (leB hg tB); have m1 := sd (leB hg tB); have HB := sd (below_step tB hb); have f5 := sd (neL hg (blk_lt (g := a7) tL)); have f6 := sd (neR hg (blk_lt (g := a7) tL)); have f7 := sd (neL hg (blk_lt (g := a6) tL)); have f8 := sd (neR hg (blk_lt (g := a6) tL)); clear hb hbox hg; have hnb29 := f6.out; have hnc29 := f5.out; have hnb30 := f8.out; have hnc30 := f7.out; obtain ⟨z0, z1, z2, z3, z4, y0, y1, y2, y3, y4⟩ := blk5 i9.out; obtain ⟨Ao32, co32, eo32⟩ := Kd.V_slice e0.out; subst eo32; obtain ⟨Ao33, co33, eo33⟩ := Kd.V_slice e1.out; subst eo33; obtain ⟨z0, z1, z2, z3, z4, y0, y1, y2, y3, y4⟩ := blk5 d2.out; obtain ⟨z0, z1, z2, z3, z4, y0, y1, y2, y3, y4⟩ := blk5 e9.out))
       refine bodyPost_ret (results_ct rfl _ _ a6 31 #[.int .i64 b6, .int .i64 b7, .int .i64 b8, .slice Ao25 b9.length co25, .slice Ao26 c0.length co26] (0, 0) _ rfl tC Tryz.underlying31 rfl (by kernel_rfl)) rfl ?_
       exact ⟨_, _, tE, Kd.V_mono (uV (Kd.V_mono (Kd.V_mono a4.out (fun k_ hk => (⟨hk, hk.2⟩ : _ ∧ k_ ≠ c9))) (fun k_ hk => (⟨hk, hk.1.1.2.2⟩ : _ ∧ k_ ≠ a6)))) (fun _ hk => hk.1.1.1.1), Kd.V_mono (uV (Kd.V_mono (Kd.V_mono a8.out (fun k_ hk => (⟨hk, hk.2⟩ : _ ∧ k_ ≠ c9))) (fun k_ hk => (⟨hk, hk.1.1.2.2⟩ : _ ∧ k_ ≠ a6)))) (fun _ hk => hk.1.1.1.1), tB⟩
     ·rw [if_neg c8] at H
      exact absurd H (by simp)
    ·rw [if_neg c7] at H
     exact absurd H (by simp)
   ·rw [if_neg c6] at H
    have c6b0 : decide (x14_1 < (l2.length : Int)) = false := decide_eq_false c6
    clear c6
    simp only [Option.some.injEq, Prod.mk.injEq] at H
    obtain ⟨rfl, rfl, rfl, rfl, rfl, rfl⟩ := H
    have hnb36 := f0.out
    have hnc36 := f1.out
    obtain ⟨z0, z1, z2, z3, z4, y0, y1, y2, y3, y4⟩ := blk5 d2.out
    obtain ⟨z0, z1, z2, z3, z4, y0, y1, y2, y3, y4⟩ := blk5 e9.out
    obtain ⟨Ao39, co39, eo39⟩ := Kd.V_slice a4.out
    subst eo39
    obtain ⟨Ao40, co40, eo40⟩ := Kd.V_slice a8.out
    subst eo40
    go_wp2
    refine bodyPost_ret (results_ct rfl _ _ a6 31 #[.int .i64 b6, .int .i64 b7, .int .i64 b8, .slice Ao39 b9.length co39, .slice Ao40 c0.length co40] (0, 0) _ rfl tC Tryz.underlying31 rfl (by kernel_rfl)) rfl ?_
    exact ⟨_, _, tE, Kd.V_mono (uV (Kd.V_mono a4.out (fun k_ hk => (⟨hk, hk.2.2⟩ : _ ∧ k_ ≠ a6)))) (fun _ hk => hk.1.1), Kd.V_mono (uV (Kd.V_mono a8.out (fun k_ hk => (⟨hk, hk.2.2⟩ : _ ∧ k_ ≠ a6)))) (fun _ hk => hk.1.1), tB⟩
/-! ### laws_jpIndex: function 17 -/
def laws_jpIndex.f (a0 : ByteArray) : Option (Bool) := if a0.toList = ([] : List UInt8) then (some false) else (if 0 < (a0.size : Int) then (some ((bt a0 0) == 91)) else (none))
set_option maxHeartbeats 8000000 in
set_option maxRecDepth 100000 in
theorem laws_jpIndex.calls (a0 : ByteArray) (r : Bool) (w : World) (h : laws_jpIndex.f a0 = some r) :
  Calls Tryz.prog 17 #[.string a0] w fun e w' => e = .returned (.bool r) ∧ Drawn0 w w' := by
 have H : (if a0.toList = ([] : List UInt8) then (some false) else (if 0 < (a0.size : Int) then (some ((bt a0 0) == 91)) else (none))) = some r := h
 clear h
 by_cases c2 : a0.toList = ([] : List UInt8)
 ·rw [if_pos c2] at H
  have c2b0 : (a0.toList == ([] : List UInt8)) = true := beq_iff_eq.mpr c2
  have c2b1 : (a0.toList != ([] : List UInt8)) = false := bne_eq_false_iff_eq.mpr c2
  clear c2
  obtain rfl := Option.some.inj H
  go_enter Tryz.func17, Tryz.ntmps17
  go_wp2
  go_ret
  exact ⟨by first | rfl | (simp; done) | (simp [*]; done), by repeat (first | exact Drawn0.refl _ | apply Drawn0.step)⟩
 ·rw [if_neg c2] at H
  have c2b0 : (a0.toList == ([] : List UInt8)) = false := beq_eq_false_iff_ne.mpr c2
  have c2b1 : (a0.toList != ([] : List UInt8)) = true := bne_iff_ne.mpr c2
  by_cases c3 : 0 < (a0.size : Int)
  ·rw [if_pos c3] at H
   have c3b0 : decide (0 < (a0.size : Int)) = true := decide_eq_true c3
   have c3b1 : decide (0 < a0.size) = true := decide_eq_true (by omega)
   clear c3
   obtain rfl := Option.some.inj H
   have p4 : 0 ≤ (0 : Int) := (by omega)
   have q4 : 0 < a0.size := (by have : (0 : Int) < (a0.size : Int) := of_decide_eq_true (by first | (with_reducible assumption) | assumption); omega)
   have hx4 : ∀ h : 0 < a0.size, ((a0[0]'h).toNat : Int) = bt a0 0 := bt_at a0 0
   clear p4
   have qi4 : (0 < (a0.size : Int)) = True := eq_true tX
   replace q4 := eq_true q4
   go_enter Tryz.func17, Tryz.ntmps17
   go_wp2
   go_ret
   exact ⟨by first | rfl | (simp; done) | (simp [*]; done), by repeat (first | exact Drawn0.refl _ | apply Drawn0.step)⟩
  ·rw [if_neg c3] at H
   exact absurd H (by simp)
/-! ### laws_jpFound: function 16 -/
mutual
def laws_jpFound.j0 : Nat → ByteArray → List ByteArray → Bool → Int → Int → Int → List (S64) → List (S31) → Option (Int × Int × Int × (List (S64)) × (List (S31)) × Bool)
 | 0, _, _, _, _, _, _, _, _ => none
 | k + 1, x0, x1, x23, d1, d4, d5, d6, d7 => if x23 = true then (some (0, 0, 0, ([] : List (S64)), ([] : List (S31)), false)) else (laws_jpFound.l0 k x0 x1 (x1.length : Int) 0 d1 d4 d5 d6 d7)
def laws_jpFound.l0 : Nat → ByteArray → List ByteArray → Int → Int → Int → Int → Int → List (S64) → List (S31) → Option (Int × Int × Int × (List (S64)) × (List (S31)) × Bool)
 | 0, _, _, _, _, _, _, _, _, _ => none
 | k + 1, x0, x25, x26, x27, d1, d4, d5, d6, d7 => if x27 < x26 then (if 0 ≤ x27 then (if x27 < (x25.length : Int) then (if d1 = 6 then ((laws_jpIndex.f (rdOf ByteArray.empty x25 x27)).bind fun j1 => (laws_jpFound.j2 k x0 (rdOf ByteArray.empty x25 x27) x25 x26 x27 j1 d1 d4 d5 d6 d7)) else (laws_jpFound.j2 k x0 (rdOf ByteArray.empty x25 x27) x25 x26 x27 false d1 d4 d5 d6 d7)) else (none)) else (none)) else (some (d1, d4, d5, d6, d7, true))
def laws_jpFound.j2 : Nat → ByteArray → ByteArray → List ByteArray → Int → Int → Bool → Int → Int → Int → List (S64) → List (S31) → Option (Int × Int × Int × (List (S64)) × (List (S31)) × Bool)
 | 0, _, _, _, _, _, _, _, _, _, _, _ => none
 | k + 1, x0, x9, x25, x26, x27, x37, d1, d4, d5, d6, d7 => if x37 = true then (some (0, 0, 0, ([] : List (S64)), ([] : List (S31)), false)) else ((spec_Step.f k x0 d1 d4 d5 d6 d7 x9).bind fun g0 => (if g0.2.2.2.2.2 = true then (laws_jpFound.l0 k x0 x25 x26 (wrap64 (x27 + 1)) g0.1 g0.2.1 g0.2.2.1 g0.2.2.2.1 g0.2.2.2.2.1) else (some (0, 0, 0, ([] : List (S64)), ([] : List (S31)), false))))
end
def laws_jpFound.f (k : Nat) (a0 : ByteArray) (l1 : List ByteArray) : Option (Int × Int × Int × (List (S64)) × (List (S31)) × Bool) := (laws_jpPlaces.f k a0).bind fun a2 => (if a2.2.2.2.2.2 = true then ((spec_Once.f k a0 a2.1 a2.2.1 a2.2.2.1 a2.2.2.2.1 a2.2.2.2.2.1 l1).bind fun i3 => (laws_jpFound.j0 k a0 l1 (!i3) a2.1 a2.2.1 a2.2.2.1 a2.2.2.2.1 a2.2.2.2.2.1)) else (laws_jpFound.j0 k a0 l1 true a2.1 a2.2.1 a2.2.2.1 a2.2.2.2.1 a2.2.2.2.2.1))
theorem tl10_0 {P : Prop} (h : P := by
 obtain ⟨z0, z1, z2, z3, z4, y0, y1, y2, y3, y4⟩ := blk5 d0.out
 go_wp2
 refine bodyPost_ret (results_ct rfl _ _ a3 31 #[.int .i64 0, .int .i64 0, .int .i64 0, .slice none 0 0, .slice none 0 0] (0, 0) _ rfl tC Tryz.underlying31 rfl (by kernel_rfl)) rfl ?_
 exact ⟨_, _, tE, (Kd.V_nil _ _ _ _ _), (Kd.V_nil _ _ _ _ _), tB⟩) : P := h
set_option maxHeartbeats 8000000 in
set_option maxRecDepth 100000 in
theorem laws_jpFound.calls (k : Nat) (a0 : ByteArray) (A1 : Option Addr) (c1 : Nat) (l1 : List ByteArray) (r1 : Int) (r2 : Int) (r3 : Int) (r4 : List (S64)) (r5 : List (S31)) (r6 : Bool) (w : World) (hr1 : Kd.C Kd.string w A1 l1.length l1) (hc1 : l1.length ≤ c1) (h : laws_jpFound.f k a0 l1 = some (r1, r2, r3, r4, r5, r6)) :
  Calls Tryz.prog 16 #[.string a0, .slice A1 l1.length c1] w fun e w' => ∃ v3_ v4_ : Value, e = .returned (.tuple #[.agg #[.int .i64 r1, .int .i64 r2, .int .i64 r3, v3_, v4_], .bool r6]) ∧ Kd.V k64 64 w' w.heap.size (fun k_ => (w.heap.size ≤ k_)) v3_ r4 ∧ Kd.V k31 31 w' w.heap.size (fun k_ => (w.heap.size ≤ k_)) v4_ r5 ∧ Below w.heap.size w w' := by
 have hu31 := Tryz.underlying31
 have HR1 := sd hr1
 have HC1 := sd hc1
 clear hr1 hc1
 have HB := sd (Below.refl w.heap.size w)
 have H : ((laws_jpPlaces.f k a0).bind fun a2 => (if a2.2.2.2.2.2 = true then ((spec_Once.f k a0 a2.1 a2.2.1 a2.2.2.1 a2.2.2.2.1 a2.2.2.2.2.1 l1).bind fun i3 => (laws_jpFound.j0 k a0 l1 (!i3) a2.1 a2.2.1 a2.2.2.1 a2.2.2.2.1 a2.2.2.2.2.1)) else (laws_jpFound.j0 k a0 l1 true a2.1 a2.2.1 a2.2.2.1 a2.2.2.2.1 a2.2.2.2.2.1))) = some (r1, r2, r3, r4, r5, r6) := h
 clear h
 replace H := Option.bind_eq_some_iff.mp H
 obtain ⟨⟨g3, g4, g5, d8, e6, l6⟩, A30, H⟩ := H
 try dsimp only at H
 have A3 := sd A30
 clear A30
 have HC4 := sd H
 clear H
 go_enter Tryz.func16, Tryz.ntmps16
 go_upto_region 2 with (first | ((with_reducible refine gate_dst (N := 4) rfl ?_); refine box_event (by rfl) (N := 4) (by rfl) (cs := #[.int .i64 0, .int .i64 0, .int .i64 0, .slice none 0 0, .slice none 0 0]) (t := 31) tS ?_; intro a3 hg w5 hbox hb; have d0 := sd (hbox); have n2 := sd (leB hg tB); have n3 := sd (leB hg tB); have HB := sd (below_step tB hb); clear hb hbox hg) | ((with_reducible refine gate_callee (f := 13) rfl ?_); refine goesL_ (some 12) rfl rfl Tryz.func13 (by kernel_rfl) rfl #[.string a0] rfl tM ?_; (with_reducible refine (laws_jpPlaces.calls k a0 g3 g4 g5 d8 e6 l6 _ A3.out).mono ?_); rintro e w6 ⟨n6, n7, rfl, ho0, ho1, hb⟩; refine ⟨_, rfl, ?_⟩; have e2 := sd (Kd.R_lower (Kd.R_newM (M := fun k_ => (w.heap.size ≤ k_)) ho0 (below_size tB) (fun k_ h_ => h_)) (below_size tB)); have d9 := sd (Kd.R_lower (Kd.R_newB (Kd.R_newM (M := fun k_ => (w.heap.size ≤ k_)) ho1 (below_size tB) (fun k_ h_ => h_)) (g := a3) tL) (below_size tB)); have d0 := sd (blk_below (g := a3) tL hb); have HB := sd (below_step tB hb); clear hb ho0 ho1) | ((with_reducible refine gate_dst (N := 6) rfl ?_); refine box_event (by rfl) (N := 6) (by rfl) (cs := #[.int .i64 0, .int .i64 0, .int .i64 0, .slice none 0 0, .slice none 0 0]) (t := 31) tS ?_; intro a1 hg w7 hbox hb; have e2 := sd (Kd.R_below (uR e2.out) hb); have d9 := sd (Kd.R_below (Kd.R_elderB (uR d9.out) a1 (Nat.le_of_eq hg.symm)) hb); have d0 := sd (blk_below (g := a3) tL hb); have b1 := sd (hbox); have n4 := sd (leB hg tB); have n5 := sd (leB hg tB); have HB := sd (below_step tB hb); have c4 := sd (neL hg (blk_lt (g := a3) tL)); have c5 := sd (neR hg (blk_lt (g := a3) tL)); clear hb hbox hg; have hnb8 := c5.out; have hnc8 := c4.out; obtain ⟨z0, z1, z2, z3, z4, y0, y1, y2, y3, y4⟩ := blk5 b1.out; obtain ⟨Ao10, co10, eo10⟩ := Kd.R_slice e2.out; subst eo10; obtain ⟨Ao11, co11, eo11⟩ := Kd.R_slice d9.out; subst eo11))
 (try simp only [Act.put, List.setIfInBounds_toArray, List.set_cons_zero, List.set_cons_succ])
 go_cut [23] (fun v23 wc => ∃ (kq : Nat) (x23_3 : Bool), v23 = .bool x23_3 ∧ Aside0 (laws_jpFound.j0 kq a0 l1 x23_3 g3 g4 g5 d8 e6 = some (r1, r2, r3, r4, r5, r6)) ∧ Aside0 (kq ≤ k) ∧ Aside0 (Kd.R k64 64 wc w.heap.size (fun k_ => (w.heap.size ≤ k_)) (.slice Ao10 d8.length co10) d8) ∧ Aside0 (Kd.R k31 31 wc w.heap.size (fun k_ => (w.heap.size ≤ k_) ∧ k_ ≠ a3 ∧ k_ ≠ a1) (.slice Ao11 e6.length co11) e6) ∧ Aside0 (wc.heap[a3]? = some (.cells #[.int .i64 0, .int .i64 0, .int .i64 0, (.slice none 0 0), (.slice none 0 0)] 31 (0, 0))) ∧ Aside0 (wc.heap[a1]? = some (.cells #[.int .i64 g3, .int .i64 g4, .int .i64 g5, (.slice Ao10 d8.length co10), (.slice Ao11 e6.length co11)] 31 (0, 0))) ∧ Aside0 (Below w.heap.size w wc))
 case first =>
  have H := HC4.out
  clear HC4
  by_cases c12 : l6 = true
  ·subst c12
   rw [if_pos rfl] at H
   replace H := Option.bind_eq_some_iff.mp H
   obtain ⟨i3, l7, H⟩ := H
   try dsimp only at H
   have A13 := sd l7
   clear l7
   have H' := sd H
   clear H
   have hnb14 := c5.out
   have hnc14 := c4.out
   obtain ⟨z0, z1, z2, z3, z4, y0, y1, y2, y3, y4⟩ := blk5 b1.out
   go_wp2_with (first | (go_at_call 14; (with_reducible refine (spec_Once.calls k a0 g3 g4 g5 (fun k_ => some k_ = (.slice Ao10 d8.length co10 : Value).ownBlock) _ _ d8 (fun k_ => ((((w.heap.size ≤ k_) ∧ some k_ ≠ (.slice Ao10 d8.length co10 : Value).ownBlock) ∧ k_ ≠ a3) ∧ k_ ≠ a1)) _ _ e6 _ _ l1 i3 _ ?side1 ?side2 ?side3 ?side4 A13.out).mono ?_); (case side1 => exact Kd.R_V (Kd.R_tight rfl ((Kd.R_mono (Kd.R_far (p := ⟨a1, 4, none⟩) (Kd.R_far (p := ⟨a1, 3, none⟩) (Kd.R_far (p := ⟨a1, 2, none⟩) (Kd.R_far (p := ⟨a1, 1, none⟩) (Kd.R_far (p := ⟨a1, 0, none⟩) (Kd.R_mono (Kd.R_types (Kd.R_types (Kd.R_apart' (e2.out) (Kd.R_typed d9.out) (by decide)) d0.out (by decide)) b1.out (by decide)) (fun k_ hk => (⟨hk, hk.2⟩ : _ ∧ k_ ≠ a1))) (fun _ hk => hk.2) (.int .i64 g3)) (fun _ hk => hk.2) (.int .i64 g4)) (fun _ hk => hk.2) (.int .i64 g5)) (fun _ hk => hk.2) (.slice Ao10 d8.length co10)) (fun _ hk => hk.2) (.slice Ao11 e6.length co11)) (fun _ h_ => h_.1))))); (case side2 => exact Kd.R_V ((Kd.R_mono (Kd.R_far (p := ⟨a1, 4, none⟩) (Kd.R_far (p := ⟨a1, 3, none⟩) (Kd.R_far (p := ⟨a1, 2, none⟩) (Kd.R_far (p := ⟨a1, 1, none⟩) (Kd.R_far (p := ⟨a1, 0, none⟩) (Kd.R_mono (d9.out) (fun k_ hk => (⟨hk, hk.2⟩ : _ ∧ k_ ≠ a1))) (fun _ hk => hk.2) (.int .i64 g3)) (fun _ hk => hk.2) (.int .i64 g4)) (fun _ hk => hk.2) (.int .i64 g5)) (fun _ hk => hk.2) (.slice Ao10 d8.length co10)) (fun _ hk => hk.2) (.slice Ao11 e6.length co11)) (fun _ h_ => h_.1)))); (case side3 => exact Kd.C_below HR1.out tB); (case side4 => exact HC1.out); rintro e w16 ⟨rfl, hb⟩; have e2 := sd (Kd.R_below (Kd.R_mono (uR (Kd.R_types e2.out b1.out (by decide))) (fun _ h_ => h_.1)) hb); have d9 := sd (Kd.R_below (Kd.R_mono (uR (Kd.R_mono d9.out (fun k_ hk => (⟨hk, hk.2⟩ : _ ∧ k_ ≠ a1)))) (fun _ h_ => h_.1)) hb); have d0 := sd (blk_below (g := a3) tC hb); have b1 := sd (blk_below (g := a1) tC hb); have HB := sd (below_step tB hb); clear hb))
   go_meet
   case rel => exact ⟨_, (!i3), tF, H', ⟨by first | omega | exact Nat.le_refl _⟩, ⟨Kd.R_mono (uR e2.out) (fun _ hk => hk.1)⟩, ⟨Kd.R_mono (uR d9.out) (fun _ hk => ⟨hk.1.1.1, ⟨hk.1.2, hk.2⟩⟩)⟩, ⟨tL⟩, ⟨tL⟩, ⟨tB⟩⟩
  ·replace c12 := Bool.eq_false_iff.mpr c12
   subst c12
   rw [if_neg (show ¬ (false = true) by decide)] at H
   have H' := sd H
   clear H
   go_wp2
   go_meet
   case rel => exact ⟨_, (true), tF, H', ⟨by first | omega | exact Nat.le_refl _⟩, ⟨Kd.R_mono (uR (Kd.R_types e2.out b1.out (by decide))) (fun _ hk => hk.1.1)⟩, ⟨Kd.R_mono (uR (Kd.R_mono d9.out (fun k_ hk => (⟨hk, hk.2⟩ : _ ∧ k_ ≠ a1)))) (fun _ hk => ⟨hk.1.1.1.1, ⟨hk.1.1.2, hk.1.2⟩⟩)⟩, ⟨tC⟩, ⟨tC⟩, ⟨tB⟩⟩
 case rest =>
  clear HC4
  obtain ⟨kq, x23_3, rfl, HA, HJ3, a5, a9, d0, b1, HB⟩ := hcut
  cases kq with
  | zero => exact absurd HA.out (by simp [laws_jpFound.j0])
  | succ kj3 =>
   have H := HA.out
   clear HA
   simp only [laws_jpFound.j0] at H
   by_cases c17 : x23_3 = true
   ·subst c17
    rw [if_pos rfl] at H
    simp only [Option.some.injEq, Prod.mk.injEq] at H
    obtain ⟨rfl, rfl, rfl, rfl, rfl, rfl⟩ := H
    have hnb18 := c4.out
    have hnc18 := c5.out
    exact tl10_0
   ·replace c17 := Bool.eq_false_iff.mpr c17
    subst c17
    rw [if_neg (show ¬ (false = true) by decide)] at H
    have H' := sd H
    clear H
    go_wp2
    (try simp only [Act.put, List.setIfInBounds_toArray, List.set_cons_zero, List.set_cons_succ])
    go_loopg [27] kj3 (fun kq v27 w' => ∃ (x27_2 : Int) (e3 : Int) (e4 : Int) (e5 : Int) (b0 : Int) (b2 : Int) (b3 : Int) (b4 : List (S64)) (b5 : List (S31)) (e7 : Value) (e8 : Value), v27 = .int .i64 x27_2 ∧ Aside0 (laws_jpFound.l0 kq a0 l1 (l1.length : Int) x27_2 b0 b2 b3 b4 b5 = some (r1, r2, r3, r4, r5, r6)) ∧ Aside0 (kq ≤ kj3) ∧ Aside0 (Kd.V k64 64 w' w.heap.size (fun k_ => (w.heap.size ≤ k_) ∧ k_ ≠ a3 ∧ k_ ≠ a1) e7 b4) ∧ Aside0 (Kd.V k31 31 w' w.heap.size (fun k_ => (w.heap.size ≤ k_) ∧ k_ ≠ a3 ∧ k_ ≠ a1) e8 b5) ∧ Aside0 (w'.heap[a3]? = some (.cells #[.int .i64 e3, .int .i64 e4, .int .i64 e5, (.slice none 0 0), (.slice none 0 0)] 31 (0, 0))) ∧ Aside0 (w'.heap[a1]? = some (.cells #[.int .i64 b0, .int .i64 b2, .int .i64 b3, e7, e8] 31 (0, 0))) ∧ Aside0 (Below w.heap.size w w'))
    case atStart => exact ⟨(0), (0), (0), (0), (g3), (g4), (g5), (d8), (e6), (.slice Ao10 d8.length co10), (.slice Ao11 e6.length co11), tF, H', ⟨Nat.le_refl _⟩, ⟨Kd.R_V (Kd.R_mono (uR (Kd.R_types (Kd.R_types a5.out d0.out (by decide)) b1.out (by decide))) (fun _ hk => ⟨hk.1.1, ⟨hk.1.2, hk.2⟩⟩))⟩, ⟨Kd.R_V (uR a9.out)⟩, ⟨tL⟩, ⟨tL⟩, ⟨tB⟩⟩
    case round =>
     clear H'
     obtain ⟨x27_2, e3, e4, e5, b0, b2, b3, b4, b5, e7, e8, rfl, HA, HK2, a5, a9, d0, b1, HB⟩ := hrel
     cases gk with
     | zero => exact absurd HA.out (by simp [laws_jpFound.l0])
     | succ k2 =>
      have H := HA.out
      clear HA
      simp only [laws_jpFound.l0] at H
      by_cases c20 : x27_2 < (l1.length : Int)
      ·rw [if_pos c20] at H
       have c20b0 : decide (x27_2 < (l1.length : Int)) = true := decide_eq_true c20
       clear c20
       by_cases c21 : 0 ≤ x27_2
       ·rw [if_pos c21] at H
        have c21b0 : decide (0 ≤ x27_2) = true := decide_eq_true c21
        clear c21
        by_cases c22 : x27_2 < (l1.length : Int)
        ·rw [if_pos c22] at H
         have c22b0 : decide (x27_2 < (l1.length : Int)) = true := decide_eq_true c22
         clear c22
         have HC23 := sd H
         clear H
         have j8 : 0 ≤ (x27_2 : Int) := of_decide_eq_true (by first | (with_reducible assumption) | assumption)
         have j9 : x27_2 < (l1.length : Int) := of_decide_eq_true (by first | (with_reducible assumption) | assumption)
         obtain ⟨ad420, e420, i4⟩ := Kd.at_string HR1.out x27_2 j8 j9
         cases e420
         replace i4 := (HB.out.cell (World.block_lt_of_cell? w _ i4)).trans i4
         replace j8 := eq_true j8
         replace j9 := eq_true j9
         go_upto_region 7 with (fail)
         go_cut [37] (fun v37 wc => ∃ (kq : Nat) (x37_22 : Bool), v37 = .bool x37_22 ∧ Aside0 (laws_jpFound.j2 kq a0 (rdOf ByteArray.empty l1 x27_2) l1 (l1.length : Int) x27_2 x37_22 b0 b2 b3 b4 b5 = some (r1, r2, r3, r4, r5, r6)) ∧ Aside0 (kq ≤ k2) ∧ Aside0 (Kd.V k64 64 wc w.heap.size (fun k_ => (w.heap.size ≤ k_) ∧ k_ ≠ a3 ∧ k_ ≠ a1) e7 b4) ∧ Aside0 (Kd.V k31 31 wc w.heap.size (fun k_ => (w.heap.size ≤ k_) ∧ k_ ≠ a3 ∧ k_ ≠ a1) e8 b5) ∧ Aside0 (wc.heap[a3]? = some (.cells #[.int .i64 e3, .int .i64 e4, .int .i64 e5, (.slice none 0 0), (.slice none 0 0)] 31 (0, 0))) ∧ Aside0 (wc.heap[a1]? = some (.cells #[.int .i64 b0, .int .i64 b2, .int .i64 b3, e7, e8] 31 (0, 0))) ∧ Aside0 (Below w.heap.size w wc))
         case first =>
          have H := HC23.out
          clear HC23
          by_cases c24 : b0 = 6
          ·rw [if_pos c24] at H
           have c24b0 : (b0 == 6) = true := beq_iff_eq.mpr c24
           have c24b1 : (b0 != 6) = false := bne_eq_false_iff_eq.mpr c24
           clear c24
           (first | rw [c24b0] | (simp only [i64_w, i32_w]; rw [c24b0]) | skip)
           replace H := Option.bind_eq_some_iff.mp H
           obtain ⟨j1, l8, H⟩ := H
           try dsimp only at H
           have A25 := sd l8
           clear l8
           have H' := sd H
           clear H
           have hnb26 := c5.out
           have hnc26 := c4.out
           obtain ⟨z0, z1, z2, z3, z4, y0, y1, y2, y3, y4⟩ := blk5 b1.out
           go_wp2_with (first | (go_at_call 17; (with_reducible refine (laws_jpIndex.calls (rdOf ByteArray.empty l1 x27_2) j1 _ A25.out).mono ?_); rintro e w' ⟨rfl, ⟨nd, rfl⟩⟩))
           go_meet
           case rel => exact ⟨_, (j1), tF, H', ⟨by have := HJ3.out; have := HK2.out; first | omega | exact Nat.le_refl _⟩, ⟨uV a5.out⟩, ⟨uV a9.out⟩, ⟨tL⟩, ⟨tL⟩, ⟨tB⟩⟩
          ·rw [if_neg c24] at H
           have c24b0 : (b0 == 6) = false := beq_eq_false_iff_ne.mpr c24
           have c24b1 : (b0 != 6) = true := bne_iff_ne.mpr c24
           (first | rw [c24b0] | (simp only [i64_w, i32_w]; rw [c24b0]) | skip)
           have H' := sd H
           clear H
           have hnb28 := c5.out
           have hnc28 := c4.out
           obtain ⟨z0, z1, z2, z3, z4, y0, y1, y2, y3, y4⟩ := blk5 b1.out
           go_wp2
           go_meet
           case rel => exact ⟨_, (false), tF, H', ⟨by have := HJ3.out; have := HK2.out; first | omega | exact Nat.le_refl _⟩, ⟨uV a5.out⟩, ⟨uV a9.out⟩, ⟨tL⟩, ⟨tL⟩, ⟨tB⟩⟩
         case rest =>
          clear HC23
          obtain ⟨kq, x37_22, rfl, HA, HJ22, a5, a9, d0, b1, HB⟩ := hcut
          cases kq with
          | zero => exact absurd HA.out (by simp [laws_jpFound.j2])
          | succ kj22 =>
           have H := HA.out
           clear HA
           simp only [laws_jpFound.j2] at H
           by_cases c30 : x37_22 = true
           ·subst c30
            rw [if_pos rfl] at H
            simp only [Option.some.injEq, Prod.mk.injEq] at H
            obtain ⟨rfl, rfl, rfl, rfl, rfl, rfl⟩ := H
            have hnb31 := c4.out
            have hnc31 := c5.out
            exact tl10_0
           ·replace c30 := Bool.eq_false_iff.mpr c30
            subst c30
            rw [if_neg (show ¬ (false = true) by decide)] at H
            replace H := Option.bind_eq_some_iff.mp H
            obtain ⟨⟨l3, l4, l5, j3, j4, m5⟩, l9, H⟩ := H
            try dsimp only at H
            have A33 := sd l9
            clear l9
            by_cases c34 : m5 = true
            ·subst c34
             rw [if_pos rfl] at H
             have H' := sd H
             clear H
             have hnb35 := c5.out
             have hnc35 := c4.out
             obtain ⟨z0, z1, z2, z3, z4, y0, y1, y2, y3, y4⟩ := blk5 b1.out
             obtain ⟨Ao37, co37, eo37⟩ := Kd.V_slice a5.out
             subst eo37
             obtain ⟨Ao38, co38, eo38⟩ := Kd.V_slice a9.out
             subst eo38
             go_wp2_with (first | ((with_reducible refine gate_callee (f := 31) rfl ?_); refine goesL_ (some 43) rfl rfl Tryz.func31 (by kernel_rfl) rfl #[.string a0, .agg #[.int .i64 b0, .int .i64 b2, .int .i64 b3, .slice Ao37 b4.length co37, .slice Ao38 b5.length co38], .string (rdOf ByteArray.empty l1 x27_2)] rfl tM ?_; (with_reducible refine (spec_Step.calls kj22 a0 b0 b2 b3 _ _ b4 (fun k_ => ((w.heap.size ≤ k_) ∧ (k_ ≠ a3 ∧ k_ ≠ a1))) _ _ b5 (rdOf ByteArray.empty l1 x27_2) l3 l4 l5 j3 j4 true _ ?side1 ?side2 ?side3 A33.out).mono ?_); (case side1 => repeat (first | exact (Kd.V_reads' a5.out).2.2 | (with_reducible refine Kd.C_alloc ?_ _) | (with_reducible refine Kd.C_drewN ?_ _) | (with_reducible refine Kd.C_drew ?_))); (case side2 => exact (Kd.V_reads' a5.out).2.1); (case side3 => exact a9.out); rintro e w39 ⟨m6, m7, rfl, ho0, ho1, hb⟩; refine ⟨_, rfl, ?_⟩; have a5 := sd (Kd.V_below (uV a5.out) hb); have a9 := sd (Kd.V_below (uV a9.out) hb); have i5 := sd (Kd.V_lower (Kd.V_mono (ok' := fun k_ => (w.heap.size ≤ k_) ∧ k_ ≠ a3 ∧ k_ ≠ a1) ho0 (fun k_ hk_ => ⟨Or.elim hk_ (fun hs_ => hs_.1) (fun hn_ => (Nat.le_trans (below_size tB) hn_)), Or.elim hk_ (fun hs_ => hs_.2.1) (fun hn_ => (Kd.freshB (g := a3) tL k_ hn_)), Or.elim hk_ (fun hs_ => hs_.2.2) (fun hn_ => (Kd.freshB (g := a1) tL k_ hn_))⟩)) (below_size tB)); have i6 := sd (Kd.V_lower (Kd.V_mono (ok' := fun k_ => (w.heap.size ≤ k_) ∧ k_ ≠ a3 ∧ k_ ≠ a1) ho1 (fun k_ hk_ => ⟨Or.elim hk_ (fun hs_ => hs_.1) (fun hn_ => (Nat.le_trans (below_size tB) hn_)), Or.elim hk_ (fun hs_ => hs_.2.1) (fun hn_ => (Kd.freshB (g := a3) tL k_ hn_)), Or.elim hk_ (fun hs_ => hs_.2.2) (fun hn_ => (Kd.freshB (g := a1) tL k_ hn_))⟩)) (below_size tB)); have d0 := sd (blk_below (g := a3) tL hb); have b1 := sd (blk_below (g := a1) tL hb); have HB := sd (below_step tB hb); clear hb ho0 ho1; obtain ⟨z0, z1, z2, z3, z4, y0, y1, y2, y3, y4⟩ := blk5 b1.out; obtain ⟨Ao41, co41, eo41⟩ := Kd.V_slice i5.out; subst eo41; obtain ⟨Ao42, co42, eo42⟩ := Kd.V_slice i6.out; subst eo42))
             go_roundg kj22
             case measure => have := HJ3.out; have := HK2.out; have := HJ22.out; omega
             case rel => exact ⟨(wrap64 (x27_2 + 1)), (e3), (e4), (e5), (l3), (l4), (l5), (j3), (j4), (.slice Ao41 j3.length co41), (.slice Ao42 j4.length co42), tF, H', ⟨by have := HJ3.out; have := HK2.out; have := HJ22.out; omega⟩, ⟨Kd.V_mono (uV (Kd.V_mono i5.out (fun k_ hk => (⟨hk, hk.2.2⟩ : _ ∧ k_ ≠ a1)))) (fun _ hk => ⟨hk.1.1, ⟨hk.1.2.1, hk.1.2.2⟩⟩)⟩, ⟨Kd.V_mono (uV (Kd.V_mono i6.out (fun k_ hk => (⟨hk, hk.2.2⟩ : _ ∧ k_ ≠ a1)))) (fun _ hk => ⟨hk.1.1, ⟨hk.1.2.1, hk.1.2.2⟩⟩)⟩, ⟨tC⟩, ⟨tC⟩, ⟨tB⟩⟩
            ·replace c34 := Bool.eq_false_iff.mpr c34
             subst c34
             rw [if_neg (show ¬ (false = true) by decide)] at H
             simp only [Option.some.injEq, Prod.mk.injEq] at H
             obtain ⟨rfl, rfl, rfl, rfl, rfl, rfl⟩ := H
             have hnb43 := c5.out
             have hnc43 := c4.out
             obtain ⟨z0, z1, z2, z3, z4, y0, y1, y2, y3, y4⟩ := blk5 b1.out
             obtain ⟨Ao45, co45, eo45⟩ := Kd.V_slice a5.out
             subst eo45
             obtain ⟨Ao46, co46, eo46⟩ := Kd.V_slice a9.out
             subst eo46
             go_wp2_with (first | ((with_reducible refine gate_callee (f := 31) rfl ?_); refine goesL_ (some 43) rfl rfl Tryz.func31 (by kernel_rfl) rfl #[.string a0, .agg #[.int .i64 b0, .int .i64 b2, .int .i64 b3, .slice Ao45 b4.length co45, .slice Ao46 b5.length co46], .string (rdOf ByteArray.empty l1 x27_2)] rfl tM ?_; (with_reducible refine (spec_Step.calls kj22 a0 b0 b2 b3 _ _ b4 (fun k_ => ((w.heap.size ≤ k_) ∧ (k_ ≠ a3 ∧ k_ ≠ a1))) _ _ b5 (rdOf ByteArray.empty l1 x27_2) l3 l4 l5 j3 j4 false _ ?side1 ?side2 ?side3 A33.out).mono ?_); (case side1 => repeat (first | exact (Kd.V_reads' a5.out).2.2 | (with_reducible refine Kd.C_alloc ?_ _) | (with_reducible refine Kd.C_drewN ?_ _) | (with_reducible refine Kd.C_drew ?_))); (case side2 => exact (Kd.V_reads' a5.out).2.1); (case side3 => exact a9.out); rintro e w47 ⟨m6, m7, rfl, ho0, ho1, hb⟩; refine ⟨_, rfl, ?_⟩; have a5 := sd (Kd.V_below (uV a5.out) hb); have a9 := sd (Kd.V_below (uV a9.out) hb); have i5 := sd (Kd.V_lower (Kd.V_mono (ok' := fun k_ => (w.heap.size ≤ k_) ∧ k_ ≠ a3 ∧ k_ ≠ a1) ho0 (fun k_ hk_ => ⟨Or.elim hk_ (fun hs_ => hs_.1) (fun hn_ => (Nat.le_trans (below_size tB) hn_)), Or.elim hk_ (fun hs_ => hs_.2.1) (fun hn_ => (Kd.freshB (g := a3) tL k_ hn_)), Or.elim hk_ (fun hs_ => hs_.2.2) (fun hn_ => (Kd.freshB (g := a1) tL k_ hn_))⟩)) (below_size tB)); have i6 := sd (Kd.V_lower (Kd.V_mono (ok' := fun k_ => (w.heap.size ≤ k_) ∧ k_ ≠ a3 ∧ k_ ≠ a1) ho1 (fun k_ hk_ => ⟨Or.elim hk_ (fun hs_ => hs_.1) (fun hn_ => (Nat.le_trans (below_size tB) hn_)), Or.elim hk_ (fun hs_ => hs_.2.1) (fun hn_ => (Kd.freshB (g := a3) tL k_ hn_)), Or.elim hk_ (fun hs_ => hs_.2.2) (fun hn_ => (Kd.freshB (g := a1) tL k_ hn_))⟩)) (below_size tB)); have d0 := sd (blk_below (g := a3) tL hb); have b1 := sd (blk_below (g := a1) tL hb); have HB := sd (below_step tB hb); clear hb ho0 ho1; obtain ⟨z0, z1, z2, z3, z4, y0, y1, y2, y3, y4⟩ := blk5 b1.out; obtain ⟨Ao49, co49, eo49⟩ := Kd.V_slice i5.out; subst eo49; obtain ⟨Ao50, co50, eo50⟩ := Kd.V_slice i6.out; subst eo50; obtain ⟨z0, z1, z2, z3, z4, y0, y1, y2, y3, y4⟩ := blk5 d0.out))
             refine bodyPost_ret (results_ct rfl _ _ a3 31 #[.int .i64 0, .int .i64 0, .int .i64 0, .slice none 0 0, .slice none 0 0] (0, 0) _ rfl tC Tryz.underlying31 rfl (by kernel_rfl)) rfl ?_
             exact ⟨_, _, tE, (Kd.V_nil _ _ _ _ _), (Kd.V_nil _ _ _ _ _), tB⟩
        ·rw [if_neg c22] at H
         exact absurd H (by simp)
       ·rw [if_neg c21] at H
        exact absurd H (by simp)
      ·rw [if_neg c20] at H
       have c20b0 : decide (x27_2 < (l1.length : Int)) = false := decide_eq_false c20
       clear c20
       simp only [Option.some.injEq, Prod.mk.injEq] at H
       obtain ⟨rfl, rfl, rfl, rfl, rfl, rfl⟩ := H
       have hnb52 := c5.out
       have hnc52 := c4.out
       obtain ⟨z0, z1, z2, z3, z4, y0, y1, y2, y3, y4⟩ := blk5 b1.out
       obtain ⟨z0, z1, z2, z3, z4, y0, y1, y2, y3, y4⟩ := blk5 d0.out
       obtain ⟨Ao55, co55, eo55⟩ := Kd.V_slice a5.out
       subst eo55
       obtain ⟨Ao56, co56, eo56⟩ := Kd.V_slice a9.out
       subst eo56
       go_wp2
       refine bodyPost_ret (results_ct rfl _ _ a3 31 #[.int .i64 b0, .int .i64 b2, .int .i64 b3, .slice Ao55 b4.length co55, .slice Ao56 b5.length co56] (0, 0) _ rfl tC Tryz.underlying31 rfl (by kernel_rfl)) rfl ?_
       exact ⟨_, _, tE, Kd.V_mono (uV (Kd.V_mono a5.out (fun k_ hk => (⟨hk, hk.2.1⟩ : _ ∧ k_ ≠ a3)))) (fun _ hk => hk.1.1), Kd.V_mono (uV (Kd.V_mono a9.out (fun k_ hk => (⟨hk, hk.2.1⟩ : _ ∧ k_ ≠ a3)))) (fun _ hk => hk.1.1), tB⟩
end Go.Proofs.YthgpfljhmhkaiacGreatDoor.PFnJrTypedMisses
