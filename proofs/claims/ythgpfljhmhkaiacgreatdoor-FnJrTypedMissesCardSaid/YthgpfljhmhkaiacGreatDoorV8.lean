/- Walks of the functions that the law calls, printed by program and rewritten. -/
import Derived.Test.YthgpfljhmhkaiacGreatDoorV0
import Derived.Test.YthgpfljhmhkaiacGreatDoorV6
import Derived.Test.YthgpfljhmhkaiacGreatDoorV7
set_option linter.all false
namespace Go.Proofs.YthgpfljhmhkaiacGreatDoor.PFnJrTypedMisses
open Go.RowKit Go.Proofs.YthgpfljhmhkaiacGreatDoorW.PrintWords Go.Proofs.YthgpfljhmhkaiacGreatDoorW.PrintLast Go.Proofs.YthgpfljhmhkaiacGreatDoorW.PrintMore
attribute [local go_sem] max2_int min2_int max_two min_two max_three min_three max_four min_four
/-! ### spec_Step: function 31 -/
def spec_Step.j0 : Nat → Int → Int → Bool → Int → Int → Int → List (S64) → List (S31) → Option (Int × Int × Int × (List (S64)) × (List (S31)) × Bool)
 | 0, _, _, _, _, _, _, _, _ => none
 | k + 1, x8, x9, x33, d7, d8, d9, e0, a7 => if x33 = true then (if x9 < 0 then (some (0, 0, 0, ([] : List (S64)), ([] : List (S31)), false)) else (if 0 ≤ x9 then (if x9 < (a7.length : Int) then (some ((rd_T31 a7 x9).f0, (rd_T31 a7 x9).f1, (rd_T31 a7 x9).f2, (rd_T31 a7 x9).f3, (rd_T31 a7 x9).f4, true)) else (none)) else (none))) else (if x8 < 0 then (some (0, 0, 0, ([] : List (S64)), ([] : List (S31)), false)) else (if 0 ≤ x8 then (if x8 < (a7.length : Int) then (some ((rd_T31 a7 x8).f0, (rd_T31 a7 x8).f1, (rd_T31 a7 x8).f2, (rd_T31 a7 x8).f3, (rd_T31 a7 x8).f4, true)) else (none)) else (none)))
def spec_Step.f (k : Nat) (a0 : ByteArray) (a1_0 : Int) (a1_1 : Int) (a1_2 : Int) (l1_3 : List (S64)) (l1_4 : List (S31)) (a2 : ByteArray) : Option (Int × Int × Int × (List (S64)) × (List (S31)) × Bool) := if a1_0 = 6 then ((spec_Named.f k a0 a1_0 a1_1 a1_2 l1_3 l1_4 a2).bind fun a1 => (if a1 < 0 then (some (0, 0, 0, ([] : List (S64)), ([] : List (S31)), false)) else (if 0 ≤ a1 then (if a1 < (l1_4.length : Int) then (some ((rd_T31 l1_4 a1).f0, (rd_T31 l1_4 a1).f1, (rd_T31 l1_4 a1).f2, (rd_T31 l1_4 a1).f3, (rd_T31 l1_4 a1).f4, true)) else (none)) else (none)))) else (if a1_0 = 5 then ((spec_Bracket.f k a2).bind fun b1 => (if b1.2 = true then (spec_Step.j0 k (-1) b1.1 (decide (b1.1 < (l1_4.length : Int))) a1_0 a1_1 a1_2 l1_3 l1_4) else (spec_Step.j0 k (-1) b1.1 false a1_0 a1_1 a1_2 l1_3 l1_4))) else (some (0, 0, 0, ([] : List (S64)), ([] : List (S31)), false)))
theorem tl8_0 {P : Prop} (h : P := by
 obtain ⟨z0, z1, z2, z3, z4, y0, y1, y2, y3, y4⟩ := blk5 b0.out
 go_wp2
 refine bodyPost_ret (results_ct rfl _ _ a6 31 #[.int .i64 0, .int .i64 0, .int .i64 0, .slice none 0 0, .slice none 0 0] (0, 0) _ rfl tC Tryz.underlying31 rfl (by kernel_rfl)) rfl ?_
 exact ⟨_, _, tE, (Kd.V_nil _ _ _ _ _), (Kd.V_nil _ _ _ _ _), tB⟩) : P := h
set_option maxHeartbeats 8000000 in
set_option maxRecDepth 100000 in
theorem spec_Step.calls (k : Nat) (a0 : ByteArray) (a1_0 : Int) (a1_1 : Int) (a1_2 : Int) (A1_3 : Option Addr) (c1_3 : Nat) (l1_3 : List (S64)) (P1_4_ : Nat → Prop) (A1_4 : Option Addr) (c1_4 : Nat) (l1_4 : List (S31)) (a2 : ByteArray) (r1 : Int) (r2 : Int) (r3 : Int) (r4 : List (S64)) (r5 : List (S31)) (r6 : Bool) (w : World) (hr1_3 : Kd.C k64 w A1_3 l1_3.length l1_3) (hc1_3 : l1_3.length ≤ c1_3) (hs1_4 : Kd.V k31 31 w w.heap.size (fun k_ => P1_4_ k_) (.slice A1_4 l1_4.length c1_4) l1_4) (h : spec_Step.f k a0 a1_0 a1_1 a1_2 l1_3 l1_4 a2 = some (r1, r2, r3, r4, r5, r6)) :
  Calls Tryz.prog 31 #[.string a0, .agg #[.int .i64 a1_0, .int .i64 a1_1, .int .i64 a1_2, .slice A1_3 l1_3.length c1_3, .slice A1_4 l1_4.length c1_4], .string a2] w fun e w' => ∃ v3_ v4_ : Value, e = .returned (.tuple #[.agg #[.int .i64 r1, .int .i64 r2, .int .i64 r3, v3_, v4_], .bool r6]) ∧ Kd.V k64 64 w' w.heap.size (fun k_ => (P1_4_ k_ ∨ w.heap.size ≤ k_)) v3_ r4 ∧ Kd.V k31 31 w' w.heap.size (fun k_ => (P1_4_ k_ ∨ w.heap.size ≤ k_)) v4_ r5 ∧ Below w.heap.size w w' := by
 have hu31 := Tryz.underlying31
 have HR1_3 := sd hr1_3
 have HC1_3 := sd hc1_3
 clear hr1_3 hc1_3
 have HO1_4 := sd (show Kd.V k31 31 w w.heap.size (fun k_ => (P1_4_ k_ ∨ w.heap.size ≤ k_)) (.slice A1_4 l1_4.length c1_4) l1_4 from Kd.V_mono hs1_4 (fun k_ hk => .inl hk))
 have HB := sd (Below.refl w.heap.size w)
 have H : (if a1_0 = 6 then ((spec_Named.f k a0 a1_0 a1_1 a1_2 l1_3 l1_4 a2).bind fun a1 => (if a1 < 0 then (some (0, 0, 0, ([] : List (S64)), ([] : List (S31)), false)) else (if 0 ≤ a1 then (if a1 < (l1_4.length : Int) then (some ((rd_T31 l1_4 a1).f0, (rd_T31 l1_4 a1).f1, (rd_T31 l1_4 a1).f2, (rd_T31 l1_4 a1).f3, (rd_T31 l1_4 a1).f4, true)) else (none)) else (none)))) else (if a1_0 = 5 then ((spec_Bracket.f k a2).bind fun b1 => (if b1.2 = true then (spec_Step.j0 k (-1) b1.1 (decide (b1.1 < (l1_4.length : Int))) a1_0 a1_1 a1_2 l1_3 l1_4) else (spec_Step.j0 k (-1) b1.1 false a1_0 a1_1 a1_2 l1_3 l1_4))) else (some (0, 0, 0, ([] : List (S64)), ([] : List (S31)), false)))) = some (r1, r2, r3, r4, r5, r6) := h
 clear h
 by_cases c4 : a1_0 = 6
 ·rw [if_pos c4] at H
  have c4b0 : (a1_0 == 6) = true := beq_iff_eq.mpr c4
  have c4b1 : (a1_0 != 6) = false := bne_eq_false_iff_eq.mpr c4
  clear c4
  replace H := Option.bind_eq_some_iff.mp H
  obtain ⟨a1, A50, H⟩ := H
  try dsimp only at H
  have A5 := sd A50
  clear A50
  by_cases c6 : a1 < 0
  ·rw [if_pos c6] at H
   have c6b0 : decide (a1 < 0) = true := decide_eq_true c6
   clear c6
   simp only [Option.some.injEq, Prod.mk.injEq] at H
   obtain ⟨rfl, rfl, rfl, rfl, rfl, rfl⟩ := H
   go_enter Tryz.func31, Tryz.ntmps31
   go_wp2_with (first | ((with_reducible refine gate_dst (N := 4) rfl ?_); (try (refine gate_guard (by rfl) ?_; dsimp only)); refine box_event (by rfl) (N := 4) (by rfl) (cs := #[.int .i64 a1_0, .int .i64 a1_1, .int .i64 a1_2, .slice A1_3 l1_3.length c1_3, .slice A1_4 l1_4.length c1_4]) (t := 31) tS ?_; intro a3 hg w7 hbox hb; have HO1_4 := sd (Kd.V_below (Kd.V_elderB (uV HO1_4.out) a3 (Nat.le_of_eq hg.symm)) hb); have a8 := sd (hbox); have b3 := sd (leB hg tB); have b4 := sd (leB hg tB); have HB := sd (below_step tB hb); clear hb hbox hg) | ((with_reducible refine gate_dst (N := 6) rfl ?_); (try (refine gate_guard (by rfl) ?_; dsimp only)); refine box_event (by rfl) (N := 6) (by rfl) (cs := #[.int .i64 0, .int .i64 0, .int .i64 0, .slice none 0 0, .slice none 0 0]) (t := 31) tS ?_; intro a6 hg w8 hbox hb; have HO1_4 := sd (Kd.V_below (Kd.V_elderB (uV HO1_4.out) a6 (Nat.le_of_eq hg.symm)) hb); have a8 := sd (blk_below (g := a3) tL hb); have b0 := sd (hbox); have b5 := sd (leB hg tB); have b6 := sd (leB hg tB); have HB := sd (below_step tB hb); have a4 := sd (neL hg (blk_lt (g := a3) tL)); have a5 := sd (neR hg (blk_lt (g := a3) tL)); clear hb hbox hg; have hnb9 := a4.out; have hnc9 := a5.out; obtain ⟨z0, z1, z2, z3, z4, y0, y1, y2, y3, y4⟩ := blk5 a8.out) | ((with_reducible refine gate_callee (f := 52) rfl ?_); refine goesL_ (some 18) rfl rfl Tryz.func52 (by kernel_rfl) rfl #[.string a0, .agg #[.int .i64 a1_0, .int .i64 a1_1, .int .i64 a1_2, .slice A1_3 l1_3.length c1_3, .slice A1_4 l1_4.length c1_4], .string a2] rfl tM ?_; (with_reducible refine (spec_Named.calls k a0 a1_0 a1_1 a1_2 _ _ l1_3 _ _ l1_4 a2 a1 _ ?side1 ?side2 ?side3 ?side4 A5.out).mono ?_); (case side1 => repeat (first | exact (Kd.C_below HR1_3.out HB.out) | (with_reducible refine Kd.C_alloc ?_ _) | (with_reducible refine Kd.C_drewN ?_ _) | (with_reducible refine Kd.C_drew ?_))); (case side2 => exact HC1_3.out); (case side3 => repeat (first | exact (Kd.V_reads' HO1_4.out).2.2 | (with_reducible refine Kd.C_alloc ?_ _) | (with_reducible refine Kd.C_drewN ?_ _) | (with_reducible refine Kd.C_drew ?_))); (case side4 => exact (Kd.V_reads' HO1_4.out).2.1); rintro e w11 ⟨rfl, hb⟩; refine ⟨_, rfl, ?_⟩; have HO1_4 := sd (Kd.V_below (uV HO1_4.out) hb); have a8 := sd (blk_below (g := a3) tL hb); have b0 := sd (blk_below (g := a6) tL hb); have HB := sd (below_step tB hb); clear hb; obtain ⟨z0, z1, z2, z3, z4, y0, y1, y2, y3, y4⟩ := blk5 b0.out))
   refine bodyPost_ret (results_ct rfl _ _ a6 31 #[.int .i64 0, .int .i64 0, .int .i64 0, .slice none 0 0, .slice none 0 0] (0, 0) _ rfl tC Tryz.underlying31 rfl (by kernel_rfl)) rfl ?_
   exact ⟨_, _, tE, (Kd.V_nil _ _ _ _ _), (Kd.V_nil _ _ _ _ _), tB⟩
  ·rw [if_neg c6] at H
   have c6b0 : decide (a1 < 0) = false := decide_eq_false c6
   clear c6
   by_cases c13 : 0 ≤ a1
   ·rw [if_pos c13] at H
    have c13b0 : decide (0 ≤ a1) = true := decide_eq_true c13
    clear c13
    by_cases c14 : a1 < (l1_4.length : Int)
    ·rw [if_pos c14] at H
     have c14b0 : decide (a1 < (l1_4.length : Int)) = true := decide_eq_true c14
     clear c14
     simp only [Option.some.injEq, Prod.mk.injEq] at H
     obtain ⟨rfl, rfl, rfl, rfl, rfl, rfl⟩ := H
     go_enter Tryz.func31, Tryz.ntmps31
     go_wp2_with (first | ((with_reducible refine gate_dst (N := 4) rfl ?_); (try (refine gate_guard (by rfl) ?_; dsimp only)); refine box_event (by rfl) (N := 4) (by rfl) (cs := #[.int .i64 a1_0, .int .i64 a1_1, .int .i64 a1_2, .slice A1_3 l1_3.length c1_3, .slice A1_4 l1_4.length c1_4]) (t := 31) tS ?_; intro a3 hg w15 hbox hb; have HO1_4 := sd (Kd.V_below (Kd.V_elderB (uV HO1_4.out) a3 (Nat.le_of_eq hg.symm)) hb); have a8 := sd (hbox); have b3 := sd (leB hg tB); have b4 := sd (leB hg tB); have HB := sd (below_step tB hb); clear hb hbox hg) | ((with_reducible refine gate_dst (N := 6) rfl ?_); (try (refine gate_guard (by rfl) ?_; dsimp only)); refine box_event (by rfl) (N := 6) (by rfl) (cs := #[.int .i64 0, .int .i64 0, .int .i64 0, .slice none 0 0, .slice none 0 0]) (t := 31) tS ?_; intro a6 hg w16 hbox hb; have HO1_4 := sd (Kd.V_below (Kd.V_elderB (uV HO1_4.out) a6 (Nat.le_of_eq hg.symm)) hb); have a8 := sd (blk_below (g := a3) tL hb); have b0 := sd (hbox); have b5 := sd (leB hg tB); have b6 := sd (leB hg tB); have HB := sd (below_step tB hb); have a4 := sd (neL hg (blk_lt (g := a3) tL)); have a5 := sd (neR hg (blk_lt (g := a3) tL)); clear hb hbox hg; have hnb17 := a4.out; have hnc17 := a5.out; obtain ⟨z0, z1, z2, z3, z4, y0, y1, y2, y3, y4⟩ := blk5 a8.out) | ((with_reducible refine gate_callee (f := 52) rfl ?_); refine goesL_ (some 18) rfl rfl Tryz.func52 (by kernel_rfl) rfl #[.string a0, .agg #[.int .i64 a1_0, .int .i64 a1_1, .int .i64 a1_2, .slice A1_3 l1_3.length c1_3, .slice A1_4 l1_4.length c1_4], .string a2] rfl tM ?_; (with_reducible refine (spec_Named.calls k a0 a1_0 a1_1 a1_2 _ _ l1_3 _ _ l1_4 a2 a1 _ ?side1 ?side2 ?side3 ?side4 A5.out).mono ?_); (case side1 => repeat (first | exact (Kd.C_below HR1_3.out HB.out) | (with_reducible refine Kd.C_alloc ?_ _) | (with_reducible refine Kd.C_drewN ?_ _) | (with_reducible refine Kd.C_drew ?_))); (case side2 => exact HC1_3.out); (case side3 => repeat (first | exact (Kd.V_reads' HO1_4.out).2.2 | (with_reducible refine Kd.C_alloc ?_ _) | (with_reducible refine Kd.C_drewN ?_ _) | (with_reducible refine Kd.C_drew ?_))); (case side4 => exact (Kd.V_reads' HO1_4.out).2.1); rintro e w19 ⟨rfl, hb⟩; refine ⟨_, rfl, ?_⟩; have HO1_4 := sd (Kd.V_below (uV HO1_4.out) hb); have a8 := sd (blk_below (g := a3) tL hb); have b0 := sd (blk_below (g := a6) tL hb); have HB := sd (below_step tB hb); clear hb; obtain ⟨z0, z1, z2, z3, z4, y0, y1, y2, y3, y4⟩ := blk5 a8.out; have b7 : 0 ≤ (a1 : Int) := of_decide_eq_true (by first | (with_reducible assumption) | assumption); have b8 : a1 < (l1_4.length : Int) := of_decide_eq_true (by first | (with_reducible assumption) | assumption); obtain ⟨ad361, c7, c8, c9, d0, e361, e1, e2, e3, c1, c2, hl361_3, hi361_3, hl361_4, hi361_4⟩ := at_T31 (Kd.V_reads' HO1_4.out).2.2 a1 b7 b8; cases e361; obtain ⟨ce361, hce361, hMe361, hcc361⟩ := Kd.V_get HO1_4.out z31 a1 b7 (by first | exact b8 | exact of_decide_eq_true (by first | (with_reducible assumption) | assumption) | (have e_ := (Kd.V_reads' HO1_4.out).1; omega)); obtain ⟨ua361_3, uc361_3, ua361_4, uc361_4, rfl, ul361_3, ge361_3, ul361_4, ge361_4⟩ := k31_openF hMe361; have hv361_3 := hcc361 3 _ rfl; rw [add_field _ _ 3 (by omega)] at hv361_3; replace hv361_3 := Option.some.inj (hv361_3.symm.trans c1); injection hv361_3 with hva_ hvn_ hvc_; rw [hva_] at ge361_3; rw [hvc_] at ul361_3; have HL361_3 := sd (show Kd.V k64 64 _ w.heap.size _ _ ((rd_T31 l1_4 a1).f3) from Kd.V_mk ul361_3 ge361_3); clear hva_ hvn_ hvc_ ge361_3 ul361_3; have hv361_4 := hcc361 4 _ rfl; rw [add_field _ _ 4 (by omega)] at hv361_4; replace hv361_4 := Option.some.inj (hv361_4.symm.trans c2); injection hv361_4 with hva_ hvn_ hvc_; rw [hva_] at ge361_4; rw [hvc_] at ul361_4; have HL361_4 := sd (show Kd.V k31 31 _ w.heap.size _ _ ((rd_T31 l1_4 a1).f4) from Kd.V_mk ul361_4 ge361_4); clear hva_ hvn_ hvc_ ge361_4 ul361_4; clear hcc361 hce361; have e4 := sd hi361_3; have e5 := sd hl361_3; clear hi361_3 hl361_3; have e6 := sd hi361_4; have e7 := sd hl361_4; clear hi361_4 hl361_4; replace b7 := eq_true b7; replace b8 := eq_true b8; obtain ⟨z0, z1, z2, z3, z4, y0, y1, y2, y3, y4⟩ := blk5 b0.out))
     refine bodyPost_ret (results_ct rfl _ _ a6 31 #[.int .i64 ((rd_T31 l1_4 a1).f0), .int .i64 ((rd_T31 l1_4 a1).f1), .int .i64 ((rd_T31 l1_4 a1).f2), .slice c7 ((rd_T31 l1_4 a1).f3).length c8, .slice c9 ((rd_T31 l1_4 a1).f4).length d0] (0, 0) _ rfl tC Tryz.underlying31 rfl (by kernel_rfl)) rfl ?_
     exact ⟨_, _, tE, Kd.V_mono (uV (Kd.V_mono HL361_3.out (fun k_ hk => (⟨hk, hk.2⟩ : _ ∧ k_ ≠ a6)))) (fun _ hk => hk.1.1.1), Kd.V_mono (uV (Kd.V_mono HL361_4.out (fun k_ hk => (⟨hk, hk.2⟩ : _ ∧ k_ ≠ a6)))) (fun _ hk => hk.1.1.1), tB⟩
    ·rw [if_neg c14] at H
     exact absurd H (by simp)
   ·rw [if_neg c13] at H
    exact absurd H (by simp)
 ·rw [if_neg c4] at H
  have c4b0 : (a1_0 == 6) = false := beq_eq_false_iff_ne.mpr c4
  have c4b1 : (a1_0 != 6) = true := bne_iff_ne.mpr c4
  by_cases c22 : a1_0 = 5
  ·rw [if_pos c22] at H
   have c22b0 : (a1_0 == 5) = true := beq_iff_eq.mpr c22
   have c22b1 : (a1_0 != 5) = false := bne_eq_false_iff_eq.mpr c22
   clear c22
   replace H := Option.bind_eq_some_iff.mp H
   obtain ⟨⟨a9, d1⟩, d2, H⟩ := H
   try dsimp only at H
   have A23 := sd d2
   clear d2
   have HC24 := sd H
   clear H
   go_enter Tryz.func31, Tryz.ntmps31
   go_upto_region 7 with (first | ((with_reducible refine gate_dst (N := 4) rfl ?_); (try (refine gate_guard (by rfl) ?_; dsimp only)); refine box_event (by rfl) (N := 4) (by rfl) (cs := #[.int .i64 a1_0, .int .i64 a1_1, .int .i64 a1_2, .slice A1_3 l1_3.length c1_3, .slice A1_4 l1_4.length c1_4]) (t := 31) tS ?_; intro a3 hg w25 hbox hb; have HO1_4 := sd (Kd.V_below (Kd.V_elderB (uV HO1_4.out) a3 (Nat.le_of_eq hg.symm)) hb); have a8 := sd (hbox); have b3 := sd (leB hg tB); have b4 := sd (leB hg tB); have HB := sd (below_step tB hb); clear hb hbox hg) | ((with_reducible refine gate_dst (N := 6) rfl ?_); (try (refine gate_guard (by rfl) ?_; dsimp only)); refine box_event (by rfl) (N := 6) (by rfl) (cs := #[.int .i64 0, .int .i64 0, .int .i64 0, .slice none 0 0, .slice none 0 0]) (t := 31) tS ?_; intro a6 hg w26 hbox hb; have HO1_4 := sd (Kd.V_below (Kd.V_elderB (uV HO1_4.out) a6 (Nat.le_of_eq hg.symm)) hb); have a8 := sd (blk_below (g := a3) tL hb); have b0 := sd (hbox); have b5 := sd (leB hg tB); have b6 := sd (leB hg tB); have HB := sd (below_step tB hb); have a4 := sd (neL hg (blk_lt (g := a3) tL)); have a5 := sd (neR hg (blk_lt (g := a3) tL)); clear hb hbox hg; have hnb27 := a4.out; have hnc27 := a5.out; obtain ⟨z0, z1, z2, z3, z4, y0, y1, y2, y3, y4⟩ := blk5 a8.out) | ((with_reducible refine gate_callee (f := 18) rfl ?_); refine goesL_ (some 23) rfl rfl Tryz.func18 (by kernel_rfl) rfl #[.string a2] rfl tM ?_; (with_reducible refine (spec_Bracket.calls k a2 a9 d1 _ A23.out).mono ?_); rintro e w' ⟨rfl, ⟨nd, rfl⟩⟩; refine ⟨_, rfl, ?_⟩))
   (try simp only [Act.put, List.setIfInBounds_toArray, List.set_cons_zero, List.set_cons_succ])
   go_cut [33] (fun v33 wc => ∃ (kq : Nat) (x33_23 : Bool), v33 = .bool x33_23 ∧ Aside0 (spec_Step.j0 kq (-1) a9 x33_23 a1_0 a1_1 a1_2 l1_3 l1_4 = some (r1, r2, r3, r4, r5, r6)) ∧ Aside0 (kq ≤ k) ∧ Aside0 (Kd.V k31 31 wc w.heap.size (fun k_ => (P1_4_ k_ ∨ w.heap.size ≤ k_) ∧ k_ ≠ a3 ∧ k_ ≠ a6) (.slice A1_4 l1_4.length c1_4) l1_4) ∧ Aside0 (wc.heap[a3]? = some (.cells #[.int .i64 a1_0, .int .i64 a1_1, .int .i64 a1_2, (.slice A1_3 l1_3.length c1_3), (.slice A1_4 l1_4.length c1_4)] 31 (0, 0))) ∧ Aside0 (wc.heap[a6]? = some (.cells #[.int .i64 0, .int .i64 0, .int .i64 0, (.slice none 0 0), (.slice none 0 0)] 31 (0, 0))) ∧ Aside0 (Below w.heap.size w wc))
   case first =>
    have H := HC24.out
    clear HC24
    by_cases c29 : d1 = true
    ·subst c29
     rw [if_pos rfl] at H
     have H' := sd H
     clear H
     have hnb30 := a4.out
     have hnc30 := a5.out
     obtain ⟨z0, z1, z2, z3, z4, y0, y1, y2, y3, y4⟩ := blk5 a8.out
     go_wp2
     go_meet
     case rel => exact ⟨_, (decide (a9 < (l1_4.length : Int))), tF, H', ⟨by first | omega | exact Nat.le_refl _⟩, ⟨Kd.V_mono (uV HO1_4.out) (fun _ hk => ⟨hk.1.1, ⟨hk.1.2, hk.2⟩⟩)⟩, ⟨tL⟩, ⟨tL⟩, ⟨tB⟩⟩
    ·replace c29 := Bool.eq_false_iff.mpr c29
     subst c29
     rw [if_neg (show ¬ (false = true) by decide)] at H
     have H' := sd H
     clear H
     go_wp2
     go_meet
     case rel => exact ⟨_, (false), tF, H', ⟨by first | omega | exact Nat.le_refl _⟩, ⟨Kd.V_mono (uV HO1_4.out) (fun _ hk => ⟨hk.1.1, ⟨hk.1.2, hk.2⟩⟩)⟩, ⟨tL⟩, ⟨tL⟩, ⟨tB⟩⟩
   case rest =>
    clear HC24
    obtain ⟨kq, x33_23, rfl, HA, HJ23, b2, a8, b0, HB⟩ := hcut
    cases kq with
    | zero => exact absurd HA.out (by simp [spec_Step.j0])
    | succ kj23 =>
     have H := HA.out
     clear HA
     simp only [spec_Step.j0] at H
     by_cases c32 : x33_23 = true
     ·subst c32
      rw [if_pos rfl] at H
      by_cases c33 : a9 < 0
      ·rw [if_pos c33] at H
       have c33b0 : decide (a9 < 0) = true := decide_eq_true c33
       clear c33
       simp only [Option.some.injEq, Prod.mk.injEq] at H
       obtain ⟨rfl, rfl, rfl, rfl, rfl, rfl⟩ := H
       have hnb34 := a5.out
       have hnc34 := a4.out
       exact tl8_0
      ·rw [if_neg c33] at H
       have c33b0 : decide (a9 < 0) = false := decide_eq_false c33
       clear c33
       by_cases c36 : 0 ≤ a9
       ·rw [if_pos c36] at H
        have c36b0 : decide (0 ≤ a9) = true := decide_eq_true c36
        clear c36
        by_cases c37 : a9 < (l1_4.length : Int)
        ·rw [if_pos c37] at H
         have c37b0 : decide (a9 < (l1_4.length : Int)) = true := decide_eq_true c37
         clear c37
         simp only [Option.some.injEq, Prod.mk.injEq] at H
         obtain ⟨rfl, rfl, rfl, rfl, rfl, rfl⟩ := H
         have hnb38 := a4.out
         have hnc38 := a5.out
         obtain ⟨z0, z1, z2, z3, z4, y0, y1, y2, y3, y4⟩ := blk5 a8.out
         have b9 : 0 ≤ (a9 : Int) := of_decide_eq_true (by first | (with_reducible assumption) | assumption)
         have c0 : a9 < (l1_4.length : Int) := of_decide_eq_true (by first | (with_reducible assumption) | assumption)
         obtain ⟨ad364, d3, d4, d5, d6, e364, e8, e9, f5, c3, c5, hl364_3, hi364_3, hl364_4, hi364_4⟩ := at_T31 (Kd.V_reads' b2.out).2.2 a9 b9 c0
         cases e364
         obtain ⟨ce364, hce364, hMe364, hcc364⟩ := Kd.V_get b2.out z31 a9 b9 (by first | exact c0 | exact of_decide_eq_true (by first | (with_reducible assumption) | assumption) | (have e_ := (Kd.V_reads' b2.out).1; omega))
         obtain ⟨ua364_3, uc364_3, ua364_4, uc364_4, rfl, ul364_3, ge364_3, ul364_4, ge364_4⟩ := k31_openF hMe364
         have hv364_3 := hcc364 3 _ rfl
         rw [add_field _ _ 3 (by omega)] at hv364_3
         replace hv364_3 := Option.some.inj (hv364_3.symm.trans c3)
         injection hv364_3 with hva_ hvn_ hvc_
         rw [hva_] at ge364_3
         rw [hvc_] at ul364_3
         have HL364_3 := sd (show Kd.V k64 64 _ w.heap.size _ _ ((rd_T31 l1_4 a9).f3) from Kd.V_mk ul364_3 ge364_3)
         clear hva_ hvn_ hvc_ ge364_3 ul364_3
         have hv364_4 := hcc364 4 _ rfl
         rw [add_field _ _ 4 (by omega)] at hv364_4
         replace hv364_4 := Option.some.inj (hv364_4.symm.trans c5)
         injection hv364_4 with hva_ hvn_ hvc_
         rw [hva_] at ge364_4
         rw [hvc_] at ul364_4
         have HL364_4 := sd (show Kd.V k31 31 _ w.heap.size _ _ ((rd_T31 l1_4 a9).f4) from Kd.V_mk ul364_4 ge364_4)
         clear hva_ hvn_ hvc_ ge364_4 ul364_4
         clear hcc364 hce364
         have f6 := sd hi364_3
         have f7 := sd hl364_3
         clear hi364_3 hl364_3
         have f8 := sd hi364_4
         have f9 := sd hl364_4
         clear hi364_4 hl364_4
         replace b9 := eq_true b9
         replace c0 := eq_true c0
         obtain ⟨z0, z1, z2, z3, z4, y0, y1, y2, y3, y4⟩ := blk5 b0.out
         go_wp2
         refine bodyPost_ret (results_ct rfl _ _ a6 31 #[.int .i64 ((rd_T31 l1_4 a9).f0), .int .i64 ((rd_T31 l1_4 a9).f1), .int .i64 ((rd_T31 l1_4 a9).f2), .slice d3 ((rd_T31 l1_4 a9).f3).length d4, .slice d5 ((rd_T31 l1_4 a9).f4).length d6] (0, 0) _ rfl tC Tryz.underlying31 rfl (by kernel_rfl)) rfl ?_
         exact ⟨_, _, tE, Kd.V_mono (uV (Kd.V_mono HL364_3.out (fun k_ hk => (⟨hk, hk.2.2⟩ : _ ∧ k_ ≠ a6)))) (fun _ hk => hk.1.1), Kd.V_mono (uV (Kd.V_mono HL364_4.out (fun k_ hk => (⟨hk, hk.2.2⟩ : _ ∧ k_ ≠ a6)))) (fun _ hk => hk.1.1), tB⟩
        ·rw [if_neg c37] at H
         exact absurd H (by simp)
       ·rw [if_neg c36] at H
        exact absurd H (by simp)
     ·replace c32 := Bool.eq_false_iff.mpr c32
      subst c32
      rw [if_neg (show ¬ (false = true) by decide)] at H
      by_cases c41 : (-1) < 0
      ·rw [if_pos c41] at H
       have c41b0 : decide ((-1) < 0) = true := decide_eq_true c41
       clear c41
       simp only [Option.some.injEq, Prod.mk.injEq] at H
       obtain ⟨rfl, rfl, rfl, rfl, rfl, rfl⟩ := H
       have hnb42 := a5.out
       have hnc42 := a4.out
       exact tl8_0
      ·exact absurd (by decide) c41
  ·rw [if_neg c22] at H
   have c22b0 : (a1_0 == 5) = false := beq_eq_false_iff_ne.mpr c22
   have c22b1 : (a1_0 != 5) = true := bne_iff_ne.mpr c22
   simp only [Option.some.injEq, Prod.mk.injEq] at H
   obtain ⟨rfl, rfl, rfl, rfl, rfl, rfl⟩ := H
   go_enter Tryz.func31, Tryz.ntmps31
   go_wp2_with (first | ((with_reducible refine gate_dst (N := 4) rfl ?_); (try (refine gate_guard (by rfl) ?_; dsimp only)); refine box_event (by rfl) (N := 4) (by rfl) (cs := #[.int .i64 a1_0, .int .i64 a1_1, .int .i64 a1_2, .slice A1_3 l1_3.length c1_3, .slice A1_4 l1_4.length c1_4]) (t := 31) tS ?_; intro a3 hg w49 hbox hb; have HO1_4 := sd (Kd.V_below (Kd.V_elderB (uV HO1_4.out) a3 (Nat.le_of_eq hg.symm)) hb); have a8 := sd (hbox); have b3 := sd (leB hg tB); have b4 := sd (leB hg tB); have HB := sd (below_step tB hb); clear hb hbox hg) | ((with_reducible refine gate_dst (N := 6) rfl ?_); (try (refine gate_guard (by rfl) ?_; dsimp only)); refine box_event (by rfl) (N := 6) (by rfl) (cs := #[.int .i64 0, .int .i64 0, .int .i64 0, .slice none 0 0, .slice none 0 0]) (t := 31) tS ?_; intro a6 hg w50 hbox hb; have HO1_4 := sd (Kd.V_below (Kd.V_elderB (uV HO1_4.out) a6 (Nat.le_of_eq hg.symm)) hb); have a8 := sd (blk_below (g := a3) tL hb); have b0 := sd (hbox); have b5 := sd (leB hg tB); have b6 := sd (leB hg tB); have HB := sd (below_step tB hb); have a4 := sd (neL hg (blk_lt (g := a3) tL)); have a5 := sd (neR hg (blk_lt (g := a3) tL)); clear hb hbox hg; have hnb51 := a4.out; have hnc51 := a5.out; obtain ⟨z0, z1, z2, z3, z4, y0, y1, y2, y3, y4⟩ := blk5 a8.out; obtain ⟨z0, z1, z2, z3, z4, y0, y1, y2, y3, y4⟩ := blk5 b0.out))
   refine bodyPost_ret (results_ct rfl _ _ a6 31 #[.int .i64 0, .int .i64 0, .int .i64 0, .slice none 0 0, .slice none 0 0] (0, 0) _ rfl tC Tryz.underlying31 rfl (by kernel_rfl)) rfl ?_
   exact ⟨_, _, tE, (Kd.V_nil _ _ _ _ _), (Kd.V_nil _ _ _ _ _), tB⟩
end Go.Proofs.YthgpfljhmhkaiacGreatDoor.PFnJrTypedMisses
