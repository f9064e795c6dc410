/- Walks of the functions that the law calls, printed by program and rewritten. -/
import Derived.Test.YthgpfljhmhkaiacGreatDoorV0
import Derived.Test.YthgpfljhmhkaiacGreatDoorV1
import Derived.Test.YthgpfljhmhkaiacGreatDoorV4
set_option linter.all false
namespace Go.Proofs.YthgpfljhmhkaiacGreatDoor.PFnJrTypedMisses
open Go.RowKit Go.Proofs.YthgpfljhmhkaiacGreatDoorW.PrintWords Go.Proofs.YthgpfljhmhkaiacGreatDoorW.PrintLast Go.Proofs.YthgpfljhmhkaiacGreatDoorW.PrintMore
attribute [local go_sem] max2_int min2_int max_two min_two max_three min_three max_four min_four
/-! ### spec_Places: function 29 -/
def spec_Places.f (k : Nat) (a0 : ByteArray) : Option (Int × Int × Int × (List (S64)) × (List (S31)) × Bool) := (spec_reader_blanks.f k a0 0).bind fun d3 => ((spec_reader_value.f k d3.1 d3.2).bind fun a7 => (if a7.2.2.2.2.2.1 = true then ((spec_reader_blanks.f k a7.2.2.2.2.2.2.1 a7.2.2.2.2.2.2.2).bind fun f2 => (if f2.2 = (a0.size : Int) then (some (a7.1, a7.2.1, a7.2.2.1, a7.2.2.2.1, a7.2.2.2.2.1, true)) else (some (0, 0, 0, ([] : List (S64)), ([] : List (S31)), false)))) else (some (0, 0, 0, ([] : List (S64)), ([] : List (S31)), false))))
theorem spec_Places.mono : ∀ a0 k, LeO (spec_Places.f k a0) (spec_Places.f (k + 1) a0) := by
 intro a0 k
 unfold spec_Places.f
 repeat' first
   | (with_reducible exact spec_reader_blanks.mono _ _ _)
   | (with_reducible exact spec_reader_value.mono _ _ _)
   | (with_reducible exact LeO.refl _)
   | (with_reducible exact LeO.none _)
   | (with_reducible refine LeO.ite ?_ ?_)
   | (with_reducible refine LeO.bind ?_ (fun _ => ?_))
   | exact spec_reader_blanks.mono _ _ _
   | exact spec_reader_value.mono _ _ _
   | exact LeO.none _
   | refine LeO.ite ?_ ?_
   | refine LeO.bind ?_ (fun _ => ?_)
set_option maxHeartbeats 8000000 in
set_option maxRecDepth 100000 in
theorem spec_Places.calls (k : Nat) (a0 : ByteArray) (r1 : Int) (r2 : Int) (r3 : Int) (r4 : List (S64)) (r5 : List (S31)) (r6 : Bool) (w : World) (h : spec_Places.f k a0 = some (r1, r2, r3, r4, r5, r6)) :
  Calls Tryz.prog 29 #[.string a0] w fun e w' => ∃ v3_ v4_ : Value, e = .returned (.tuple #[.agg #[.int .i64 r1, .int .i64 r2, .int .i64 r3, v3_, v4_], .bool r6]) ∧ Kd.R k64 64 w' w.heap.size (fun _ => True) v3_ r4 ∧ Kd.R k31 31 w' w.heap.size (fun k_ => some k_ ≠ (v3_ : Value).ownBlock) v4_ r5 ∧ Below w.heap.size w w' := by
 have hu31 := Tryz.underlying31
 have hu88 := Tryz.underlying88
 have HB := sd (Below.refl w.heap.size w)
 have H : ((spec_reader_blanks.f k a0 0).bind fun d3 => ((spec_reader_value.f k d3.1 d3.2).bind fun a7 => (if a7.2.2.2.2.2.1 = true then ((spec_reader_blanks.f k a7.2.2.2.2.2.2.1 a7.2.2.2.2.2.2.2).bind fun f2 => (if f2.2 = (a0.size : Int) then (some (a7.1, a7.2.1, a7.2.2.1, a7.2.2.2.1, a7.2.2.2.2.1, true)) else (some (0, 0, 0, ([] : List (S64)), ([] : List (S31)), false)))) else (some (0, 0, 0, ([] : List (S64)), ([] : List (S31)), false))))) = some (r1, r2, r3, r4, r5, r6) := h
 clear h
 replace H := Option.bind_eq_some_iff.mp H
 obtain ⟨⟨e8, e9⟩, A20, H⟩ := H
 try dsimp only at H
 have A2 := sd A20
 clear A20
 replace H := Option.bind_eq_some_iff.mp H
 obtain ⟨⟨f3, f4, f5, f6, f7, l5, b2, b3⟩, A30, H⟩ := H
 try dsimp only at H
 have A3 := sd A30
 clear A30
 by_cases c4 : l5 = true
 ·subst c4
  rw [if_pos rfl] at H
  replace H := Option.bind_eq_some_iff.mp H
  obtain ⟨⟨i0, d2⟩, A50, H⟩ := H
  try dsimp only at H
  have A5 := sd A50
  clear A50
  by_cases c6 : d2 = (a0.size : Int)
  ·rw [if_pos c6] at H
   have c6b0 : (d2 == (a0.size : Int)) = true := beq_iff_eq.mpr c6
   have c6b1 : (d2 != (a0.size : Int)) = false := bne_eq_false_iff_eq.mpr c6
   clear c6
   simp only [Option.some.injEq, Prod.mk.injEq] at H
   obtain ⟨rfl, rfl, rfl, rfl, rfl, rfl⟩ := H
   go_enter Tryz.func29, Tryz.ntmps29
   go_wp2_with (first | ((with_reducible refine gate_dst (N := 2) rfl ?_); refine box_event (by rfl) (N := 2) (by rfl) (cs := #[.int .i64 0, .int .i64 0, .int .i64 0, .slice none 0 0, .slice none 0 0]) (t := 31) tS ?_; intro a2 hg w7 hbox hb; have a5 := sd (hbox); have f9 := sd (leB hg tB); have g0 := sd (leB hg tB); have HB := sd (below_step tB hb); clear hb hbox hg) | ((with_reducible refine gate_dst (N := 4) rfl ?_); refine box_event ?hg (N := 4) ?hd (cs := #[.string (⟨#[]⟩ : ByteArray), .int .i64 0]) (t := 88) ?hr ?_; (case hd => rfl); (case hg => rfl); (case hr => exact tS); intro a3 hg w8 hbox hb; have a5 := sd (blk_below (g := a2) tL hb); have a4 := sd (neL hg (blk_lt (g := a2) tL)); have b5 := sd (neR hg (blk_lt (g := a2) tL)); have a6 := sd ((show IsS88 w w8 a3 (⟨#[]⟩ : ByteArray) 0 from ⟨hbox, (by rw [hg]; exact (below_size tB) : w.heap.size ≤ a3)⟩)); have HB := sd (below_step tB hb); clear hb hbox hg; obtain ⟨z0, z1, y0, y1⟩ := IsS88.cells a6.out) | ((with_reducible refine gate_callee (f := 45) rfl ?_); refine goesL_ (some 9) rfl rfl Tryz.func45 (by kernel_rfl) rfl #[.pointer (some ⟨a3, 0, none⟩)] rfl tM ?_; (with_reducible refine (spec_reader_blanks.calls k a3 a0 0 e8 e9 w _ ?_ ?_ A2.out).mono ?_); exact tJ; exact tB; rintro e w10 ⟨rfl, hi, hb, hk⟩; refine ⟨_, rfl, ?_⟩; have a5 := sd (KeepBut.blk hk (g' := a2) tC a4.out (by simp)); have HB := sd (hb); have a6 := sd (hi); clear hb hk hi) | ((with_reducible refine gate_callee (f := 46) rfl ?_); refine goesL_ (some 11) rfl rfl Tryz.func46 (by kernel_rfl) rfl #[.pointer (some ⟨a3, 0, none⟩)] rfl tM ?_; (with_reducible refine (spec_reader_value.calls k a3 e8 e9 f3 f4 f5 f6 f7 true b2 b3 w _ ?_ ?_ A3.out).mono ?_); exact tJ; exact tB; rintro e w11 ⟨i1, i2, rfl, ho0, ho1, hi, hb, hk⟩; refine ⟨_, rfl, ?_⟩; have a5 := sd (KeepBut.blk hk (g' := a2) tL a4.out (by simp)); have a8 := sd (Kd.R_lower ho0 (below_size tB)); have a9 := sd (Kd.R_lower (Kd.R_newB ho1 (g := a2) tL) (below_size tB)); have HB := sd (hb); have a6 := sd (hi); clear hb hk hi ho0 ho1) | ((with_reducible refine gate_dst (N := 5) rfl ?_); refine box_event (by rfl) (N := 5) (by rfl) (cs := #[.int .i64 0, .int .i64 0, .int .i64 0, .slice none 0 0, .slice none 0 0]) (t := 31) tS ?_; intro c0 hg w12 hbox hb; have a8 := sd (Kd.R_below (uR a8.out) hb); have a9 := sd (Kd.R_below (Kd.R_elderB (uR a9.out) c0 (Nat.le_of_eq hg.symm)) hb); have a5 := sd (blk_below (g := a2) tL hb); have b4 := sd (hbox); have g1 := sd (leB hg tB); have g2 := sd (leB hg tB); have HB := sd (below_step tB hb); have b6 := sd (neL hg (blk_lt (g := a2) tL)); have b7 := sd (neR hg (blk_lt (g := a2) tL)); have b8 := sd (neL hg (IsS88.lt (show IsS88 w _ a3 b2 b3 from tJ))); have b0 := sd (neR hg (IsS88.lt (show IsS88 w _ a3 b2 b3 from tJ))); have a6 := sd (IsS88.below tJ hb); clear hb hbox hg; have hnb13 := b7.out; have hnc13 := b6.out; have hnb14 := b0.out; have hnc14 := b8.out; obtain ⟨z0, z1, z2, z3, z4, y0, y1, y2, y3, y4⟩ := blk5 b4.out; obtain ⟨Ao16, co16, eo16⟩ := Kd.R_slice a8.out; subst eo16; obtain ⟨Ao17, co17, eo17⟩ := Kd.R_slice a9.out; subst eo17) | ((with_reducible refine gate_callee (f := 45) rfl ?_); refine goesL_ (some 17) rfl rfl Tryz.func45 (by kernel_rfl) rfl #[.pointer (some ⟨a3, 0, none⟩)] rfl tM ?_; (with_reducible refine (spec_reader_blanks.calls k a3 b2 b3 i0 d2 w _ ?_ ?_ A5.out).mono ?_); exact tJ; exact tB; rintro e w18 ⟨rfl, hi, hb, hk⟩; refine ⟨_, rfl, ?_⟩; have a5 := sd (KeepBut.blk hk (g' := a2) tC a4.out (by simp)); have a8 := sd (Kd.R_mono (Kd.R_keep (IsS88.apart (show IsS88 w _ a3 b2 b3 from tJ) (Kd.R_mono (uR (Kd.R_types a8.out b4.out (by decide))) (fun _ h_ => h_.1)) (by decide)) hk (fun _ h => h.2)) (fun _ h => h.1)); have a9 := sd (Kd.R_mono (Kd.R_keep (IsS88.apart (show IsS88 w _ a3 b2 b3 from tJ) (Kd.R_mono (uR (Kd.R_mono a9.out (fun k_ hk => (⟨hk, hk.2⟩ : _ ∧ k_ ≠ c0)))) (fun _ h_ => h_.1)) (by decide)) hk (fun _ h => h.2)) (fun _ h => h.1)); have b4 := sd (KeepBut.blk hk (g' := c0) tC b0.out (by simp)); have HB := sd (hb); have a6 := sd (hi); clear hb hk hi; obtain ⟨z0, z1, y0, y1⟩ := IsS88.cells a6.out; obtain ⟨z0, z1, z2, z3, z4, y0, y1, y2, y3, y4⟩ := blk5 b4.out; have hnb21 := a4.out; have hnc21 := b5.out; obtain ⟨z0, z1, z2, z3, z4, y0, y1, y2, y3, y4⟩ := blk5 a5.out))
   refine bodyPost_ret (results_ct rfl _ _ a2 31 #[.int .i64 f3, .int .i64 f4, .int .i64 f5, .slice Ao16 f6.length co16, .slice Ao17 f7.length co17] (0, 0) _ rfl tC Tryz.underlying31 rfl (by kernel_rfl)) rfl ?_
   exact ⟨_, _, tE, Kd.R_mono (uR (Kd.R_types a8.out a5.out (by decide))) (fun _ hk => trivial), Kd.R_mono (uR (Kd.R_mono a9.out (fun k_ hk => (⟨hk, hk.1.2⟩ : _ ∧ k_ ≠ a2)))) (fun _ hk => hk.1.1.1), tB⟩
  ·rw [if_neg c6] at H
   have c6b0 : (d2 == (a0.size : Int)) = false := beq_eq_false_iff_ne.mpr c6
   have c6b1 : (d2 != (a0.size : Int)) = true := bne_iff_ne.mpr c6
   simp only [Option.some.injEq, Prod.mk.injEq] at H
   obtain ⟨rfl, rfl, rfl, rfl, rfl, rfl⟩ := H
   go_enter Tryz.func29, Tryz.ntmps29
   go_wp2_with (first | ((with_reducible refine gate_dst (N := 2) rfl ?_); refine box_event (by rfl) (N := 2) (by rfl) (cs := #[.int .i64 0, .int .i64 0, .int .i64 0, .slice none 0 0, .slice none 0 0]) (t := 31) tS ?_; intro a2 hg w23 hbox hb; have a5 := sd (hbox); have f9 := sd (leB hg tB); have g0 := sd (leB hg tB); have HB := sd (below_step tB hb); clear hb hbox hg) | ((with_reducible refine gate_dst (N := 4) rfl ?_); refine box_event ?hg (N := 4) ?hd (cs := #[.string (⟨#[]⟩ : ByteArray), .int .i64 0]) (t := 88) ?hr ?_; (case hd => rfl); (case hg => rfl); (case hr => exact tS); intro a3 hg w24 hbox hb; have a5 := sd (blk_below (g := a2) tL hb); have a4 := sd (neL hg (blk_lt (g := a2) tL)); have b5 := sd (neR hg (blk_lt (g := a2) tL)); have a6 := sd ((show IsS88 w w24 a3 (⟨#[]⟩ : ByteArray) 0 from ⟨hbox, (by rw [hg]; exact (below_size tB) : w.heap.size ≤ a3)⟩)); have HB := sd (below_step tB hb); clear hb hbox hg; obtain ⟨z0, z1, y0, y1⟩ := IsS88.cells a6.out) | ((with_reducible refine gate_callee (f := 45) rfl ?_); refine goesL_ (some 9) rfl rfl Tryz.func45 (by kernel_rfl) rfl #[.pointer (some ⟨a3, 0, none⟩)] rfl tM ?_; (with_reducible refine (spec_reader_blanks.calls k a3 a0 0 e8 e9 w _ ?_ ?_ A2.out).mono ?_); exact tJ; exact tB; rintro e w26 ⟨rfl, hi, hb, hk⟩; refine ⟨_, rfl, ?_⟩; have a5 := sd (KeepBut.blk hk (g' := a2) tC a4.out (by simp)); have HB := sd (hb); have a6 := sd (hi); clear hb hk hi) | ((with_reducible refine gate_callee (f := 46) rfl ?_); refine goesL_ (some 11) rfl rfl Tryz.func46 (by kernel_rfl) rfl #[.pointer (some ⟨a3, 0, none⟩)] rfl tM ?_; (with_reducible refine (spec_reader_value.calls k a3 e8 e9 f3 f4 f5 f6 f7 true b2 b3 w _ ?_ ?_ A3.out).mono ?_); exact tJ; exact tB; rintro e w27 ⟨i1, i2, rfl, ho0, ho1, hi, hb, hk⟩; refine ⟨_, rfl, ?_⟩; have a5 := sd (KeepBut.blk hk (g' := a2) tL a4.out (by simp)); have a8 := sd (Kd.R_lower ho0 (below_size tB)); have a9 := sd (Kd.R_lower (Kd.R_newB ho1 (g := a2) tL) (below_size tB)); have HB := sd (hb); have a6 := sd (hi); clear hb hk hi ho0 ho1) | ((with_reducible refine gate_dst (N := 5) rfl ?_); refine box_event (by rfl) (N := 5) (by rfl) (cs := #[.int .i64 0, .int .i64 0, .int .i64 0, .slice none 0 0, .slice none 0 0]) (t := 31) tS ?_; intro c0 hg w28 hbox hb; have a8 := sd (Kd.R_below (uR a8.out) hb); have a9 := sd (Kd.R_below (Kd.R_elderB (uR a9.out) c0 (Nat.le_of_eq hg.symm)) hb); have a5 := sd (blk_below (g := a2) tL hb); have b4 := sd (hbox); have g1 := sd (leB hg tB); have g2 := sd (leB hg tB); have HB := sd (below_step tB hb); have b6 := sd (neL hg (blk_lt (g := a2) tL)); have b7 := sd (neR hg (blk_lt (g := a2) tL)); have b8 := sd (neL hg (IsS88.lt (show IsS88 w _ a3 b2 b3 from tJ))); have b0 := sd (neR hg (IsS88.lt (show IsS88 w _ a3 b2 b3 from tJ))); have a6 := sd (IsS88.below tJ hb); clear hb hbox hg; have hnb29 := b7.out; have hnc29 := b6.out; have hnb30 := b0.out; have hnc30 := b8.out; obtain ⟨z0, z1, z2, z3, z4, y0, y1, y2, y3, y4⟩ := blk5 b4.out; obtain ⟨Ao32, co32, eo32⟩ := Kd.R_slice a8.out; subst eo32; obtain ⟨Ao33, co33, eo33⟩ := Kd.R_slice a9.out; subst eo33) | ((with_reducible refine gate_callee (f := 45) rfl ?_); refine goesL_ (some 17) rfl rfl Tryz.func45 (by kernel_rfl) rfl #[.pointer (some ⟨a3, 0, none⟩)] rfl tM ?_; (with_reducible refine (spec_reader_blanks.calls k a3 b2 b3 i0 d2 w _ ?_ ?_ A5.out).mono ?_); exact tJ; exact tB; rintro e w34 ⟨rfl, hi, hb, hk⟩; refine ⟨_, rfl, ?_⟩; have a5 := sd (KeepBut.blk hk (g' := a2) tC a4.out (by simp)); have a8 := sd (Kd.R_mono (Kd.R_keep (IsS88.apart (show IsS88 w _ a3 b2 b3 from tJ) (Kd.R_mono (uR (Kd.R_types a8.out b4.out (by decide))) (fun _ h_ => h_.1)) (by decide)) hk (fun _ h => h.2)) (fun _ h => h.1)); have a9 := sd (Kd.R_mono (Kd.R_keep (IsS88.apart (show IsS88 w _ a3 b2 b3 from tJ) (Kd.R_mono (uR (Kd.R_mono a9.out (fun k_ hk => (⟨hk, hk.2⟩ : _ ∧ k_ ≠ c0)))) (fun _ h_ => h_.1)) (by decide)) hk (fun _ h => h.2)) (fun _ h => h.1)); have b4 := sd (KeepBut.blk hk (g' := c0) tC b0.out (by simp)); have HB := sd (hb); have a6 := sd (hi); clear hb hk hi; obtain ⟨z0, z1, y0, y1⟩ := IsS88.cells a6.out; have hnb36 := a4.out; have hnc36 := b5.out; obtain ⟨z0, z1, z2, z3, z4, y0, y1, y2, y3, y4⟩ := blk5 a5.out))
   refine bodyPost_ret (results_ct rfl _ _ a2 31 #[.int .i64 0, .int .i64 0, .int .i64 0, .slice none 0 0, .slice none 0 0] (0, 0) _ rfl tC Tryz.underlying31 rfl (by kernel_rfl)) rfl ?_
   exact ⟨_, _, tE, tN, tN, tB⟩
 ·replace c4 := Bool.eq_false_iff.mpr c4
  subst c4
  rw [if_neg (show ¬ (false = true) by decide)] at H
  simp only [Option.some.injEq, Prod.mk.injEq] at H
  obtain ⟨rfl, rfl, rfl, rfl, rfl, rfl⟩ := H
  go_enter Tryz.func29, Tryz.ntmps29
  go_wp2_with (first | ((with_reducible refine gate_dst (N := 2) rfl ?_); refine box_event (by rfl) (N := 2) (by rfl) (cs := #[.int .i64 0, .int .i64 0, .int .i64 0, .slice none 0 0, .slice none 0 0]) (t := 31) tS ?_; intro a2 hg w38 hbox hb; have a5 := sd (hbox); have f9 := sd (leB hg tB); have g0 := sd (leB hg tB); have HB := sd (below_step tB hb); clear hb hbox hg) | ((with_reducible refine gate_dst (N := 4) rfl ?_); refine box_event ?hg (N := 4) ?hd (cs := #[.string (⟨#[]⟩ : ByteArray), .int .i64 0]) (t := 88) ?hr ?_; (case hd => rfl); (case hg => rfl); (case hr => exact tS); intro a3 hg w39 hbox hb; have a5 := sd (blk_below (g := a2) tL hb); have a4 := sd (neL hg (blk_lt (g := a2) tL)); have b5 := sd (neR hg (blk_lt (g := a2) tL)); have a6 := sd ((show IsS88 w w39 a3 (⟨#[]⟩ : ByteArray) 0 from ⟨hbox, (by rw [hg]; exact (below_size tB) : w.heap.size ≤ a3)⟩)); have HB := sd (below_step tB hb); clear hb hbox hg; obtain ⟨z0, z1, y0, y1⟩ := IsS88.cells a6.out) | ((with_reducible refine gate_callee (f := 45) rfl ?_); refine goesL_ (some 9) rfl rfl Tryz.func45 (by kernel_rfl) rfl #[.pointer (some ⟨a3, 0, none⟩)] rfl tM ?_; (with_reducible refine (spec_reader_blanks.calls k a3 a0 0 e8 e9 w _ ?_ ?_ A2.out).mono ?_); exact tJ; exact tB; rintro e w41 ⟨rfl, hi, hb, hk⟩; refine ⟨_, rfl, ?_⟩; have a5 := sd (KeepBut.blk hk (g' := a2) tC a4.out (by simp)); have HB := sd (hb); have a6 := sd (hi); clear hb hk hi) | ((with_reducible refine gate_callee (f := 46) rfl ?_); refine goesL_ (some 11) rfl rfl Tryz.func46 (by kernel_rfl) rfl #[.pointer (some ⟨a3, 0, none⟩)] rfl tM ?_; (with_reducible refine (spec_reader_value.calls k a3 e8 e9 f3 f4 f5 f6 f7 false b2 b3 w _ ?_ ?_ A3.out).mono ?_); exact tJ; exact tB; rintro e w42 ⟨i1, i2, rfl, ho0, ho1, hi, hb, hk⟩; refine ⟨_, rfl, ?_⟩; have a5 := sd (KeepBut.blk hk (g' := a2) tL a4.out (by simp)); have a8 := sd (Kd.R_lower ho0 (below_size tB)); have a9 := sd (Kd.R_lower (Kd.R_newB ho1 (g := a2) tL) (below_size tB)); have HB := sd (hb); have a6 := sd (hi); clear hb hk hi ho0 ho1) | ((with_reducible refine gate_dst (N := 5) rfl ?_); refine box_event (by rfl) (N := 5) (by rfl) (cs := #[.int .i64 0, .int .i64 0, .int .i64 0, .slice none 0 0, .slice none 0 0]) (t := 31) tS ?_; intro c0 hg w43 hbox hb; have a8 := sd (Kd.R_below (uR a8.out) hb); have a9 := sd (Kd.R_below (Kd.R_elderB (uR a9.out) c0 (Nat.le_of_eq hg.symm)) hb); have a5 := sd (blk_below (g := a2) tL hb); have b4 := sd (hbox); have g1 := sd (leB hg tB); have g2 := sd (leB hg tB); have HB := sd (below_step tB hb); have b6 := sd (neL hg (blk_lt (g := a2) tL)); have b7 := sd (neR hg (blk_lt (g := a2) tL)); have b8 := sd (neL hg (IsS88.lt (show IsS88 w _ a3 b2 b3 from tJ))); have b0 := sd (neR hg (IsS88.lt (show IsS88 w _ a3 b2 b3 from tJ))); have a6 := sd (IsS88.below tJ hb); clear hb hbox hg; have hnb44 := b7.out; have hnc44 := b6.out; have hnb45 := b0.out; have hnc45 := b8.out; obtain ⟨z0, z1, z2, z3, z4, y0, y1, y2, y3, y4⟩ := blk5 b4.out; obtain ⟨Ao47, co47, eo47⟩ := Kd.R_slice a8.out; subst eo47; obtain ⟨Ao48, co48, eo48⟩ := Kd.R_slice a9.out; subst eo48; have hnb49 := a4.out; have hnc49 := b5.out; obtain ⟨z0, z1, z2, z3, z4, y0, y1, y2, y3, y4⟩ := blk5 a5.out))
  refine bodyPost_ret (results_ct rfl _ _ a2 31 #[.int .i64 0, .int .i64 0, .int .i64 0, .slice none 0 0, .slice none 0 0] (0, 0) _ rfl tC Tryz.underlying31 rfl (by kernel_rfl)) rfl ?_
  exact ⟨_, _, tE, tN, tN, tB⟩
/-! ### laws_jpPlaces: function 13 -/
def laws_jpPlaces.f (k : Nat) (a0 : ByteArray) : Option (Int × Int × Int × (List (S64)) × (List (S31)) × Bool) := if (a0.size : Int) > 65536 then (some (0, 0, 0, ([] : List (S64)), ([] : List (S31)), false)) else ((spec_Places.f k a0).bind fun b1 => (some (b1.1, b1.2.1, b1.2.2.1, b1.2.2.2.1, b1.2.2.2.2.1, b1.2.2.2.2.2)))
set_option maxHeartbeats 8000000 in
set_option maxRecDepth 100000 in
theorem laws_jpPlaces.calls (k : Nat) (a0 : ByteArray) (r1 : Int) (r2 : Int) (r3 : Int) (r4 : List (S64)) (r5 : List (S31)) (r6 : Bool) (w : World) (h : laws_jpPlaces.f k a0 = some (r1, r2, r3, r4, r5, r6)) :
  Calls Tryz.prog 13 #[.string a0] w fun e w' => ∃ v3_ v4_ : Value, e = .returned (.tuple #[.agg #[.int .i64 r1, .int .i64 r2, .int .i64 r3, v3_, v4_], .bool r6]) ∧ Kd.R k64 64 w' w.heap.size (fun _ => True) v3_ r4 ∧ Kd.R k31 31 w' w.heap.size (fun k_ => some k_ ≠ (v3_ : Value).ownBlock) v4_ r5 ∧ Below w.heap.size w w' := by
 have hu31 := Tryz.underlying31
 have HB := sd (Below.refl w.heap.size w)
 have H : (if (a0.size : Int) > 65536 then (some (0, 0, 0, ([] : List (S64)), ([] : List (S31)), false)) else ((spec_Places.f k a0).bind fun b1 => (some (b1.1, b1.2.1, b1.2.2.1, b1.2.2.2.1, b1.2.2.2.2.1, b1.2.2.2.2.2)))) = some (r1, r2, r3, r4, r5, r6) := h
 clear h
 by_cases c2 : (a0.size : Int) > 65536
 ·rw [if_pos c2] at H
  have c2b0 : decide (65536 < (a0.size : Int)) = true := decide_eq_true c2
  have c2b1 : decide (65536 < a0.size) = true := decide_eq_true (by omega)
  clear c2
  simp only [Option.some.injEq, Prod.mk.injEq] at H
  obtain ⟨rfl, rfl, rfl, rfl, rfl, rfl⟩ := H
  go_enter Tryz.func13, Tryz.ntmps13
  go_wp2_with (first | ((with_reducible refine gate_dst (N := 2) rfl ?_); refine box_event (by rfl) (N := 2) (by rfl) (cs := #[.int .i64 0, .int .i64 0, .int .i64 0, .slice none 0 0, .slice none 0 0]) (t := 31) tS ?_; intro d1 hg w3 hbox hb; have d4 := sd (hbox); have j2 := sd (leB hg tB); have j3 := sd (leB hg tB); have HB := sd (below_step tB hb); clear hb hbox hg; obtain ⟨z0, z1, z2, z3, z4, y0, y1, y2, y3, y4⟩ := blk5 d4.out))
  refine bodyPost_ret (results_ct rfl _ _ d1 31 #[.int .i64 0, .int .i64 0, .int .i64 0, .slice none 0 0, .slice none 0 0] (0, 0) _ rfl tC Tryz.underlying31 rfl (by kernel_rfl)) rfl ?_
  exact ⟨_, _, tE, tN, tN, tB⟩
 ·rw [if_neg c2] at H
  have c2b0 : decide (65536 < (a0.size : Int)) = false := decide_eq_false c2
  have c2b1 : decide (65536 < a0.size) = false := decide_eq_false (by omega)
  clear c2
  replace H := Option.bind_eq_some_iff.mp H
  obtain ⟨⟨i3, i4, i5, i6, i7, l6⟩, A50, H⟩ := H
  try dsimp only at H
  have A5 := sd A50
  clear A50
  simp only [Option.some.injEq, Prod.mk.injEq] at H
  obtain ⟨rfl, rfl, rfl, rfl, rfl, rfl⟩ := H
  go_enter Tryz.func13, Tryz.ntmps13
  go_wp2_with (first | ((with_reducible refine gate_dst (N := 2) rfl ?_); refine box_event (by rfl) (N := 2) (by rfl) (cs := #[.int .i64 0, .int .i64 0, .int .i64 0, .slice none 0 0, .slice none 0 0]) (t := 31) tS ?_; intro d1 hg w6 hbox hb; have d4 := sd (hbox); have j2 := sd (leB hg tB); have j3 := sd (leB hg tB); have HB := sd (below_step tB hb); clear hb hbox hg) | ((with_reducible refine gate_callee (f := 29) rfl ?_); refine goesL_ (some 9) rfl rfl Tryz.func29 (by kernel_rfl) rfl #[.string a0] rfl tM ?_; (with_reducible refine (spec_Places.calls k a0 i3 i4 i5 i6 i7 l6 _ A5.out).mono ?_); rintro e w7 ⟨m4, m5, rfl, ho0, ho1, hb⟩; refine ⟨_, rfl, ?_⟩; have g3 := sd (Kd.R_lower ho0 (below_size tB)); have g4 := sd (Kd.R_lower (Kd.R_newB ho1 (g := d1) tL) (below_size tB)); have d4 := sd (blk_below (g := d1) tL hb); have HB := sd (below_step tB hb); clear hb ho0 ho1; obtain ⟨z0, z1, z2, z3, z4, y0, y1, y2, y3, y4⟩ := blk5 d4.out; obtain ⟨Ao9, co9, eo9⟩ := Kd.R_slice g3.out; subst eo9; obtain ⟨Ao10, co10, eo10⟩ := Kd.R_slice g4.out; subst eo10))
  refine bodyPost_ret (results_ct rfl _ _ d1 31 #[.int .i64 i3, .int .i64 i4, .int .i64 i5, .slice Ao9 i6.length co9, .slice Ao10 i7.length co10] (0, 0) _ rfl tC Tryz.underlying31 rfl (by kernel_rfl)) rfl ?_
  exact ⟨_, _, tE, Kd.R_mono (uR (Kd.R_types g3.out d4.out (by decide))) (fun _ hk => trivial), Kd.R_mono (uR (Kd.R_mono g4.out (fun k_ hk => (⟨hk, hk.2⟩ : _ ∧ k_ ≠ d1)))) (fun _ hk => hk.1.1), tB⟩
/-! ### spec_unit: function 47 -/
mutual
def spec_unit.j0 : Nat → ByteArray → Int → Bool → Option (Int × Bool)
 | 0, _, _, _ => none
 | k + 1, x0, x1, x27 => if x27 = true then (some (0, false)) else (spec_unit.l0 k x0 x1 0 (wrap64 (x1 + 2)))
def spec_unit.l0 : Nat → ByteArray → Int → Int → Int → Option (Int × Bool)
 | 0, _, _, _, _ => none
 | k + 1, x0, x1, x6, x7 => if x7 < (wrap64 (x1 + 6)) then (if 0 ≤ x7 then (if x7 < (x0.size : Int) then ((spec_hexDigit.f k (bt x0 x7)).bind fun g5 => (if g5.2 = true then (spec_unit.l0 k x0 x1 (wrap64 ((wrap64 (x6 * 16)) + g5.1)) (wrap64 (x7 + 1))) else (some (0, false)))) else (none)) else (none)) else (some (x6, true))
end
def spec_unit.f (k : Nat) (a0 : ByteArray) (a1 : Int) : Option (Int × Bool) := if (wrap64 ((a0.size : Int) - a1)) < 6 then (spec_unit.j0 k a0 a1 true) else (if 0 ≤ a1 then (if a1 < (a0.size : Int) then (if (bt a0 a1) = 92 then (if 0 ≤ (wrap64 (a1 + 1)) then (if (wrap64 (a1 + 1)) < (a0.size : Int) then (spec_unit.j0 k a0 a1 ((bt a0 (wrap64 (a1 + 1))) != 117)) else (none)) else (none)) else (spec_unit.j0 k a0 a1 true)) else (none)) else (none))
set_option maxHeartbeats 8000000 in
set_option maxRecDepth 100000 in
theorem spec_unit.calls (k : Nat) (a0 : ByteArray) (a1 : Int) (r1 : Int) (r2 : Bool) (w : World) (h : spec_unit.f k a0 a1 = some (r1, r2)) :
  Calls Tryz.prog 47 #[.string a0, .int .i64 a1] w fun e w' => e = .returned (.tuple #[.int .i64 r1, .bool r2]) ∧ Drawn0 w w' := by
 have H : (if (wrap64 ((a0.size : Int) - a1)) < 6 then (spec_unit.j0 k a0 a1 true) else (if 0 ≤ a1 then (if a1 < (a0.size : Int) then (if (bt a0 a1) = 92 then (if 0 ≤ (wrap64 (a1 + 1)) then (if (wrap64 (a1 + 1)) < (a0.size : Int) then (spec_unit.j0 k a0 a1 ((bt a0 (wrap64 (a1 + 1))) != 117)) else (none)) else (none)) else (spec_unit.j0 k a0 a1 true)) else (none)) else (none))) = some (r1, r2) := h
 clear h
 have HC3 := sd H
 clear H
 go_enter Tryz.func47, Tryz.ntmps47
 go_upto_region 1 with (fail)
 go_cut [27] (fun v27 wc => ∃ (kq : Nat) (x27_2 : Bool), v27 = .bool x27_2 ∧ Aside0 (spec_unit.j0 kq a0 a1 x27_2 = some (r1, r2)) ∧ Aside0 (kq ≤ k) ∧ Drawn0 w wc)
 case first =>
  have H := HC3.out
  clear HC3
  by_cases c4 : (wrap64 ((a0.size : Int) - a1)) < 6
  ·rw [if_pos c4] at H
   have c4b0 : decide ((wrap64 ((a0.size : Int) - a1)) < 6) = true := decide_eq_true c4
   clear c4
   (first | rw [c4b0] | (simp only [i64_w, i32_w]; rw [c4b0]) | skip)
   have H' := sd H
   clear H
   go_wp2
   go_meet
   case rel => exact ⟨_, (true), tF, H', ⟨by first | omega | exact Nat.le_refl _⟩, by repeat (first | exact Drawn0.refl _ | apply Drawn0.step)⟩
  ·rw [if_neg c4] at H
   have c4b0 : decide ((wrap64 ((a0.size : Int) - a1)) < 6) = false := decide_eq_false c4
   clear c4
   (first | rw [c4b0] | (simp only [i64_w, i32_w]; rw [c4b0]) | skip)
   by_cases c5 : 0 ≤ a1
   ·rw [if_pos c5] at H
    have c5b0 : decide (0 ≤ a1) = true := decide_eq_true c5
    clear c5
    by_cases c6 : a1 < (a0.size : Int)
    ·rw [if_pos c6] at H
     have c6b0 : decide (a1 < (a0.size : Int)) = true := decide_eq_true c6
     clear c6
     by_cases c8 : (bt a0 a1) = 92
     ·rw [if_pos c8] at H
      have c8b0 : ((bt a0 a1) == 92) = true := beq_iff_eq.mpr c8
      have c8b1 : ((bt a0 a1) != 92) = false := bne_eq_false_iff_eq.mpr c8
      clear c8
      obtain ⟨ji9, hji9⟩ : ∃ j_ : Int, (wrap64 (a1 + 1)) = j_ := ⟨_, rfl⟩
      replace H : (if 0 ≤ (ji9) then (if (ji9) < (a0.size : Int) then (spec_unit.j0 k a0 a1 ((bt a0 (ji9)) != 117)) else (none)) else (none)) = some (r1, r2) := by first | (rw [hji9] at H; exact H) | (simp only [hji9] at H ⊢; exact H)
      have hji9w : (IntKind.i64.wrap (a1 + 1)) = ji9 := (i64_w _).trans hji9
      by_cases c10 : 0 ≤ (ji9)
      ·rw [if_pos c10] at H
       have c10b0 : decide (0 ≤ (ji9)) = true := decide_eq_true c10
       clear c10
       by_cases c11 : (ji9) < (a0.size : Int)
       ·rw [if_pos c11] at H
        have c11b0 : decide ((ji9) < (a0.size : Int)) = true := decide_eq_true c11
        clear c11
        have H' := sd H
        clear H
        have p7 : 0 ≤ (a1 : Int) := of_decide_eq_true (by first | (with_reducible assumption) | assumption)
        have q7 : a1 < (a0.size : Int) := of_decide_eq_true (by first | (with_reducible assumption) | assumption)
        have hx7 := bt_at a0 a1
        replace p7 := eq_true p7
        replace q7 := eq_true q7
        have p12 : 0 ≤ ((ji9) : Int) := of_decide_eq_true (by first | (with_reducible assumption) | assumption)
        have q12 : (ji9) < (a0.size : Int) := of_decide_eq_true (by first | (with_reducible assumption) | assumption)
        have hx12 := bt_at a0 (ji9)
        replace p12 := eq_true p12
        replace q12 := eq_true q12
        go_wp2
        go_meet
        case rel => exact ⟨_, (((bt a0 (ji9)) != 117)), (by first | rfl | (simp; done) | (simp only [← hji9] <;> (first | rfl | simp)) | (simp [*]; done)), H', ⟨by first | omega | exact Nat.le_refl _⟩, by repeat (first | exact Drawn0.refl _ | apply Drawn0.step)⟩
       ·rw [if_neg c11] at H
        exact absurd H (by simp)
      ·rw [if_neg c10] at H
       exact absurd H (by simp)
     ·rw [if_neg c8] at H
      have c8b0 : ((bt a0 a1) == 92) = false := beq_eq_false_iff_ne.mpr c8
      have c8b1 : ((bt a0 a1) != 92) = true := bne_iff_ne.mpr c8
      have H' := sd H
      clear H
      have p7 : 0 ≤ (a1 : Int) := of_decide_eq_true (by first | (with_reducible assumption) | assumption)
      have q7 : a1 < (a0.size : Int) := of_decide_eq_true (by first | (with_reducible assumption) | assumption)
      have hx7 := bt_at a0 a1
      replace p7 := eq_true p7
      replace q7 := eq_true q7
      go_wp2
      go_meet
      case rel => exact ⟨_, (true), tF, H', ⟨by first | omega | exact Nat.le_refl _⟩, by repeat (first | exact Drawn0.refl _ | apply Drawn0.step)⟩
    ·rw [if_neg c6] at H
     exact absurd H (by simp)
   ·rw [if_neg c5] at H
    exact absurd H (by simp)
 case rest =>
  clear HC3
  obtain ⟨kq, x27_2, rfl, HA, HJ2, ⟨mc2, rfl⟩⟩ := hcut
  cases kq with
  | zero => exact absurd HA.out (by simp [spec_unit.j0])
  | succ kj2 =>
   have H := HA.out
   clear HA
   simp only [spec_unit.j0] at H
   by_cases c13 : x27_2 = true
   ·subst c13
    rw [if_pos rfl] at H
    simp only [Option.some.injEq, Prod.mk.injEq] at H
    obtain ⟨rfl, rfl⟩ := H
    go_wp2
    go_ret2
    exact ⟨by first | rfl | (simp; done) | (simp [*]; done), by repeat (first | exact Drawn0.refl _ | apply Drawn0.step)⟩
   ·replace c13 := Bool.eq_false_iff.mpr c13
    subst c13
    rw [if_neg (show ¬ (false = true) by decide)] at H
    have H' := sd H
    clear H
    go_wp2
    (try simp only [Act.put, List.setIfInBounds_toArray, List.set_cons_zero, List.set_cons_succ])
    go_loopg [6, 7] kj2 (fun kq v6 v7 w' => ∃ (x6_2 : Int) (x7_2 : Int), v6 = .int .i64 x6_2 ∧ v7 = .int .i64 x7_2 ∧ Aside0 (spec_unit.l0 kq a0 a1 x6_2 x7_2 = some (r1, r2)) ∧ Aside0 (kq ≤ kj2) ∧ Drawn0 w w')
    case atStart => exact ⟨(0), (wrap64 (a1 + 2)), tF, tF, H', ⟨Nat.le_refl _⟩, by repeat (first | exact Drawn0.refl _ | apply Drawn0.step)⟩
    case round =>
     clear H'
     obtain ⟨x6_2, x7_2, rfl, rfl, HA, HK2, ⟨m2, rfl⟩⟩ := hrel
     cases gk with
     | zero => exact absurd HA.out (by simp [spec_unit.l0])
     | succ k2 =>
      have H := HA.out
      clear HA
      simp only [spec_unit.l0] at H
      by_cases c14 : x7_2 < (wrap64 (a1 + 6))
      ·rw [if_pos c14] at H
       have c14b0 : decide (x7_2 < (wrap64 (a1 + 6))) = true := decide_eq_true c14
       clear c14
       by_cases c15 : 0 ≤ x7_2
       ·rw [if_pos c15] at H
        have c15b0 : decide (0 ≤ x7_2) = true := decide_eq_true c15
        clear c15
        by_cases c16 : x7_2 < (a0.size : Int)
        ·rw [if_pos c16] at H
         have c16b0 : decide (x7_2 < (a0.size : Int)) = true := decide_eq_true c16
         clear c16
         replace H := Option.bind_eq_some_iff.mp H
         obtain ⟨⟨f8, l7⟩, i8, H⟩ := H
         try dsimp only at H
         have A18 := sd i8
         clear i8
         by_cases c19 : l7 = true
         ·subst c19
          rw [if_pos rfl] at H
          have H' := sd H
          clear H
          have p17 : 0 ≤ (x7_2 : Int) := of_decide_eq_true (by first | (with_reducible assumption) | assumption)
          have q17 : x7_2 < (a0.size : Int) := of_decide_eq_true (by first | (with_reducible assumption) | assumption)
          have hx17 := bt_at a0 x7_2
          replace p17 := eq_true p17
          replace q17 := eq_true q17
          go_wp2_with (first | ((with_reducible refine gate_callee (f := 71) rfl ?_); refine goesL_ (some 40) rfl rfl Tryz.func71 (by kernel_rfl) rfl #[.int .u8 (bt a0 x7_2)] rfl tM ?_; (with_reducible refine (spec_hexDigit.calls k2 (bt a0 x7_2) f8 true _ A18.out).mono ?_); rintro e w' ⟨rfl, ⟨nd, rfl⟩⟩; refine ⟨_, rfl, ?_⟩))
          go_roundg k2
          case measure => have := HJ2.out; have := HK2.out; omega
          case rel => exact ⟨(wrap64 ((wrap64 (x6_2 * 16)) + f8)), (wrap64 (x7_2 + 1)), tF, tF, H', ⟨by have := HJ2.out; have := HK2.out; omega⟩, by repeat (first | exact Drawn0.refl _ | apply Drawn0.step)⟩
         ·replace c19 := Bool.eq_false_iff.mpr c19
          subst c19
          rw [if_neg (show ¬ (false = true) by decide)] at H
          simp only [Option.some.injEq, Prod.mk.injEq] at H
          obtain ⟨rfl, rfl⟩ := H
          have p17 : 0 ≤ (x7_2 : Int) := of_decide_eq_true (by first | (with_reducible assumption) | assumption)
          have q17 : x7_2 < (a0.size : Int) := of_decide_eq_true (by first | (with_reducible assumption) | assumption)
          have hx17 := bt_at a0 x7_2
          replace p17 := eq_true p17
          replace q17 := eq_true q17
          go_wp2_with (first | ((with_reducible refine gate_callee (f := 71) rfl ?_); refine goesL_ (some 40) rfl rfl Tryz.func71 (by kernel_rfl) rfl #[.int .u8 (bt a0 x7_2)] rfl tM ?_; (with_reducible refine (spec_hexDigit.calls k2 (bt a0 x7_2) f8 false _ A18.out).mono ?_); rintro e w' ⟨rfl, ⟨nd, rfl⟩⟩; refine ⟨_, rfl, ?_⟩))
          go_ret2
          exact ⟨by first | rfl | (simp; done) | (simp [*]; done), by repeat (first | exact Drawn0.refl _ | apply Drawn0.step)⟩
        ·rw [if_neg c16] at H
         exact absurd H (by simp)
       ·rw [if_neg c15] at H
        exact absurd H (by simp)
      ·rw [if_neg c14] at H
       have c14b0 : decide (x7_2 < (wrap64 (a1 + 6))) = false := decide_eq_false c14
       clear c14
       simp only [Option.some.injEq, Prod.mk.injEq] at H
       obtain ⟨rfl, rfl⟩ := H
       go_wp2
       go_ret2
       exact ⟨by first | rfl | (simp; done) | (simp [*]; done), by repeat (first | exact Drawn0.refl _ | apply Drawn0.step)⟩
/-! ### spec_short: function 48 -/
def spec_short.f (a0 : Int) : Option (Int) := if a0 = 98 then (some 8) else (if a0 = 102 then (some 12) else (if a0 = 110 then (some 10) else (if a0 = 114 then (some 13) else (if a0 = 116 then (some 9) else (some a0)))))
set_option maxHeartbeats 8000000 in
set_option maxRecDepth 100000 in
theorem spec_short.calls (a0 : Int) (r : Int) (w : World) (h : spec_short.f a0 = some r) :
  Calls Tryz.prog 48 #[.int .u8 a0] w fun e w' => e = .returned (.int .u8 r) ∧ Drawn0 w w' := by
 have H : (if a0 = 98 then (some 8) else (if a0 = 102 then (some 12) else (if a0 = 110 then (some 10) else (if a0 = 114 then (some 13) else (if a0 = 116 then (some 9) else (some a0)))))) = some r := h
 clear h
 by_cases c2 : a0 = 98
 ·rw [if_pos c2] at H
  have c2b0 : (a0 == 98) = true := beq_iff_eq.mpr c2
  have c2b1 : (a0 != 98) = false := bne_eq_false_iff_eq.mpr c2
  clear c2
  obtain rfl := Option.some.inj H
  go_enter Tryz.func48, Tryz.ntmps48
  go_wp2
  go_ret
  exact ⟨by first | rfl | (simp; done) | (simp [*]; done), by repeat (first | exact Drawn0.refl _ | apply Drawn0.step)⟩
 ·rw [if_neg c2] at H
  have c2b0 : (a0 == 98) = false := beq_eq_false_iff_ne.mpr c2
  have c2b1 : (a0 != 98) = true := bne_iff_ne.mpr c2
  by_cases c3 : a0 = 102
  ·rw [if_pos c3] at H
   have c3b0 : (a0 == 102) = true := beq_iff_eq.mpr c3
   have c3b1 : (a0 != 102) = false := bne_eq_false_iff_eq.mpr c3
   clear c3
   obtain rfl := Option.some.inj H
   go_enter Tryz.func48, Tryz.ntmps48
   go_wp2
   go_ret
   exact ⟨by first | rfl | (simp; done) | (simp [*]; done), by repeat (first | exact Drawn0.refl _ | apply Drawn0.step)⟩
  ·rw [if_neg c3] at H
   have c3b0 : (a0 == 102) = false := beq_eq_false_iff_ne.mpr c3
   have c3b1 : (a0 != 102) = true := bne_iff_ne.mpr c3
   by_cases c4 : a0 = 110
   ·rw [if_pos c4] at H
    have c4b0 : (a0 == 110) = true := beq_iff_eq.mpr c4
    have c4b1 : (a0 != 110) = false := bne_eq_false_iff_eq.mpr c4
    clear c4
    obtain rfl := Option.some.inj H
    go_enter Tryz.func48, Tryz.ntmps48
    go_wp2
    go_ret
    exact ⟨by first | rfl | (simp; done) | (simp [*]; done), by repeat (first | exact Drawn0.refl _ | apply Drawn0.step)⟩
   ·rw [if_neg c4] at H
    have c4b0 : (a0 == 110) = false := beq_eq_false_iff_ne.mpr c4
    have c4b1 : (a0 != 110) = true := bne_iff_ne.mpr c4
    by_cases c5 : a0 = 114
    ·rw [if_pos c5] at H
     have c5b0 : (a0 == 114) = true := beq_iff_eq.mpr c5
     have c5b1 : (a0 != 114) = false := bne_eq_false_iff_eq.mpr c5
     clear c5
     obtain rfl := Option.some.inj H
     go_enter Tryz.func48, Tryz.ntmps48
     go_wp2
     go_ret
     exact ⟨by first | rfl | (simp; done) | (simp [*]; done), by repeat (first | exact Drawn0.refl _ | apply Drawn0.step)⟩
    ·rw [if_neg c5] at H
     have c5b0 : (a0 == 114) = false := beq_eq_false_iff_ne.mpr c5
     have c5b1 : (a0 != 114) = true := bne_iff_ne.mpr c5
     by_cases c6 : a0 = 116
     ·rw [if_pos c6] at H
      have c6b0 : (a0 == 116) = true := beq_iff_eq.mpr c6
      have c6b1 : (a0 != 116) = false := bne_eq_false_iff_eq.mpr c6
      clear c6
      obtain rfl := Option.some.inj H
      go_enter Tryz.func48, Tryz.ntmps48
      go_wp2
      go_ret
      exact ⟨by first | rfl | (simp; done) | (simp [*]; done), by repeat (first | exact Drawn0.refl _ | apply Drawn0.step)⟩
     ·rw [if_neg c6] at H
      have c6b0 : (a0 == 116) = false := beq_eq_false_iff_ne.mpr c6
      have c6b1 : (a0 != 116) = true := bne_iff_ne.mpr c6
      obtain rfl := Option.some.inj H
      go_enter Tryz.func48, Tryz.ntmps48
      go_wp2
      go_ret
      exact ⟨by first | rfl | (simp; done) | (simp [*]; done), by repeat (first | exact Drawn0.refl _ | apply Drawn0.step)⟩
/-! ### spec_high: function 49 -/
def spec_high.f (a0 : Int) : Option (Bool) := if 55296 ≤ a0 then (some (decide (a0 ≤ 56319))) else (some false)
set_option maxHeartbeats 8000000 in
set_option maxRecDepth 100000 in
theorem spec_high.calls (a0 : Int) (r : Bool) (w : World) (h : spec_high.f a0 = some r) :
  Calls Tryz.prog 49 #[.int .i64 a0] w fun e w' => e = .returned (.bool r) ∧ Drawn0 w w' := by
 have H : (if 55296 ≤ a0 then (some (decide (a0 ≤ 56319))) else (some false)) = some r := h
 clear h
 by_cases c2 : 55296 ≤ a0
 ·rw [if_pos c2] at H
  have c2b0 : decide (55296 ≤ a0) = true := decide_eq_true c2
  clear c2
  obtain rfl := Option.some.inj H
  go_enter Tryz.func49, Tryz.ntmps49
  go_wp2
  go_ret
  exact ⟨by first | rfl | (simp; done) | (simp [*]; done), by repeat (first | exact Drawn0.refl _ | apply Drawn0.step)⟩
 ·rw [if_neg c2] at H
  have c2b0 : decide (55296 ≤ a0) = false := decide_eq_false c2
  clear c2
  obtain rfl := Option.some.inj H
  go_enter Tryz.func49, Tryz.ntmps49
  go_wp2
  go_ret
  exact ⟨by first | rfl | (simp; done) | (simp [*]; done), by repeat (first | exact Drawn0.refl _ | apply Drawn0.step)⟩
/-! ### spec_low: function 50 -/
def spec_low.f (a0 : Int) : Option (Bool) := if 56320 ≤ a0 then (some (decide (a0 ≤ 57343))) else (some false)
set_option maxHeartbeats 8000000 in
set_option maxRecDepth 100000 in
theorem spec_low.calls (a0 : Int) (r : Bool) (w : World) (h : spec_low.f a0 = some r) :
  Calls Tryz.prog 50 #[.int .i64 a0] w fun e w' => e = .returned (.bool r) ∧ Drawn0 w w' := by
 have H : (if 56320 ≤ a0 then (some (decide (a0 ≤ 57343))) else (some false)) = some r := h
 clear h
 by_cases c2 : 56320 ≤ a0
 ·rw [if_pos c2] at H
  have c2b0 : decide (56320 ≤ a0) = true := decide_eq_true c2
  clear c2
  obtain rfl := Option.some.inj H
  go_enter Tryz.func50, Tryz.ntmps50
  go_wp2
  go_ret
  exact ⟨by first | rfl | (simp; done) | (simp [*]; done), by repeat (first | exact Drawn0.refl _ | apply Drawn0.step)⟩
 ·rw [if_neg c2] at H
  have c2b0 : decide (56320 ≤ a0) = false := decide_eq_false c2
  clear c2
  obtain rfl := Option.some.inj H
  go_enter Tryz.func50, Tryz.ntmps50
  go_wp2
  go_ret
  exact ⟨by first | rfl | (simp; done) | (simp [*]; done), by repeat (first | exact Drawn0.refl _ | apply Drawn0.step)⟩
/-! ### spec_appendUTF8: function 51 -/
def spec_appendUTF8.j0 : Nat → List Int → Int → Bool → Option (List Int)
 | 0, _, _, _ => none
 | k + 1, x0, x1, x27 => if x27 = true then ((some (([239, 191, 189] : List Int) : List Int)).bind fun c1 => (if x0.length + c1.length < 140737488355328 then (some (x0 ++ c1)) else (none))) else (if x1 < 65536 then ((some (([(wrap64 (224 + (wrap64 (Int.tdiv x1 4096)))) % 256, (wrap64 (128 + (Int.tmod (wrap64 (Int.tdiv x1 64)) 64))) % 256, (wrap64 (128 + (Int.tmod x1 64))) % 256] : List Int) : List Int)).bind fun c9 => (if x0.length + c9.length < 140737488355328 then (some (x0 ++ c9)) else (none))) else ((some (([(wrap64 (240 + (wrap64 (Int.tdiv x1 262144)))) % 256, (wrap64 (128 + (Int.tmod (wrap64 (Int.tdiv x1 4096)) 64))) % 256, (wrap64 (128 + (Int.tmod (wrap64 (Int.tdiv x1 64)) 64))) % 256, (wrap64 (128 + (Int.tmod x1 64))) % 256] : List Int) : List Int)).bind fun d0 => (if x0.length + d0.length < 140737488355328 then (some (x0 ++ d0)) else (none))))
def spec_appendUTF8.f (k : Nat) (l0 : List Int) (a1 : Int) : Option (List Int) := if a1 < 128 then (if l0.length < 140737488355328 then (some (l0 ++ [(a1) % 256])) else (none)) else (if a1 < 2048 then ((some (([(wrap64 (192 + (wrap64 (Int.tdiv a1 64)))) % 256, (wrap64 (128 + (Int.tmod a1 64))) % 256] : List Int) : List Int)).bind fun b9 => (if l0.length + b9.length < 140737488355328 then (some (l0 ++ b9)) else (none))) else ((spec_high.f a1).bind fun f1 => (if f1 = true then (spec_appendUTF8.j0 k l0 a1 true) else ((spec_low.f a1).bind fun f0 => (spec_appendUTF8.j0 k l0 a1 f0)))))
set_option maxHeartbeats 8000000 in
set_option maxRecDepth 100000 in
theorem spec_appendUTF8.calls (k : Nat) (P0_ : Nat → Prop) (u9000_ : Value) (l0 : List Int) (a1 : Int) (r : List Int) (w0 w : World) (hB : Below w0.heap.size w0 w) (ho0 : Kd.R (Kd.int .u8) 5 w w0.heap.size P0_ u9000_ l0) (h : spec_appendUTF8.f k l0 a1 = some r) :
  Calls Tryz.prog 51 #[u9000_, .int .i64 a1] w fun e w' => ∃ v0_ : Value, e = .returned (v0_) ∧ Kd.R (Kd.int .u8) 5 w' w0.heap.size (fun k_ => (P0_ k_ ∨ w.heap.size ≤ k_)) v0_ r ∧ Below w0.heap.size w0 w' ∧ Kept w w' (fun k_ => P0_ k_) := by
 have HO0 := sd (show Kd.R (Kd.int .u8) 5 w w0.heap.size (fun k_ => (P0_ k_ ∨ w.heap.size ≤ k_)) u9000_ l0 from Kd.R_mono ho0 (fun k_ hk => (.inl hk)))
 have HK := sd (Kept.refl w (fun k_ => P0_ k_))
 have HW0 := sd hB.size
 have HB := sd hB
 clear hB
 have H : (if a1 < 128 then (if l0.length < 140737488355328 then (some (l0 ++ [(a1) % 256])) else (none)) else (if a1 < 2048 then ((some (([(wrap64 (192 + (wrap64 (Int.tdiv a1 64)))) % 256, (wrap64 (128 + (Int.tmod a1 64))) % 256] : List Int) : List Int)).bind fun b9 => (if l0.length + b9.length < 140737488355328 then (some (l0 ++ b9)) else (none))) else ((spec_high.f a1).bind fun f1 => (if f1 = true then (spec_appendUTF8.j0 k l0 a1 true) else ((spec_low.f a1).bind fun f0 => (spec_appendUTF8.j0 k l0 a1 f0)))))) = some r := h
 clear h
 by_cases c3 : a1 < 128
 ·rw [if_pos c3] at H
  have c3b0 : decide (a1 < 128) = true := decide_eq_true c3
  clear c3
  by_cases c4 : l0.length < 140737488355328
  ·rw [if_pos c4] at H
   have LMc4 := sd c4
   clear c4
   obtain ⟨l8, d5⟩ : ∃ y_ : List Int, y_ = (l0 ++ [(a1) % 256]) := ⟨_, rfl⟩
   replace H : (some l8) = some r := by first | (rw [d5]; with_reducible exact H) | (have H2_ := (Option.bind_some _ _).symm.trans H; rw [d5]; with_reducible exact H2_) | (have H2_ := (Option.bind_some _ _).symm.trans H; with_reducible exact H2_) | with_reducible exact H | (rw [d5]; exact H) | exact H
   have j4 := sd d5
   clear d5
   obtain rfl := Option.some.inj H
   go_enter Tryz.func51, Tryz.ntmps51
   go_wp2_with (first | ((with_reducible refine gate_builtin (b := .append) (xs := #[.tmp 8, .tmp 11]) rfl ?_); at_builtin; refine Kd.R_append (Kd.int .u8) (w0 := w0) w0.heap.size rfl (.tmp 8) (.tmp 11) 44 5 (.int .u8 0) 1 rfl Tryz.underlying44 info5 rfl (by decide) (by omega) u9000_ l0 ((a1) % 256) [.int .u8 ((a1) % 256)] (fun k_ => (P0_ k_ ∨ w.heap.size ≤ k_)) (fun _ => False) rfl rfl ?aP (fun _ hk => hk.elim) ?aF ?aO ?aB ?aS ?aL ?_; (case aP => exact rfl); (case aB => exact tB); (case aF => exact (fun k_ hk => (.inr (Nat.le_trans (by first | exact HK.out.1 | exact (show Kept w _ (fun k_ => P0_ k_) from tK).1) hk)))); (case aO => exact (uR HO0.out)); (case aS => exact (below_size tB)); (case aL => have := LMc4.out; omega); intro m6 w5 ho hb hg hat; rw [← j4.out] at ho; have HB := sd (hb); have HK := sd (Kept.of_grown (S := (fun k_ => P0_ k_)) hg tK (fun k_ e_ => (HO0.out.1 k_ e_))); have j5 := sd (ho); clear ho hb hg hat))
   go_ret
   exact ⟨_, tE, uR j5.out, tB, tK⟩
  ·rw [if_neg c4] at H
   exact absurd H (by simp)
 ·rw [if_neg c3] at H
  have c3b0 : decide (a1 < 128) = false := decide_eq_false c3
  clear c3
  by_cases c6 : a1 < 2048
  ·rw [if_pos c6] at H
   have c6b0 : decide (a1 < 2048) = true := decide_eq_true c6
   clear c6
   obtain ⟨b9, d6⟩ : ∃ y_ : List Int, y_ = (([(wrap64 (192 + (wrap64 (Int.tdiv a1 64)))) % 256, (wrap64 (128 + (Int.tmod a1 64))) % 256] : List Int)) := ⟨_, rfl⟩
   replace H : (if l0.length + b9.length < 140737488355328 then (some (l0 ++ b9)) else (none)) = some r := by first | (rw [d6]; with_reducible exact H) | (have H2_ := (Option.bind_some _ _).symm.trans H; rw [d6]; with_reducible exact H2_) | (have H2_ := (Option.bind_some _ _).symm.trans H; with_reducible exact H2_) | with_reducible exact H | (rw [d6]; exact H) | exact H
   have g6 := sd d6
   clear d6
   by_cases c7 : l0.length + b9.length < 140737488355328
   ·rw [if_pos c7] at H
    have LMc7 := sd c7
    clear c7
    obtain ⟨l9, d7⟩ : ∃ y_ : List Int, y_ = (l0 ++ b9) := ⟨_, rfl⟩
    replace H : (some l9) = some r := by first | (rw [d7]; with_reducible exact H) | (have H2_ := (Option.bind_some _ _).symm.trans H; rw [d7]; with_reducible exact H2_) | (have H2_ := (Option.bind_some _ _).symm.trans H; with_reducible exact H2_) | with_reducible exact H | (rw [d7]; exact H) | exact H
    have j6 := sd d7
    clear d7
    obtain rfl := Option.some.inj H
    go_enter Tryz.func51, Tryz.ntmps51
    go_wp2_with (first | ((with_reducible refine gate_dst (N := 25) rfl ?_); refine Kd.R_lit (Kd.int .u8) _ 5 ?hg (N := 25) ?hd (xs := ([(wrap64 (192 + (wrap64 (Int.tdiv a1 64)))) % 256, (wrap64 (128 + (Int.tmod a1 64))) % 256] : List Int)) (inner := [.int .u8 ((wrap64 (192 + (wrap64 (Int.tdiv a1 64)))) % 256), .int .u8 ((wrap64 (128 + (Int.tmod a1 64))) % 256)]) (ok := fun _ => True) (okp := fun _ => True) ?hr ?hp (fun _ hk => hk) trivial (Below.refl _ _) (Nat.le_refl _) (by simp) ?_; (case hd => rfl); (case hg => rfl); (case hr => exact tS); (case hp => exact (Reps.one (show Kd.M (Kd.int .u8) _ _ _ ((wrap64 (192 + (wrap64 (Int.tdiv a1 64)))) % 256) [.int .u8 ((wrap64 (192 + (wrap64 (Int.tdiv a1 64)))) % 256)] from rfl) (Reps.one (show Kd.M (Kd.int .u8) _ _ _ ((wrap64 (128 + (Int.tmod a1 64))) % 256) [.int .u8 ((wrap64 (128 + (Int.tmod a1 64))) % 256)] from rfl) (Reps.none _ _)))); intro m7 w8 ho9 hb hg_ hnew_; clear hg_ hnew_; (first | rw [← g6.out] at ho9 | (simp only [Int.reduceToNat] at ho9; rw [← g6.out] at ho9)); have d8 := sd (Kd.R_lower (Kd.R_new' (Kd.R_newM (M := fun k_ => (P0_ k_ ∨ w.heap.size ≤ k_)) ho9 (by first | exact HK.out.1 | exact (show Kept w _ (fun k_ => P0_ k_) from tK).1) (fun k_ h_ => .inr h_)) (Kd.R_lt (uR HO0.out))) (below_size tB)); have HO0 := sd (Kd.R_elder' (uR HO0.out) (Kd.R_base ho9) hb); have HK := sd (Kept.below (S := (fun k_ => P0_ k_)) tK hb); have HB := sd (below_step tB hb); clear hb ho9; obtain ⟨Ao11, co11, eo11⟩ := Kd.R_slice d8.out; subst eo11) | ((with_reducible refine gate_builtin (b := .append) (xs := #[.tmp 16, .tmp 25]) rfl ?_); at_builtin; refine Kd.R_append_rows (Kd.int .u8) (w0 := w0) w0.heap.size rfl (.tmp 16) (.tmp 25) 44 5 (.int .u8 0) 1 rfl Tryz.underlying44 info5 rfl (by decide) (by omega) u9000_ l0 b9 _ _ _ (fun k_ => (P0_ k_ ∨ w.heap.size ≤ k_) ∧ some k_ ≠ (.slice Ao11 b9.length co11 : Value).ownBlock) (fun _ => False) rfl rfl ?aO ?aR (fun _ _ h => h) (fun _ h => h.elim) ?aF ?aB ?aS ?aL ?_; (case aR => repeat (first | exact (Kd.R_reads' d8.out).2.2 | (with_reducible refine Kd.C_alloc ?_ _) | (with_reducible refine Kd.C_drewN ?_ _) | (with_reducible refine Kd.C_drew ?_))); (case aB => exact tB); (case aF => exact (fun k_ hk => ⟨(.inr (Nat.le_trans (by first | exact HK.out.1 | exact (show Kept w _ (fun k_ => P0_ k_) from tK).1) hk)), Kd.fresh' (Kd.R_lt (uR d8.out)) k_ hk⟩)); (case aO => exact (uR HO0.out)); (case aS => exact (below_size tB)); (case aL => have := LMc7.out; omega); intro m8 w10 ho hb hg hat; rw [← j6.out] at ho; have d8 := sd (Kd.R_after (ok := (fun k_ => (P0_ k_ ∨ w.heap.size ≤ k_))) (Kd.R_mono (uR d8.out) (fun _ hk => ⟨hk.1.1, hk.2⟩)) hg hat); have HB := sd (hb); have HK := sd (Kept.of_grown (S := (fun k_ => P0_ k_)) hg tK (fun k_ e_ => (HO0.out.1 k_ e_).1)); have j7 := sd (ho); clear ho hb hg hat))
    go_ret
    exact ⟨_, tE, Kd.R_mono (uR j7.out) (fun _ hk => hk.1), tB, tK⟩
   ·rw [if_neg c7] at H
    exact absurd H (by simp)
  ·rw [if_neg c6] at H
   have c6b0 : decide (a1 < 2048) = false := decide_eq_false c6
   clear c6
   have HC12 := sd H
   clear H
   go_enter Tryz.func51, Tryz.ntmps51
   go_upto_region 5 with (fail)
   go_cut [27] (fun v27 wc => ∃ (kq : Nat) (x27_11 : Bool), v27 = .bool x27_11 ∧ Aside0 (spec_appendUTF8.j0 kq l0 a1 x27_11 = some r) ∧ Aside0 (kq ≤ k) ∧ Aside0 (Kd.R (Kd.int .u8) 5 wc w0.heap.size (fun k_ => (P0_ k_ ∨ w.heap.size ≤ k_)) u9000_ l0) ∧ Aside0 (Kept w wc (fun k_ => P0_ k_)) ∧ Aside0 (Below w0.heap.size w0 wc))
   case first =>
    have H := HC12.out
    clear HC12
    replace H := Option.bind_eq_some_iff.mp H
    obtain ⟨f1, i9, H⟩ := H
    try dsimp only at H
    have A13 := sd i9
    clear i9
    by_cases c14 : f1 = true
    ·subst c14
     rw [if_pos rfl] at H
     have H' := sd H
     clear H
     go_wp2_with (first | ((with_reducible refine gate_callee (f := 49) rfl ?_); refine goesL_ (some 29) rfl rfl Tryz.func49 (by kernel_rfl) rfl #[.int .i64 a1] rfl tM ?_; (with_reducible refine (spec_high.calls a1 true _ A13.out).mono ?_); rintro e w' ⟨rfl, ⟨nd, rfl⟩⟩; refine ⟨_, rfl, ?_⟩))
     go_meet
     case rel => exact ⟨_, (true), tF, H', ⟨by first | omega | exact Nat.le_refl _⟩, ⟨uR HO0.out⟩, ⟨tK⟩, ⟨tB⟩⟩
    ·replace c14 := Bool.eq_false_iff.mpr c14
     subst c14
     rw [if_neg (show ¬ (false = true) by decide)] at H
     replace H := Option.bind_eq_some_iff.mp H
     obtain ⟨f0, j1, H⟩ := H
     try dsimp only at H
     have A15 := sd j1
     clear j1
     have H' := sd H
     clear H
     go_wp2_with (first | ((with_reducible refine gate_callee (f := 49) rfl ?_); refine goesL_ (some 29) rfl rfl Tryz.func49 (by kernel_rfl) rfl #[.int .i64 a1] rfl tM ?_; (with_reducible refine (spec_high.calls a1 false _ A13.out).mono ?_); rintro e w' ⟨rfl, ⟨nd, rfl⟩⟩; refine ⟨_, rfl, ?_⟩) | (go_at_call 50; (with_reducible refine (spec_low.calls a1 f0 _ A15.out).mono ?_); rintro e w' ⟨rfl, ⟨nd, rfl⟩⟩))
     go_meet
     case rel => exact ⟨_, (f0), tF, H', ⟨by first | omega | exact Nat.le_refl _⟩, ⟨uR HO0.out⟩, ⟨tK⟩, ⟨tB⟩⟩
   case rest =>
    clear HC12
    obtain ⟨kq, x27_11, rfl, HA, HJ11, HO_0, HK, HB⟩ := hcut
    cases kq with
    | zero => exact absurd HA.out (by simp [spec_appendUTF8.j0])
    | succ kj11 =>
     have H := HA.out
     clear HA
     simp only [spec_appendUTF8.j0] at H
     by_cases c16 : x27_11 = true
     ·subst c16
      rw [if_pos rfl] at H
      obtain ⟨c1, d9⟩ : ∃ y_ : List Int, y_ = (([239, 191, 189] : List Int)) := ⟨_, rfl⟩
      replace H : (if l0.length + c1.length < 140737488355328 then (some (l0 ++ c1)) else (none)) = some r := by first | (rw [d9]; with_reducible exact H) | (have H2_ := (Option.bind_some _ _).symm.trans H; rw [d9]; with_reducible exact H2_) | (have H2_ := (Option.bind_some _ _).symm.trans H; with_reducible exact H2_) | with_reducible exact H | (rw [d9]; exact H) | exact H
      have g7 := sd d9
      clear d9
      by_cases c17 : l0.length + c1.length < 140737488355328
      ·rw [if_pos c17] at H
       have LMc17 := sd c17
       clear c17
       obtain ⟨m0, e0⟩ : ∃ y_ : List Int, y_ = (l0 ++ c1) := ⟨_, rfl⟩
       replace H : (some m0) = some r := by first | (rw [e0]; with_reducible exact H) | (have H2_ := (Option.bind_some _ _).symm.trans H; rw [e0]; with_reducible exact H2_) | (have H2_ := (Option.bind_some _ _).symm.trans H; with_reducible exact H2_) | with_reducible exact H | (rw [e0]; exact H) | exact H
       have j8 := sd e0
       clear e0
       obtain rfl := Option.some.inj H
       go_wp2_with (first | ((with_reducible refine gate_dst (N := 35) rfl ?_); refine Kd.R_lit (Kd.int .u8) _ 5 ?hg (N := 35) ?hd (xs := ([239, 191, 189] : List Int)) (inner := [.int .u8 239, .int .u8 191, .int .u8 189]) (ok := fun _ => True) (okp := fun _ => True) ?hr ?hp (fun _ hk => hk) trivial (Below.refl _ _) (Nat.le_refl _) (by simp) ?_; (case hd => rfl); (case hg => rfl); (case hr => exact tS); (case hp => exact (Reps.one (show Kd.M (Kd.int .u8) _ _ _ 239 [.int .u8 239] from rfl) (Reps.one (show Kd.M (Kd.int .u8) _ _ _ 191 [.int .u8 191] from rfl) (Reps.one (show Kd.M (Kd.int .u8) _ _ _ 189 [.int .u8 189] from rfl) (Reps.none _ _))))); intro m9 w18 ho19 hb hg_ hnew_; clear hg_ hnew_; (first | rw [← g7.out] at ho19 | (simp only [Int.reduceToNat] at ho19; rw [← g7.out] at ho19)); have e1 := sd (Kd.R_lower (Kd.R_new' (Kd.R_newM (M := fun k_ => (P0_ k_ ∨ w.heap.size ≤ k_)) ho19 (by first | exact HK.out.1 | exact (show Kept w _ (fun k_ => P0_ k_) from tK).1) (fun k_ h_ => .inr h_)) (Kd.R_lt (uR HO_0.out))) (below_size tB)); have HO_0 := sd (Kd.R_elder' (uR HO_0.out) (Kd.R_base ho19) hb); have HK := sd (Kept.below (S := (fun k_ => P0_ k_)) tK hb); have HB := sd (below_step tB hb); clear hb ho19; obtain ⟨Ao21, co21, eo21⟩ := Kd.R_slice e1.out; subst eo21) | ((with_reducible refine gate_builtin (b := .append) (xs := #[.tmp 34, .tmp 35]) rfl ?_); at_builtin; refine Kd.R_append_rows (Kd.int .u8) (w0 := w0) w0.heap.size rfl (.tmp 34) (.tmp 35) 44 5 (.int .u8 0) 1 rfl Tryz.underlying44 info5 rfl (by decide) (by omega) u9000_ l0 c1 _ _ _ (fun k_ => (P0_ k_ ∨ w.heap.size ≤ k_) ∧ some k_ ≠ (.slice Ao21 c1.length co21 : Value).ownBlock) (fun _ => False) rfl rfl ?aO ?aR (fun _ _ h => h) (fun _ h => h.elim) ?aF ?aB ?aS ?aL ?_; (case aR => repeat (first | exact (Kd.R_reads' e1.out).2.2 | (with_reducible refine Kd.C_alloc ?_ _) | (with_reducible refine Kd.C_drewN ?_ _) | (with_reducible refine Kd.C_drew ?_))); (case aB => exact tB); (case aF => exact (fun k_ hk => ⟨(.inr (Nat.le_trans (by first | exact HK.out.1 | exact (show Kept w _ (fun k_ => P0_ k_) from tK).1) hk)), Kd.fresh' (Kd.R_lt (uR e1.out)) k_ hk⟩)); (case aO => exact (uR HO_0.out)); (case aS => exact (below_size tB)); (case aL => have := LMc17.out; omega); intro n0 w20 ho hb hg hat; rw [← j8.out] at ho; have e1 := sd (Kd.R_after (ok := (fun k_ => (P0_ k_ ∨ w.heap.size ≤ k_))) (Kd.R_mono (uR e1.out) (fun _ hk => ⟨hk.1.1, hk.2⟩)) hg hat); have HB := sd (hb); have HK := sd (Kept.of_grown (S := (fun k_ => P0_ k_)) hg tK (fun k_ e_ => (HO_0.out.1 k_ e_).1)); have j9 := sd (ho); clear ho hb hg hat))
       go_ret
       exact ⟨_, tE, Kd.R_mono (uR j9.out) (fun _ hk => hk.1), tB, tK⟩
      ·rw [if_neg c17] at H
       exact absurd H (by simp)
     ·replace c16 := Bool.eq_false_iff.mpr c16
      subst c16
      rw [if_neg (show ¬ (false = true) by decide)] at H
      by_cases c22 : a1 < 65536
      ·rw [if_pos c22] at H
       have c22b0 : decide (a1 < 65536) = true := decide_eq_true c22
       clear c22
       obtain ⟨c9, e2⟩ : ∃ y_ : List Int, y_ = (([(wrap64 (224 + (wrap64 (Int.tdiv a1 4096)))) % 256, (wrap64 (128 + (Int.tmod (wrap64 (Int.tdiv a1 64)) 64))) % 256, (wrap64 (128 + (Int.tmod a1 64))) % 256] : List Int)) := ⟨_, rfl⟩
       replace H : (if l0.length + c9.length < 140737488355328 then (some (l0 ++ c9)) else (none)) = some r := by first | (rw [e2]; with_reducible exact H) | (have H2_ := (Option.bind_some _ _).symm.trans H; rw [e2]; with_reducible exact H2_) | (have H2_ := (Option.bind_some _ _).symm.trans H; with_reducible exact H2_) | with_reducible exact H | (rw [e2]; exact H) | exact H
       have g8 := sd e2
       clear e2
       by_cases c23 : l0.length + c9.length < 140737488355328
       ·rw [if_pos c23] at H
        have LMc23 := sd c23
        clear c23
        obtain ⟨m1, e3⟩ : ∃ y_ : List Int, y_ = (l0 ++ c9) := ⟨_, rfl⟩
        replace H : (some m1) = some r := by first | (rw [e3]; with_reducible exact H) | (have H2_ := (Option.bind_some _ _).symm.trans H; rw [e3]; with_reducible exact H2_) | (have H2_ := (Option.bind_some _ _).symm.trans H; with_reducible exact H2_) | with_reducible exact H | (rw [e3]; exact H) | exact H
        have l1 := sd e3
        clear e3
        obtain rfl := Option.some.inj H
        go_wp2_with (first | ((with_reducible refine gate_dst (N := 54) rfl ?_); refine Kd.R_lit (Kd.int .u8) _ 5 ?hg (N := 54) ?hd (xs := ([(wrap64 (224 + (wrap64 (Int.tdiv a1 4096)))) % 256, (wrap64 (128 + (Int.tmod (wrap64 (Int.tdiv a1 64)) 64))) % 256, (wrap64 (128 + (Int.tmod a1 64))) % 256] : List Int)) (inner := [.int .u8 ((wrap64 (224 + (wrap64 (Int.tdiv a1 4096)))) % 256), .int .u8 ((wrap64 (128 + (Int.tmod (wrap64 (Int.tdiv a1 64)) 64))) % 256), .int .u8 ((wrap64 (128 + (Int.tmod a1 64))) % 256)]) (ok := fun _ => True) (okp := fun _ => True) ?hr ?hp (fun _ hk => hk) trivial (Below.refl _ _) (Nat.le_refl _) (by simp) ?_; (case hd => rfl); (case hg => rfl); (case hr => exact tS); (case hp => exact (Reps.one (show Kd.M (Kd.int .u8) _ _ _ ((wrap64 (224 + (wrap64 (Int.tdiv a1 4096)))) % 256) [.int .u8 ((wrap64 (224 + (wrap64 (Int.tdiv a1 4096)))) % 256)] from rfl) (Reps.one (show Kd.M (Kd.int .u8) _ _ _ ((wrap64 (128 + (Int.tmod (wrap64 (Int.tdiv a1 64)) 64))) % 256) [.int .u8 ((wrap64 (128 + (Int.tmod (wrap64 (Int.tdiv a1 64)) 64))) % 256)] from rfl) (Reps.one (show Kd.M (Kd.int .u8) _ _ _ ((wrap64 (128 + (Int.tmod a1 64))) % 256) [.int .u8 ((wrap64 (128 + (Int.tmod a1 64))) % 256)] from rfl) (Reps.none _ _))))); intro n1 w24 ho25 hb hg_ hnew_; clear hg_ hnew_; (first | rw [← g8.out] at ho25 | (simp only [Int.reduceToNat] at ho25; rw [← g8.out] at ho25)); have e4 := sd (Kd.R_lower (Kd.R_new' (Kd.R_newM (M := fun k_ => (P0_ k_ ∨ w.heap.size ≤ k_)) ho25 (by first | exact HK.out.1 | exact (show Kept w _ (fun k_ => P0_ k_) from tK).1) (fun k_ h_ => .inr h_)) (Kd.R_lt (uR HO_0.out))) (below_size tB)); have HO_0 := sd (Kd.R_elder' (uR HO_0.out) (Kd.R_base ho25) hb); have HK := sd (Kept.below (S := (fun k_ => P0_ k_)) tK hb); have HB := sd (below_step tB hb); clear hb ho25; obtain ⟨Ao27, co27, eo27⟩ := Kd.R_slice e4.out; subst eo27) | ((with_reducible refine gate_builtin (b := .append) (xs := #[.tmp 40, .tmp 54]) rfl ?_); at_builtin; refine Kd.R_append_rows (Kd.int .u8) (w0 := w0) w0.heap.size rfl (.tmp 40) (.tmp 54) 44 5 (.int .u8 0) 1 rfl Tryz.underlying44 info5 rfl (by decide) (by omega) u9000_ l0 c9 _ _ _ (fun k_ => (P0_ k_ ∨ w.heap.size ≤ k_) ∧ some k_ ≠ (.slice Ao27 c9.length co27 : Value).ownBlock) (fun _ => False) rfl rfl ?aO ?aR (fun _ _ h => h) (fun _ h => h.elim) ?aF ?aB ?aS ?aL ?_; (case aR => repeat (first | exact (Kd.R_reads' e4.out).2.2 | (with_reducible refine Kd.C_alloc ?_ _) | (with_reducible refine Kd.C_drewN ?_ _) | (with_reducible refine Kd.C_drew ?_))); (case aB => exact tB); (case aF => exact (fun k_ hk => ⟨(.inr (Nat.le_trans (by first | exact HK.out.1 | exact (show Kept w _ (fun k_ => P0_ k_) from tK).1) hk)), Kd.fresh' (Kd.R_lt (uR e4.out)) k_ hk⟩)); (case aO => exact (uR HO_0.out)); (case aS => exact (below_size tB)); (case aL => have := LMc23.out; omega); intro n2 w26 ho hb hg hat; rw [← l1.out] at ho; have e4 := sd (Kd.R_after (ok := (fun k_ => (P0_ k_ ∨ w.heap.size ≤ k_))) (Kd.R_mono (uR e4.out) (fun _ hk => ⟨hk.1.1, hk.2⟩)) hg hat); have HB := sd (hb); have HK := sd (Kept.of_grown (S := (fun k_ => P0_ k_)) hg tK (fun k_ e_ => (HO_0.out.1 k_ e_).1)); have l2 := sd (ho); clear ho hb hg hat))
        go_ret
        exact ⟨_, tE, Kd.R_mono (uR l2.out) (fun _ hk => hk.1), tB, tK⟩
       ·rw [if_neg c23] at H
        exact absurd H (by simp)
      ·rw [if_neg c22] at H
       have c22b0 : decide (a1 < 65536) = false := decide_eq_false c22
       clear c22
       obtain ⟨d0, e5⟩ : ∃ y_ : List Int, y_ = (([(wrap64 (240 + (wrap64 (Int.tdiv a1 262144)))) % 256, (wrap64 (128 + (Int.tmod (wrap64 (Int.tdiv a1 4096)) 64))) % 256, (wrap64 (128 + (Int.tmod (wrap64 (Int.tdiv a1 64)) 64))) % 256, (wrap64 (128 + (Int.tmod a1 64))) % 256] : List Int)) := ⟨_, rfl⟩
       replace H : (if l0.length + d0.length < 140737488355328 then (some (l0 ++ d0)) else (none)) = some r := by first | (rw [e5]; with_reducible exact H) | (have H2_ := (Option.bind_some _ _).symm.trans H; rw [e5]; with_reducible exact H2_) | (have H2_ := (Option.bind_some _ _).symm.trans H; with_reducible exact H2_) | with_reducible exact H | (rw [e5]; exact H) | exact H
       have g9 := sd e5
       clear e5
       by_cases c28 : l0.length + d0.length < 140737488355328
       ·rw [if_pos c28] at H
        have LMc28 := sd c28
        clear c28
        obtain ⟨m3, e6⟩ : ∃ y_ : List Int, y_ = (l0 ++ d0) := ⟨_, rfl⟩
        replace H : (some m3) = some r := by first | (rw [e6]; with_reducible exact H) | (have H2_ := (Option.bind_some _ _).symm.trans H; rw [e6]; with_reducible exact H2_) | (have H2_ := (Option.bind_some _ _).symm.trans H; with_reducible exact H2_) | with_reducible exact H | (rw [e6]; exact H) | exact H
        have l3 := sd e6
        clear e6
        obtain rfl := Option.some.inj H
        go_wp2_with (first | ((with_reducible refine gate_dst (N := 75) rfl ?_); refine Kd.R_lit (Kd.int .u8) _ 5 ?hg (N := 75) ?hd (xs := ([(wrap64 (240 + (wrap64 (Int.tdiv a1 262144)))) % 256, (wrap64 (128 + (Int.tmod (wrap64 (Int.tdiv a1 4096)) 64))) % 256, (wrap64 (128 + (Int.tmod (wrap64 (Int.tdiv a1 64)) 64))) % 256, (wrap64 (128 + (Int.tmod a1 64))) % 256] : List Int)) (inner := [.int .u8 ((wrap64 (240 + (wrap64 (Int.tdiv a1 262144)))) % 256), .int .u8 ((wrap64 (128 + (Int.tmod (wrap64 (Int.tdiv a1 4096)) 64))) % 256), .int .u8 ((wrap64 (128 + (Int.tmod (wrap64 (Int.tdiv a1 64)) 64))) % 256), .int .u8 ((wrap64 (128 + (Int.tmod a1 64))) % 256)]) (ok := fun _ => True) (okp := fun _ => True) ?hr ?hp (fun _ hk => hk) trivial (Below.refl _ _) (Nat.le_refl _) (by simp) ?_; (case hd => rfl); (case hg => rfl); (case hr => exact tS); (case hp => exact (Reps.one (show Kd.M (Kd.int .u8) _ _ _ ((wrap64 (240 + (wrap64 (Int.tdiv a1 262144)))) % 256) [.int .u8 ((wrap64 (240 + (wrap64 (Int.tdiv a1 262144)))) % 256)] from rfl) (Reps.one (show Kd.M (Kd.int .u8) _ _ _ ((wrap64 (128 + (Int.tmod (wrap64 (Int.tdiv a1 4096)) 64))) % 256) [.int .u8 ((wrap64 (128 + (Int.tmod (wrap64 (Int.tdiv a1 4096)) 64))) % 256)] from rfl) (Reps.one (show Kd.M (Kd.int .u8) _ _ _ ((wrap64 (128 + (Int.tmod (wrap64 (Int.tdiv a1 64)) 64))) % 256) [.int .u8 ((wrap64 (128 + (Int.tmod (wrap64 (Int.tdiv a1 64)) 64))) % 256)] from rfl) (Reps.one (show Kd.M (Kd.int .u8) _ _ _ ((wrap64 (128 + (Int.tmod a1 64))) % 256) [.int .u8 ((wrap64 (128 + (Int.tmod a1 64))) % 256)] from rfl) (Reps.none _ _)))))); intro n3 w29 ho30 hb hg_ hnew_; clear hg_ hnew_; (first | rw [← g9.out] at ho30 | (simp only [Int.reduceToNat] at ho30; rw [← g9.out] at ho30)); have e7 := sd (Kd.R_lower (Kd.R_new' (Kd.R_newM (M := fun k_ => (P0_ k_ ∨ w.heap.size ≤ k_)) ho30 (by first | exact HK.out.1 | exact (show Kept w _ (fun k_ => P0_ k_) from tK).1) (fun k_ h_ => .inr h_)) (Kd.R_lt (uR HO_0.out))) (below_size tB)); have HO_0 := sd (Kd.R_elder' (uR HO_0.out) (Kd.R_base ho30) hb); have HK := sd (Kept.below (S := (fun k_ => P0_ k_)) tK hb); have HB := sd (below_step tB hb); clear hb ho30; obtain ⟨Ao32, co32, eo32⟩ := Kd.R_slice e7.out; subst eo32) | ((with_reducible refine gate_builtin (b := .append) (xs := #[.tmp 56, .tmp 75]) rfl ?_); at_builtin; refine Kd.R_append_rows (Kd.int .u8) (w0 := w0) w0.heap.size rfl (.tmp 56) (.tmp 75) 44 5 (.int .u8 0) 1 rfl Tryz.underlying44 info5 rfl (by decide) (by omega) u9000_ l0 d0 _ _ _ (fun k_ => (P0_ k_ ∨ w.heap.size ≤ k_) ∧ some k_ ≠ (.slice Ao32 d0.length co32 : Value).ownBlock) (fun _ => False) rfl rfl ?aO ?aR (fun _ _ h => h) (fun _ h => h.elim) ?aF ?aB ?aS ?aL ?_; (case aR => repeat (first | exact (Kd.R_reads' e7.out).2.2 | (with_reducible refine Kd.C_alloc ?_ _) | (with_reducible refine Kd.C_drewN ?_ _) | (with_reducible refine Kd.C_drew ?_))); (case aB => exact tB); (case aF => exact (fun k_ hk => ⟨(.inr (Nat.le_trans (by first | exact HK.out.1 | exact (show Kept w _ (fun k_ => P0_ k_) from tK).1) hk)), Kd.fresh' (Kd.R_lt (uR e7.out)) k_ hk⟩)); (case aO => exact (uR HO_0.out)); (case aS => exact (below_size tB)); (case aL => have := LMc28.out; omega); intro n4 w31 ho hb hg hat; rw [← l3.out] at ho; have e7 := sd (Kd.R_after (ok := (fun k_ => (P0_ k_ ∨ w.heap.size ≤ k_))) (Kd.R_mono (uR e7.out) (fun _ hk => ⟨hk.1.1, hk.2⟩)) hg hat); have HB := sd (hb); have HK := sd (Kept.of_grown (S := (fun k_ => P0_ k_)) hg tK (fun k_ e_ => (HO_0.out.1 k_ e_).1)); have l4 := sd (ho); clear ho hb hg hat))
        go_ret
        exact ⟨_, tE, Kd.R_mono (uR l4.out) (fun _ hk => hk.1), tB, tK⟩
       ·rw [if_neg c28] at H
        exact absurd H (by simp)
end Go.Proofs.YthgpfljhmhkaiacGreatDoor.PFnJrTypedMisses
