/- Walks of the functions that the law calls, printed by program and rewritten. -/
import Derived.Test.YtaihmpdhaikfkaaGreatDoorV0
import Derived.Test.YtaihmpdhaikfkaaGreatDoorV1
import Derived.Test.YtaihmpdhaikfkaaGreatDoorV2
import Derived.Test.YtaihmpdhaikfkaaGreatDoorV3
import Derived.Test.YtaihmpdhaikfkaaGreatDoorV5
set_option linter.all false
namespace Go.Proofs.YtaihmpdhaikfkaaGreatDoor.PFnFjFloat
open Go.RowKit Go.Proofs.YtaihmpdhaikfkaaGreatDoorW.PrintWords Go.Proofs.YtaihmpdhaikfkaaGreatDoorW.PrintLast Go.Proofs.YtaihmpdhaikfkaaGreatDoorW.PrintMore
attribute [local go_sem] max2_int min2_int max_two min_two max_three min_three max_four min_four
/-! ### spec_Places: function 22 -/
def spec_Places.f (k : Nat) (a0 : ByteArray) : Option (Int × Int × Int × (List (S90)) × (List (S60)) × Bool) := (spec_reader_blanks.f k a0 0).bind fun d5 => ((spec_reader_value.f k d5.1 d5.2).bind fun a7 => (if a7.2.2.2.2.2.1 = true then ((spec_reader_blanks.f k a7.2.2.2.2.2.2.1 a7.2.2.2.2.2.2.2).bind fun f5 => (if f5.2 = (a0.size : Int) then (some (a7.1, a7.2.1, a7.2.2.1, a7.2.2.2.1, a7.2.2.2.2.1, true)) else (some (0, 0, 0, ([] : List (S90)), ([] : List (S60)), false)))) else (some (0, 0, 0, ([] : List (S90)), ([] : List (S60)), false))))
theorem spec_Places.mono : ∀ a0 k, LeO (spec_Places.f k a0) (spec_Places.f (k + 1) a0) := by
 intro a0 k
 unfold spec_Places.f
 repeat' first
   | (with_reducible exact spec_reader_blanks.mono _ _ _)
   | (with_reducible exact spec_reader_value.mono _ _ _)
   | (with_reducible exact LeO.refl _)
   | (with_reducible exact LeO.none _)
   | (with_reducible refine LeO.ite ?_ ?_)
   | (with_reducible refine LeO.bind ?_ (fun _ => ?_))
   | exact spec_reader_blanks.mono _ _ _
   | exact spec_reader_value.mono _ _ _
   | exact LeO.none _
   | refine LeO.ite ?_ ?_
   | refine LeO.bind ?_ (fun _ => ?_)
set_option maxHeartbeats 8000000 in
set_option maxRecDepth 100000 in
theorem spec_Places.calls (k : Nat) (a0 : ByteArray) (r1 : Int) (r2 : Int) (r3 : Int) (r4 : List (S90)) (r5 : List (S60)) (r6 : Bool) (w : World) (h : spec_Places.f k a0 = some (r1, r2, r3, r4, r5, r6)) :
  Calls Tryz.prog 22 #[.string a0] w fun e w' => ∃ v3_ v4_ : Value, e = .returned (.tuple #[.agg #[.int .i64 r1, .int .i64 r2, .int .i64 r3, v3_, v4_], .bool r6]) ∧ Kd.R k90 90 w' w.heap.size (fun _ => True) v3_ r4 ∧ Kd.R k60 60 w' w.heap.size (fun k_ => some k_ ≠ (v3_ : Value).ownBlock) v4_ r5 ∧ Below w.heap.size w w' := by
 have hu60 := Tryz.underlying60
 have hu70 := Tryz.underlying70
 have HB := sd (Below.refl w.heap.size w)
 have H : ((spec_reader_blanks.f k a0 0).bind fun d5 => ((spec_reader_value.f k d5.1 d5.2).bind fun a7 => (if a7.2.2.2.2.2.1 = true then ((spec_reader_blanks.f k a7.2.2.2.2.2.2.1 a7.2.2.2.2.2.2.2).bind fun f5 => (if f5.2 = (a0.size : Int) then (some (a7.1, a7.2.1, a7.2.2.1, a7.2.2.2.1, a7.2.2.2.2.1, true)) else (some (0, 0, 0, ([] : List (S90)), ([] : List (S60)), false)))) else (some (0, 0, 0, ([] : List (S90)), ([] : List (S60)), false))))) = some (r1, r2, r3, r4, r5, r6) := h
 clear h
 replace H := Option.bind_eq_some_iff.mp H
 obtain ⟨⟨f1, f2⟩, A20, H⟩ := H
 try dsimp only at H
 have A2 := sd A20
 clear A20
 replace H := Option.bind_eq_some_iff.mp H
 obtain ⟨⟨f6, f7, f8, f9, g0, n1, b2, b3⟩, A30, H⟩ := H
 try dsimp only at H
 have A3 := sd A30
 clear A30
 by_cases c4 : n1 = true
 ·subst c4
  rw [if_pos rfl] at H
  replace H := Option.bind_eq_some_iff.mp H
  obtain ⟨⟨i6, d4⟩, A50, H⟩ := H
  try dsimp only at H
  have A5 := sd A50
  clear A50
  by_cases c6 : d4 = (a0.size : Int)
  ·rw [if_pos c6] at H
   have c6b0 : (d4 == (a0.size : Int)) = true := beq_iff_eq.mpr c6
   have c6b1 : (d4 != (a0.size : Int)) = false := bne_eq_false_iff_eq.mpr c6
   clear c6
   simp only [Option.some.injEq, Prod.mk.injEq] at H
   obtain ⟨rfl, rfl, rfl, rfl, rfl, rfl⟩ := H
   go_enter Tryz.func22, Tryz.ntmps22
   go_wp2_with (first | ((with_reducible refine gate_dst (N := 2) rfl ?_); refine box_event (by rfl) (N := 2) (by rfl) (cs := #[.int .i64 0, .int .i64 0, .int .i64 0, .slice none 0 0, .slice none 0 0]) (t := 60) tS ?_; intro a2 hg w7 hbox hb; have a5 := sd (hbox); have g8 := sd (leB hg tB); have g9 := sd (leB hg tB); have HB := sd (below_step tB hb); clear hb hbox hg) | ((with_reducible refine gate_dst (N := 4) rfl ?_); refine box_event ?hg (N := 4) ?hd (cs := #[.string (⟨#[]⟩ : ByteArray), .int .i64 0]) (t := 70) ?hr ?_; (case hd => rfl); (case hg => rfl); (case hr => exact tS); intro a3 hg w8 hbox hb; have a5 := sd (blk_below (g := a2) tL hb); have a4 := sd (neL hg (blk_lt (g := a2) tL)); have b5 := sd (neR hg (blk_lt (g := a2) tL)); have a6 := sd ((show IsS70 w w8 a3 (⟨#[]⟩ : ByteArray) 0 from ⟨hbox, (by rw [hg]; exact (below_size tB) : w.heap.size ≤ a3)⟩)); have HB := sd (below_step tB hb); clear hb hbox hg; obtain ⟨z0, z1, y0, y1⟩ := IsS70.cells a6.out) | ((with_reducible refine gate_callee (f := 36) rfl ?_); refine goesL_ (some 9) rfl rfl Tryz.func36 (by kernel_rfl) rfl #[.pointer (some ⟨a3, 0, none⟩)] rfl tM ?_; (with_reducible refine (spec_reader_blanks.calls k a3 a0 0 f1 f2 w _ ?_ ?_ A2.out).mono ?_); exact tJ; exact tB; rintro e w10 ⟨rfl, hi, hb, hk⟩; refine ⟨_, rfl, ?_⟩; have a5 := sd (KeepBut.blk hk (g' := a2) tC a4.out (by simp)); have HB := sd (hb); have a6 := sd (hi); clear hb hk hi) | ((with_reducible refine gate_callee (f := 37) rfl ?_); refine goesL_ (some 11) rfl rfl Tryz.func37 (by kernel_rfl) rfl #[.pointer (some ⟨a3, 0, none⟩)] rfl tM ?_; (with_reducible refine (spec_reader_value.calls k a3 f1 f2 f6 f7 f8 f9 g0 true b2 b3 w _ ?_ ?_ A3.out).mono ?_); exact tJ; exact tB; rintro e w11 ⟨i7, i8, rfl, ho0, ho1, hi, hb, hk⟩; refine ⟨_, rfl, ?_⟩; have a5 := sd (KeepBut.blk hk (g' := a2) tL a4.out (by simp)); have a8 := sd (Kd.R_lower ho0 (below_size tB)); have a9 := sd (Kd.R_lower (Kd.R_newB ho1 (g := a2) tL) (below_size tB)); have HB := sd (hb); have a6 := sd (hi); clear hb hk hi ho0 ho1) | ((with_reducible refine gate_dst (N := 5) rfl ?_); refine box_event (by rfl) (N := 5) (by rfl) (cs := #[.int .i64 0, .int .i64 0, .int .i64 0, .slice none 0 0, .slice none 0 0]) (t := 60) tS ?_; intro c0 hg w12 hbox hb; have a8 := sd (Kd.R_below (uR a8.out) hb); have a9 := sd (Kd.R_below (Kd.R_elderB (uR a9.out) c0 (Nat.le_of_eq hg.symm)) hb); have a5 := sd (blk_below (g := a2) tL hb); have b4 := sd (hbox); have i0 := sd (leB hg tB); have i1 := sd (leB hg tB); have HB := sd (below_step tB hb); have b6 := sd (neL hg (blk_lt (g := a2) tL)); have b7 := sd (neR hg (blk_lt (g := a2) tL)); have b8 := sd (neL hg (IsS70.lt (show IsS70 w _ a3 b2 b3 from tJ))); have b0 := sd (neR hg (IsS70.lt (show IsS70 w _ a3 b2 b3 from tJ))); have a6 := sd (IsS70.below tJ hb); clear hb hbox hg; have hnb13 := b7.out; have hnc13 := b6.out; have hnb14 := b0.out; have hnc14 := b8.out; obtain ⟨z0, z1, z2, z3, z4, y0, y1, y2, y3, y4⟩ := blk5 b4.out; obtain ⟨Ao16, co16, eo16⟩ := Kd.R_slice a8.out; subst eo16; obtain ⟨Ao17, co17, eo17⟩ := Kd.R_slice a9.out; subst eo17) | ((with_reducible refine gate_callee (f := 36) rfl ?_); refine goesL_ (some 17) rfl rfl Tryz.func36 (by kernel_rfl) rfl #[.pointer (some ⟨a3, 0, none⟩)] rfl tM ?_; (with_reducible refine (spec_reader_blanks.calls k a3 b2 b3 i6 d4 w _ ?_ ?_ A5.out).mono ?_); exact tJ; exact tB; rintro e w18 ⟨rfl, hi, hb, hk⟩; refine ⟨_, rfl, ?_⟩; have a5 := sd (KeepBut.blk hk (g' := a2) tC a4.out (by simp)); have a8 := sd (Kd.R_mono (Kd.R_keep (IsS70.apart (show IsS70 w _ a3 b2 b3 from tJ) (Kd.R_mono (uR (Kd.R_types a8.out b4.out (by decide))) (fun _ h_ => h_.1)) (by decide)) hk (fun _ h => h.2)) (fun _ h => h.1)); have a9 := sd (Kd.R_mono (Kd.R_keep (IsS70.apart (show IsS70 w _ a3 b2 b3 from tJ) (Kd.R_mono (uR (Kd.R_mono a9.out (fun k_ hk => (⟨hk, hk.2⟩ : _ ∧ k_ ≠ c0)))) (fun _ h_ => h_.1)) (by decide)) hk (fun _ h => h.2)) (fun _ h => h.1)); have b4 := sd (KeepBut.blk hk (g' := c0) tC b0.out (by simp)); have HB := sd (hb); have a6 := sd (hi); clear hb hk hi; obtain ⟨z0, z1, y0, y1⟩ := IsS70.cells a6.out; obtain ⟨z0, z1, z2, z3, z4, y0, y1, y2, y3, y4⟩ := blk5 b4.out; have hnb21 := a4.out; have hnc21 := b5.out; obtain ⟨z0, z1, z2, z3, z4, y0, y1, y2, y3, y4⟩ := blk5 a5.out))
   refine bodyPost_ret (results_ct rfl _ _ a2 60 #[.int .i64 f6, .int .i64 f7, .int .i64 f8, .slice Ao16 f9.length co16, .slice Ao17 g0.length co17] (0, 0) _ rfl tC Tryz.underlying60 rfl (by kernel_rfl)) rfl ?_
   exact ⟨_, _, tE, Kd.R_mono (uR (Kd.R_types a8.out a5.out (by decide))) (fun _ hk => trivial), Kd.R_mono (uR (Kd.R_mono a9.out (fun k_ hk => (⟨hk, hk.1.2⟩ : _ ∧ k_ ≠ a2)))) (fun _ hk => hk.1.1.1), tB⟩
  ·rw [if_neg c6] at H
   have c6b0 : (d4 == (a0.size : Int)) = false := beq_eq_false_iff_ne.mpr c6
   have c6b1 : (d4 != (a0.size : Int)) = true := bne_iff_ne.mpr c6
   simp only [Option.some.injEq, Prod.mk.injEq] at H
   obtain ⟨rfl, rfl, rfl, rfl, rfl, rfl⟩ := H
   go_enter Tryz.func22, Tryz.ntmps22
   go_wp2_with (first | ((with_reducible refine gate_dst (N := 2) rfl ?_); refine box_event (by rfl) (N := 2) (by rfl) (cs := #[.int .i64 0, .int .i64 0, .int .i64 0, .slice none 0 0, .slice none 0 0]) (t := 60) tS ?_; intro a2 hg w23 hbox hb; have a5 := sd (hbox); have g8 := sd (leB hg tB); have g9 := sd (leB hg tB); have HB := sd (below_step tB hb); clear hb hbox hg) | ((with_reducible refine gate_dst (N := 4) rfl ?_); refine box_event ?hg (N := 4) ?hd (cs := #[.string (⟨#[]⟩ : ByteArray), .int .i64 0]) (t := 70) ?hr ?_; (case hd => rfl); (case hg => rfl); (case hr => exact tS); intro a3 hg w24 hbox hb; have a5 := sd (blk_below (g := a2) tL hb); have a4 := sd (neL hg (blk_lt (g := a2) tL)); have b5 := sd (neR hg (blk_lt (g := a2) tL)); have a6 := sd ((show IsS70 w w24 a3 (⟨#[]⟩ : ByteArray) 0 from ⟨hbox, (by rw [hg]; exact (below_size tB) : w.heap.size ≤ a3)⟩)); have HB := sd (below_step tB hb); clear hb hbox hg; obtain ⟨z0, z1, y0, y1⟩ := IsS70.cells a6.out) | ((with_reducible refine gate_callee (f := 36) rfl ?_); refine goesL_ (some 9) rfl rfl Tryz.func36 (by kernel_rfl) rfl #[.pointer (some ⟨a3, 0, none⟩)] rfl tM ?_; (with_reducible refine (spec_reader_blanks.calls k a3 a0 0 f1 f2 w _ ?_ ?_ A2.out).mono ?_); exact tJ; exact tB; rintro e w26 ⟨rfl, hi, hb, hk⟩; refine ⟨_, rfl, ?_⟩; have a5 := sd (KeepBut.blk hk (g' := a2) tC a4.out (by simp)); have HB := sd (hb); have a6 := sd (hi); clear hb hk hi) | ((with_reducible refine gate_callee (f := 37) rfl ?_); refine goesL_ (some 11) rfl rfl Tryz.func37 (by kernel_rfl) rfl #[.pointer (some ⟨a3, 0, none⟩)] rfl tM ?_; (with_reducible refine (spec_reader_value.calls k a3 f1 f2 f6 f7 f8 f9 g0 true b2 b3 w _ ?_ ?_ A3.out).mono ?_); exact tJ; exact tB; rintro e w27 ⟨i7, i8, rfl, ho0, ho1, hi, hb, hk⟩; refine ⟨_, rfl, ?_⟩; have a5 := sd (KeepBut.blk hk (g' := a2) tL a4.out (by simp)); have a8 := sd (Kd.R_lower ho0 (below_size tB)); have a9 := sd (Kd.R_lower (Kd.R_newB ho1 (g := a2) tL) (below_size tB)); have HB := sd (hb); have a6 := sd (hi); clear hb hk hi ho0 ho1) | ((with_reducible refine gate_dst (N := 5) rfl ?_); refine box_event (by rfl) (N := 5) (by rfl) (cs := #[.int .i64 0, .int .i64 0, .int .i64 0, .slice none 0 0, .slice none 0 0]) (t := 60) tS ?_; intro c0 hg w28 hbox hb; have a8 := sd (Kd.R_below (uR a8.out) hb); have a9 := sd (Kd.R_below (Kd.R_elderB (uR a9.out) c0 (Nat.le_of_eq hg.symm)) hb); have a5 := sd (blk_below (g := a2) tL hb); have b4 := sd (hbox); have i0 := sd (leB hg tB); have i1 := sd (leB hg tB); have HB := sd (below_step tB hb); have b6 := sd (neL hg (blk_lt (g := a2) tL)); have b7 := sd (neR hg (blk_lt (g := a2) tL)); have b8 := sd (neL hg (IsS70.lt (show IsS70 w _ a3 b2 b3 from tJ))); have b0 := sd (neR hg (IsS70.lt (show IsS70 w _ a3 b2 b3 from tJ))); have a6 := sd (IsS70.below tJ hb); clear hb hbox hg; have hnb29 := b7.out; have hnc29 := b6.out; have hnb30 := b0.out; have hnc30 := b8.out; obtain ⟨z0, z1, z2, z3, z4, y0, y1, y2, y3, y4⟩ := blk5 b4.out; obtain ⟨Ao32, co32, eo32⟩ := Kd.R_slice a8.out; subst eo32; obtain ⟨Ao33, co33, eo33⟩ := Kd.R_slice a9.out; subst eo33) | ((with_reducible refine gate_callee (f := 36) rfl ?_); refine goesL_ (some 17) rfl rfl Tryz.func36 (by kernel_rfl) rfl #[.pointer (some ⟨a3, 0, none⟩)] rfl tM ?_; (with_reducible refine (spec_reader_blanks.calls k a3 b2 b3 i6 d4 w _ ?_ ?_ A5.out).mono ?_); exact tJ; exact tB; rintro e w34 ⟨rfl, hi, hb, hk⟩; refine ⟨_, rfl, ?_⟩; have a5 := sd (KeepBut.blk hk (g' := a2) tC a4.out (by simp)); have a8 := sd (Kd.R_mono (Kd.R_keep (IsS70.apart (show IsS70 w _ a3 b2 b3 from tJ) (Kd.R_mono (uR (Kd.R_types a8.out b4.out (by decide))) (fun _ h_ => h_.1)) (by decide)) hk (fun _ h => h.2)) (fun _ h => h.1)); have a9 := sd (Kd.R_mono (Kd.R_keep (IsS70.apart (show IsS70 w _ a3 b2 b3 from tJ) (Kd.R_mono (uR (Kd.R_mono a9.out (fun k_ hk => (⟨hk, hk.2⟩ : _ ∧ k_ ≠ c0)))) (fun _ h_ => h_.1)) (by decide)) hk (fun _ h => h.2)) (fun _ h => h.1)); have b4 := sd (KeepBut.blk hk (g' := c0) tC b0.out (by simp)); have HB := sd (hb); have a6 := sd (hi); clear hb hk hi; obtain ⟨z0, z1, y0, y1⟩ := IsS70.cells a6.out; have hnb36 := a4.out; have hnc36 := b5.out; obtain ⟨z0, z1, z2, z3, z4, y0, y1, y2, y3, y4⟩ := blk5 a5.out))
   refine bodyPost_ret (results_ct rfl _ _ a2 60 #[.int .i64 0, .int .i64 0, .int .i64 0, .slice none 0 0, .slice none 0 0] (0, 0) _ rfl tC Tryz.underlying60 rfl (by kernel_rfl)) rfl ?_
   exact ⟨_, _, tE, tN, tN, tB⟩
 ·replace c4 := Bool.eq_false_iff.mpr c4
  subst c4
  rw [if_neg (show ¬ (false = true) by decide)] at H
  simp only [Option.some.injEq, Prod.mk.injEq] at H
  obtain ⟨rfl, rfl, rfl, rfl, rfl, rfl⟩ := H
  go_enter Tryz.func22, Tryz.ntmps22
  go_wp2_with (first | ((with_reducible refine gate_dst (N := 2) rfl ?_); refine box_event (by rfl) (N := 2) (by rfl) (cs := #[.int .i64 0, .int .i64 0, .int .i64 0, .slice none 0 0, .slice none 0 0]) (t := 60) tS ?_; intro a2 hg w38 hbox hb; have a5 := sd (hbox); have g8 := sd (leB hg tB); have g9 := sd (leB hg tB); have HB := sd (below_step tB hb); clear hb hbox hg) | ((with_reducible refine gate_dst (N := 4) rfl ?_); refine box_event ?hg (N := 4) ?hd (cs := #[.string (⟨#[]⟩ : ByteArray), .int .i64 0]) (t := 70) ?hr ?_; (case hd => rfl); (case hg => rfl); (case hr => exact tS); intro a3 hg w39 hbox hb; have a5 := sd (blk_below (g := a2) tL hb); have a4 := sd (neL hg (blk_lt (g := a2) tL)); have b5 := sd (neR hg (blk_lt (g := a2) tL)); have a6 := sd ((show IsS70 w w39 a3 (⟨#[]⟩ : ByteArray) 0 from ⟨hbox, (by rw [hg]; exact (below_size tB) : w.heap.size ≤ a3)⟩)); have HB := sd (below_step tB hb); clear hb hbox hg; obtain ⟨z0, z1, y0, y1⟩ := IsS70.cells a6.out) | ((with_reducible refine gate_callee (f := 36) rfl ?_); refine goesL_ (some 9) rfl rfl Tryz.func36 (by kernel_rfl) rfl #[.pointer (some ⟨a3, 0, none⟩)] rfl tM ?_; (with_reducible refine (spec_reader_blanks.calls k a3 a0 0 f1 f2 w _ ?_ ?_ A2.out).mono ?_); exact tJ; exact tB; rintro e w41 ⟨rfl, hi, hb, hk⟩; refine ⟨_, rfl, ?_⟩; have a5 := sd (KeepBut.blk hk (g' := a2) tC a4.out (by simp)); have HB := sd (hb); have a6 := sd (hi); clear hb hk hi) | ((with_reducible refine gate_callee (f := 37) rfl ?_); refine goesL_ (some 11) rfl rfl Tryz.func37 (by kernel_rfl) rfl #[.pointer (some ⟨a3, 0, none⟩)] rfl tM ?_; (with_reducible refine (spec_reader_value.calls k a3 f1 f2 f6 f7 f8 f9 g0 false b2 b3 w _ ?_ ?_ A3.out).mono ?_); exact tJ; exact tB; rintro e w42 ⟨i7, i8, rfl, ho0, ho1, hi, hb, hk⟩; refine ⟨_, rfl, ?_⟩; have a5 := sd (KeepBut.blk hk (g' := a2) tL a4.out (by simp)); have a8 := sd (Kd.R_lower ho0 (below_size tB)); have a9 := sd (Kd.R_lower (Kd.R_newB ho1 (g := a2) tL) (below_size tB)); have HB := sd (hb); have a6 := sd (hi); clear hb hk hi ho0 ho1) | ((with_reducible refine gate_dst (N := 5) rfl ?_); refine box_event (by rfl) (N := 5) (by rfl) (cs := #[.int .i64 0, .int .i64 0, .int .i64 0, .slice none 0 0, .slice none 0 0]) (t := 60) tS ?_; intro c0 hg w43 hbox hb; have a8 := sd (Kd.R_below (uR a8.out) hb); have a9 := sd (Kd.R_below (Kd.R_elderB (uR a9.out) c0 (Nat.le_of_eq hg.symm)) hb); have a5 := sd (blk_below (g := a2) tL hb); have b4 := sd (hbox); have i0 := sd (leB hg tB); have i1 := sd (leB hg tB); have HB := sd (below_step tB hb); have b6 := sd (neL hg (blk_lt (g := a2) tL)); have b7 := sd (neR hg (blk_lt (g := a2) tL)); have b8 := sd (neL hg (IsS70.lt (show IsS70 w _ a3 b2 b3 from tJ))); have b0 := sd (neR hg (IsS70.lt (show IsS70 w _ a3 b2 b3 from tJ))); have a6 := sd (IsS70.below tJ hb); clear hb hbox hg; have hnb44 := b7.out; have hnc44 := b6.out; have hnb45 := b0.out; have hnc45 := b8.out; obtain ⟨z0, z1, z2, z3, z4, y0, y1, y2, y3, y4⟩ := blk5 b4.out; obtain ⟨Ao47, co47, eo47⟩ := Kd.R_slice a8.out; subst eo47; obtain ⟨Ao48, co48, eo48⟩ := Kd.R_slice a9.out; subst eo48; have hnb49 := a4.out; have hnc49 := b5.out; obtain ⟨z0, z1, z2, z3, z4, y0, y1, y2, y3, y4⟩ := blk5 a5.out))
  refine bodyPost_ret (results_ct rfl _ _ a2 60 #[.int .i64 0, .int .i64 0, .int .i64 0, .slice none 0 0, .slice none 0 0] (0, 0) _ rfl tC Tryz.underlying60 rfl (by kernel_rfl)) rfl ?_
  exact ⟨_, _, tE, tN, tN, tB⟩
/-! ### spec_short: function 65 -/
def spec_short.f (a0 : Int) : Option (Int) := if a0 = 98 then (some 8) else (if a0 = 102 then (some 12) else (if a0 = 110 then (some 10) else (if a0 = 114 then (some 13) else (if a0 = 116 then (some 9) else (some a0)))))
set_option maxHeartbeats 8000000 in
set_option maxRecDepth 100000 in
theorem spec_short.calls (a0 : Int) (r : Int) (w : World) (h : spec_short.f a0 = some r) :
  Calls Tryz.prog 65 #[.int .u8 a0] w fun e w' => e = .returned (.int .u8 r) ∧ Drawn0 w w' := by
 have H : (if a0 = 98 then (some 8) else (if a0 = 102 then (some 12) else (if a0 = 110 then (some 10) else (if a0 = 114 then (some 13) else (if a0 = 116 then (some 9) else (some a0)))))) = some r := h
 clear h
 by_cases c2 : a0 = 98
 ·rw [if_pos c2] at H
  have c2b0 : (a0 == 98) = true := beq_iff_eq.mpr c2
  have c2b1 : (a0 != 98) = false := bne_eq_false_iff_eq.mpr c2
  clear c2
  obtain rfl := Option.some.inj H
  go_enter Tryz.func65, Tryz.ntmps65
  go_wp2
  go_ret
  exact ⟨by first | rfl | (simp; done) | (simp [*]; done), by repeat (first | exact Drawn0.refl _ | apply Drawn0.step)⟩
 ·rw [if_neg c2] at H
  have c2b0 : (a0 == 98) = false := beq_eq_false_iff_ne.mpr c2
  have c2b1 : (a0 != 98) = true := bne_iff_ne.mpr c2
  by_cases c3 : a0 = 102
  ·rw [if_pos c3] at H
   have c3b0 : (a0 == 102) = true := beq_iff_eq.mpr c3
   have c3b1 : (a0 != 102) = false := bne_eq_false_iff_eq.mpr c3
   clear c3
   obtain rfl := Option.some.inj H
   go_enter Tryz.func65, Tryz.ntmps65
   go_wp2
   go_ret
   exact ⟨by first | rfl | (simp; done) | (simp [*]; done), by repeat (first | exact Drawn0.refl _ | apply Drawn0.step)⟩
  ·rw [if_neg c3] at H
   have c3b0 : (a0 == 102) = false := beq_eq_false_iff_ne.mpr c3
   have c3b1 : (a0 != 102) = true := bne_iff_ne.mpr c3
   by_cases c4 : a0 = 110
   ·rw [if_pos c4] at H
    have c4b0 : (a0 == 110) = true := beq_iff_eq.mpr c4
    have c4b1 : (a0 != 110) = false := bne_eq_false_iff_eq.mpr c4
    clear c4
    obtain rfl := Option.some.inj H
    go_enter Tryz.func65, Tryz.ntmps65
    go_wp2
    go_ret
    exact ⟨by first | rfl | (simp; done) | (simp [*]; done), by repeat (first | exact Drawn0.refl _ | apply Drawn0.step)⟩
   ·rw [if_neg c4] at H
    have c4b0 : (a0 == 110) = false := beq_eq_false_iff_ne.mpr c4
    have c4b1 : (a0 != 110) = true := bne_iff_ne.mpr c4
    by_cases c5 : a0 = 114
    ·rw [if_pos c5] at H
     have c5b0 : (a0 == 114) = true := beq_iff_eq.mpr c5
     have c5b1 : (a0 != 114) = false := bne_eq_false_iff_eq.mpr c5
     clear c5
     obtain rfl := Option.some.inj H
     go_enter Tryz.func65, Tryz.ntmps65
     go_wp2
     go_ret
     exact ⟨by first | rfl | (simp; done) | (simp [*]; done), by repeat (first | exact Drawn0.refl _ | apply Drawn0.step)⟩
    ·rw [if_neg c5] at H
     have c5b0 : (a0 == 114) = false := beq_eq_false_iff_ne.mpr c5
     have c5b1 : (a0 != 114) = true := bne_iff_ne.mpr c5
     by_cases c6 : a0 = 116
     ·rw [if_pos c6] at H
      have c6b0 : (a0 == 116) = true := beq_iff_eq.mpr c6
      have c6b1 : (a0 != 116) = false := bne_eq_false_iff_eq.mpr c6
      clear c6
      obtain rfl := Option.some.inj H
      go_enter Tryz.func65, Tryz.ntmps65
      go_wp2
      go_ret
      exact ⟨by first | rfl | (simp; done) | (simp [*]; done), by repeat (first | exact Drawn0.refl _ | apply Drawn0.step)⟩
     ·rw [if_neg c6] at H
      have c6b0 : (a0 == 116) = false := beq_eq_false_iff_ne.mpr c6
      have c6b1 : (a0 != 116) = true := bne_iff_ne.mpr c6
      obtain rfl := Option.some.inj H
      go_enter Tryz.func65, Tryz.ntmps65
      go_wp2
      go_ret
      exact ⟨by first | rfl | (simp; done) | (simp [*]; done), by repeat (first | exact Drawn0.refl _ | apply Drawn0.step)⟩
/-! ### spec_appendUTF8: function 66 -/
def spec_appendUTF8.j0 : Nat → List Int → Int → Bool → Option (List Int)
 | 0, _, _, _ => none
 | k + 1, x0, x1, x27 => if x27 = true then ((some (([239, 191, 189] : List Int) : List Int)).bind fun c1 => (if x0.length + c1.length < 140737488355328 then (some (x0 ++ c1)) else (none))) else (if x1 < 65536 then ((some (([(wrap64 (224 + (wrap64 (Int.tdiv x1 4096)))) % 256, (wrap64 (128 + (Int.tmod (wrap64 (Int.tdiv x1 64)) 64))) % 256, (wrap64 (128 + (Int.tmod x1 64))) % 256] : List Int) : List Int)).bind fun c8 => (if x0.length + c8.length < 140737488355328 then (some (x0 ++ c8)) else (none))) else ((some (([(wrap64 (240 + (wrap64 (Int.tdiv x1 262144)))) % 256, (wrap64 (128 + (Int.tmod (wrap64 (Int.tdiv x1 4096)) 64))) % 256, (wrap64 (128 + (Int.tmod (wrap64 (Int.tdiv x1 64)) 64))) % 256, (wrap64 (128 + (Int.tmod x1 64))) % 256] : List Int) : List Int)).bind fun d0 => (if x0.length + d0.length < 140737488355328 then (some (x0 ++ d0)) else (none))))
def spec_appendUTF8.f (k : Nat) (l0 : List Int) (a1 : Int) : Option (List Int) := if a1 < 128 then (if l0.length < 140737488355328 then (some (l0 ++ [(a1) % 256])) else (none)) else (if a1 < 2048 then ((some (([(wrap64 (192 + (wrap64 (Int.tdiv a1 64)))) % 256, (wrap64 (128 + (Int.tmod a1 64))) % 256] : List Int) : List Int)).bind fun b9 => (if l0.length + b9.length < 140737488355328 then (some (l0 ++ b9)) else (none))) else ((spec_high.f a1).bind fun f4 => (if f4 = true then (spec_appendUTF8.j0 k l0 a1 true) else ((spec_low.f a1).bind fun f3 => (spec_appendUTF8.j0 k l0 a1 f3)))))
set_option maxHeartbeats 8000000 in
set_option maxRecDepth 100000 in
theorem spec_appendUTF8.calls (k : Nat) (P0_ : Nat → Prop) (u9000_ : Value) (l0 : List Int) (a1 : Int) (r : List Int) (w0 w : World) (hB : Below w0.heap.size w0 w) (ho0 : Kd.R (Kd.int .u8) 5 w w0.heap.size P0_ u9000_ l0) (h : spec_appendUTF8.f k l0 a1 = some r) :
  Calls Tryz.prog 66 #[u9000_, .int .i64 a1] w fun e w' => ∃ v0_ : Value, e = .returned (v0_) ∧ Kd.R (Kd.int .u8) 5 w' w0.heap.size (fun k_ => (P0_ k_ ∨ w.heap.size ≤ k_)) v0_ r ∧ Below w0.heap.size w0 w' ∧ Kept w w' (fun k_ => P0_ k_) := by
 have HO0 := sd (show Kd.R (Kd.int .u8) 5 w w0.heap.size (fun k_ => (P0_ k_ ∨ w.heap.size ≤ k_)) u9000_ l0 from Kd.R_mono ho0 (fun k_ hk => (.inl hk)))
 have HK := sd (Kept.refl w (fun k_ => P0_ k_))
 have HW0 := sd hB.size
 have HB := sd hB
 clear hB
 have H : (if a1 < 128 then (if l0.length < 140737488355328 then (some (l0 ++ [(a1) % 256])) else (none)) else (if a1 < 2048 then ((some (([(wrap64 (192 + (wrap64 (Int.tdiv a1 64)))) % 256, (wrap64 (128 + (Int.tmod a1 64))) % 256] : List Int) : List Int)).bind fun b9 => (if l0.length + b9.length < 140737488355328 then (some (l0 ++ b9)) else (none))) else ((spec_high.f a1).bind fun f4 => (if f4 = true then (spec_appendUTF8.j0 k l0 a1 true) else ((spec_low.f a1).bind fun f3 => (spec_appendUTF8.j0 k l0 a1 f3)))))) = some r := h
 clear h
 by_cases c3 : a1 < 128
 ·rw [if_pos c3] at H
  have c3b0 : decide (a1 < 128) = true := decide_eq_true c3
  clear c3
  by_cases c4 : l0.length < 140737488355328
  ·rw [if_pos c4] at H
   have LMc4 := sd c4
   clear c4
   obtain ⟨n2, d6⟩ : ∃ y_ : List Int, y_ = (l0 ++ [(a1) % 256]) := ⟨_, rfl⟩
   replace H : (some n2) = some r := by first | (rw [d6]; with_reducible exact H) | (have H2_ := (Option.bind_some _ _).symm.trans H; rw [d6]; with_reducible exact H2_) | (have H2_ := (Option.bind_some _ _).symm.trans H; with_reducible exact H2_) | with_reducible exact H | (rw [d6]; exact H) | exact H
   have l3 := sd d6
   clear d6
   obtain rfl := Option.some.inj H
   go_enter Tryz.func66, Tryz.ntmps66
   go_wp2_with (first | ((with_reducible refine gate_builtin (b := .append) (xs := #[.tmp 8, .tmp 11]) rfl ?_); at_builtin; refine Kd.R_append (Kd.int .u8) (w0 := w0) w0.heap.size rfl (.tmp 8) (.tmp 11) 40 5 (.int .u8 0) 1 rfl Tryz.underlying40 info5 rfl (by decide) (by omega) u9000_ l0 ((a1) % 256) [.int .u8 ((a1) % 256)] (fun k_ => (P0_ k_ ∨ w.heap.size ≤ k_)) (fun _ => False) rfl rfl ?aP (fun _ hk => hk.elim) ?aF ?aO ?aB ?aS ?aL ?_; (case aP => exact rfl); (case aB => exact tB); (case aF => exact (fun k_ hk => (.inr (Nat.le_trans (by first | exact HK.out.1 | exact (show Kept w _ (fun k_ => P0_ k_) from tK).1) hk)))); (case aO => exact (uR HO0.out)); (case aS => exact (below_size tB)); (case aL => have := LMc4.out; omega); intro n9 w5 ho hb hg hat; rw [← l3.out] at ho; have HB := sd (hb); have HK := sd (Kept.of_grown (S := (fun k_ => P0_ k_)) hg tK (fun k_ e_ => (HO0.out.1 k_ e_))); have l4 := sd (ho); clear ho hb hg hat))
   go_ret
   exact ⟨_, tE, uR l4.out, tB, tK⟩
  ·rw [if_neg c4] at H
   exact absurd H (by simp)
 ·rw [if_neg c3] at H
  have c3b0 : decide (a1 < 128) = false := decide_eq_false c3
  clear c3
  by_cases c6 : a1 < 2048
  ·rw [if_pos c6] at H
   have c6b0 : decide (a1 < 2048) = true := decide_eq_true c6
   clear c6
   obtain ⟨b9, d7⟩ : ∃ y_ : List Int, y_ = (([(wrap64 (192 + (wrap64 (Int.tdiv a1 64)))) % 256, (wrap64 (128 + (Int.tmod a1 64))) % 256] : List Int)) := ⟨_, rfl⟩
   replace H : (if l0.length + b9.length < 140737488355328 then (some (l0 ++ b9)) else (none)) = some r := by first | (rw [d7]; with_reducible exact H) | (have H2_ := (Option.bind_some _ _).symm.trans H; rw [d7]; with_reducible exact H2_) | (have H2_ := (Option.bind_some _ _).symm.trans H; with_reducible exact H2_) | with_reducible exact H | (rw [d7]; exact H) | exact H
   have i2 := sd d7
   clear d7
   by_cases c7 : l0.length + b9.length < 140737488355328
   ·rw [if_pos c7] at H
    have LMc7 := sd c7
    clear c7
    obtain ⟨n3, d8⟩ : ∃ y_ : List Int, y_ = (l0 ++ b9) := ⟨_, rfl⟩
    replace H : (some n3) = some r := by first | (rw [d8]; with_reducible exact H) | (have H2_ := (Option.bind_some _ _).symm.trans H; rw [d8]; with_reducible exact H2_) | (have H2_ := (Option.bind_some _ _).symm.trans H; with_reducible exact H2_) | with_reducible exact H | (rw [d8]; exact H) | exact H
    have l5 := sd d8
    clear d8
    obtain rfl := Option.some.inj H
    go_enter Tryz.func66, Tryz.ntmps66
    go_wp2_with (first | ((with_reducible refine gate_dst (N := 25) rfl ?_); refine Kd.R_lit (Kd.int .u8) _ 5 ?hg (N := 25) ?hd (xs := ([(wrap64 (192 + (wrap64 (Int.tdiv a1 64)))) % 256, (wrap64 (128 + (Int.tmod a1 64))) % 256] : List Int)) (inner := [.int .u8 ((wrap64 (192 + (wrap64 (Int.tdiv a1 64)))) % 256), .int .u8 ((wrap64 (128 + (Int.tmod a1 64))) % 256)]) (ok := fun _ => True) (okp := fun _ => True) ?hr ?hp (fun _ hk => hk) trivial (Below.refl _ _) (Nat.le_refl _) (by simp) ?_; (case hd => rfl); (case hg => rfl); (case hr => exact tS); (case hp => exact (Reps.one (show Kd.M (Kd.int .u8) _ _ _ ((wrap64 (192 + (wrap64 (Int.tdiv a1 64)))) % 256) [.int .u8 ((wrap64 (192 + (wrap64 (Int.tdiv a1 64)))) % 256)] from rfl) (Reps.one (show Kd.M (Kd.int .u8) _ _ _ ((wrap64 (128 + (Int.tmod a1 64))) % 256) [.int .u8 ((wrap64 (128 + (Int.tmod a1 64))) % 256)] from rfl) (Reps.none _ _)))); intro o0 w8 ho9 hb hg_ hnew_; clear hg_ hnew_; (first | rw [← i2.out] at ho9 | (simp only [Int.reduceToNat] at ho9; rw [← i2.out] at ho9)); have d9 := sd (Kd.R_lower (Kd.R_new' (Kd.R_newM (M := fun k_ => (P0_ k_ ∨ w.heap.size ≤ k_)) ho9 (by first | exact HK.out.1 | exact (show Kept w _ (fun k_ => P0_ k_) from tK).1) (fun k_ h_ => .inr h_)) (Kd.R_lt (uR HO0.out))) (below_size tB)); have HO0 := sd (Kd.R_elder' (uR HO0.out) (Kd.R_base ho9) hb); have HK := sd (Kept.below (S := (fun k_ => P0_ k_)) tK hb); have HB := sd (below_step tB hb); clear hb ho9; obtain ⟨Ao11, co11, eo11⟩ := Kd.R_slice d9.out; subst eo11) | ((with_reducible refine gate_builtin (b := .append) (xs := #[.tmp 16, .tmp 25]) rfl ?_); at_builtin; refine Kd.R_append_rows (Kd.int .u8) (w0 := w0) w0.heap.size rfl (.tmp 16) (.tmp 25) 40 5 (.int .u8 0) 1 rfl Tryz.underlying40 info5 rfl (by decide) (by omega) u9000_ l0 b9 _ _ _ (fun k_ => (P0_ k_ ∨ w.heap.size ≤ k_) ∧ some k_ ≠ (.slice Ao11 b9.length co11 : Value).ownBlock) (fun _ => False) rfl rfl ?aO ?aR (fun _ _ h => h) (fun _ h => h.elim) ?aF ?aB ?aS ?aL ?_; (case aR => repeat (first | exact (Kd.R_reads' d9.out).2.2 | (with_reducible refine Kd.C_alloc ?_ _) | (with_reducible refine Kd.C_drewN ?_ _) | (with_reducible refine Kd.C_drew ?_))); (case aB => exact tB); (case aF => exact (fun k_ hk => ⟨(.inr (Nat.le_trans (by first | exact HK.out.1 | exact (show Kept w _ (fun k_ => P0_ k_) from tK).1) hk)), Kd.fresh' (Kd.R_lt (uR d9.out)) k_ hk⟩)); (case aO => exact (uR HO0.out)); (case aS => exact (below_size tB)); (case aL => have := LMc7.out; omega); intro o1 w10 ho hb hg hat; rw [← l5.out] at ho; have d9 := sd (Kd.R_after (ok := (fun k_ => (P0_ k_ ∨ w.heap.size ≤ k_))) (Kd.R_mono (uR d9.out) (fun _ hk => ⟨hk.1.1, hk.2⟩)) hg hat); have HB := sd (hb); have HK := sd (Kept.of_grown (S := (fun k_ => P0_ k_)) hg tK (fun k_ e_ => (HO0.out.1 k_ e_).1)); have l6 := sd (ho); clear ho hb hg hat))
    go_ret
    exact ⟨_, tE, Kd.R_mono (uR l6.out) (fun _ hk => hk.1), tB, tK⟩
   ·rw [if_neg c7] at H
    exact absurd H (by simp)
  ·rw [if_neg c6] at H
   have c6b0 : decide (a1 < 2048) = false := decide_eq_false c6
   clear c6
   have HC12 := sd H
   clear H
   go_enter Tryz.func66, Tryz.ntmps66
   go_upto_region 5 with (fail)
   go_cut [27] (fun v27 wc => ∃ (kq : Nat) (x27_11 : Bool), v27 = .bool x27_11 ∧ Aside0 (spec_appendUTF8.j0 kq l0 a1 x27_11 = some r) ∧ Aside0 (kq ≤ k) ∧ Aside0 (Kd.R (Kd.int .u8) 5 wc w0.heap.size (fun k_ => (P0_ k_ ∨ w.heap.size ≤ k_)) u9000_ l0) ∧ Aside0 (Kept w wc (fun k_ => P0_ k_)) ∧ Aside0 (Below w0.heap.size w0 wc))
   case first =>
    have H := HC12.out
    clear HC12
    replace H := Option.bind_eq_some_iff.mp H
    obtain ⟨f4, i9, H⟩ := H
    try dsimp only at H
    have A13 := sd i9
    clear i9
    by_cases c14 : f4 = true
    ·subst c14
     rw [if_pos rfl] at H
     have H' := sd H
     clear H
     go_wp2_with (first | ((with_reducible refine gate_callee (f := 20) rfl ?_); refine goesL_ (some 29) rfl rfl Tryz.func20 (by kernel_rfl) rfl #[.int .i64 a1] rfl tM ?_; (with_reducible refine (spec_high.calls a1 true _ A13.out).mono ?_); rintro e w' ⟨rfl, ⟨nd, rfl⟩⟩; refine ⟨_, rfl, ?_⟩))
     go_meet
     case rel => exact ⟨_, (true), tF, H', ⟨by first | omega | exact Nat.le_refl _⟩, ⟨uR HO0.out⟩, ⟨tK⟩, ⟨tB⟩⟩
    ·replace c14 := Bool.eq_false_iff.mpr c14
     subst c14
     rw [if_neg (show ¬ (false = true) by decide)] at H
     replace H := Option.bind_eq_some_iff.mp H
     obtain ⟨f3, j1, H⟩ := H
     try dsimp only at H
     have A15 := sd j1
     clear j1
     have H' := sd H
     clear H
     go_wp2_with (first | ((with_reducible refine gate_callee (f := 20) rfl ?_); refine goesL_ (some 29) rfl rfl Tryz.func20 (by kernel_rfl) rfl #[.int .i64 a1] rfl tM ?_; (with_reducible refine (spec_high.calls a1 false _ A13.out).mono ?_); rintro e w' ⟨rfl, ⟨nd, rfl⟩⟩; refine ⟨_, rfl, ?_⟩) | (go_at_call 21; (with_reducible refine (spec_low.calls a1 f3 _ A15.out).mono ?_); rintro e w' ⟨rfl, ⟨nd, rfl⟩⟩))
     go_meet
     case rel => exact ⟨_, (f3), tF, H', ⟨by first | omega | exact Nat.le_refl _⟩, ⟨uR HO0.out⟩, ⟨tK⟩, ⟨tB⟩⟩
   case rest =>
    clear HC12
    obtain ⟨kq, x27_11, rfl, HA, HJ11, HO_0, HK, HB⟩ := hcut
    cases kq with
    | zero => exact absurd HA.out (by simp [spec_appendUTF8.j0])
    | succ kj11 =>
     have H := HA.out
     clear HA
     simp only [spec_appendUTF8.j0] at H
     by_cases c16 : x27_11 = true
     ·subst c16
      rw [if_pos rfl] at H
      obtain ⟨c1, e0⟩ : ∃ y_ : List Int, y_ = (([239, 191, 189] : List Int)) := ⟨_, rfl⟩
      replace H : (if l0.length + c1.length < 140737488355328 then (some (l0 ++ c1)) else (none)) = some r := by first | (rw [e0]; with_reducible exact H) | (have H2_ := (Option.bind_some _ _).symm.trans H; rw [e0]; with_reducible exact H2_) | (have H2_ := (Option.bind_some _ _).symm.trans H; with_reducible exact H2_) | with_reducible exact H | (rw [e0]; exact H) | exact H
      have i3 := sd e0
      clear e0
      by_cases c17 : l0.length + c1.length < 140737488355328
      ·rw [if_pos c17] at H
       have LMc17 := sd c17
       clear c17
       obtain ⟨n4, e1⟩ : ∃ y_ : List Int, y_ = (l0 ++ c1) := ⟨_, rfl⟩
       replace H : (some n4) = some r := by first | (rw [e1]; with_reducible exact H) | (have H2_ := (Option.bind_some _ _).symm.trans H; rw [e1]; with_reducible exact H2_) | (have H2_ := (Option.bind_some _ _).symm.trans H; with_reducible exact H2_) | with_reducible exact H | (rw [e1]; exact H) | exact H
       have l7 := sd e1
       clear e1
       obtain rfl := Option.some.inj H
       go_wp2_with (first | ((with_reducible refine gate_dst (N := 35) rfl ?_); refine Kd.R_lit (Kd.int .u8) _ 5 ?hg (N := 35) ?hd (xs := ([239, 191, 189] : List Int)) (inner := [.int .u8 239, .int .u8 191, .int .u8 189]) (ok := fun _ => True) (okp := fun _ => True) ?hr ?hp (fun _ hk => hk) trivial (Below.refl _ _) (Nat.le_refl _) (by simp) ?_; (case hd => rfl); (case hg => rfl); (case hr => exact tS); (case hp => exact (Reps.one (show Kd.M (Kd.int .u8) _ _ _ 239 [.int .u8 239] from rfl) (Reps.one (show Kd.M (Kd.int .u8) _ _ _ 191 [.int .u8 191] from rfl) (Reps.one (show Kd.M (Kd.int .u8) _ _ _ 189 [.int .u8 189] from rfl) (Reps.none _ _))))); intro o2 w18 ho19 hb hg_ hnew_; clear hg_ hnew_; (first | rw [← i3.out] at ho19 | (simp only [Int.reduceToNat] at ho19; rw [← i3.out] at ho19)); have e2 := sd (Kd.R_lower (Kd.R_new' (Kd.R_newM (M := fun k_ => (P0_ k_ ∨ w.heap.size ≤ k_)) ho19 (by first | exact HK.out.1 | exact (show Kept w _ (fun k_ => P0_ k_) from tK).1) (fun k_ h_ => .inr h_)) (Kd.R_lt (uR HO_0.out))) (below_size tB)); have HO_0 := sd (Kd.R_elder' (uR HO_0.out) (Kd.R_base ho19) hb); have HK := sd (Kept.below (S := (fun k_ => P0_ k_)) tK hb); have HB := sd (below_step tB hb); clear hb ho19; obtain ⟨Ao21, co21, eo21⟩ := Kd.R_slice e2.out; subst eo21) | ((with_reducible refine gate_builtin (b := .append) (xs := #[.tmp 34, .tmp 35]) rfl ?_); at_builtin; refine Kd.R_append_rows (Kd.int .u8) (w0 := w0) w0.heap.size rfl (.tmp 34) (.tmp 35) 40 5 (.int .u8 0) 1 rfl Tryz.underlying40 info5 rfl (by decide) (by omega) u9000_ l0 c1 _ _ _ (fun k_ => (P0_ k_ ∨ w.heap.size ≤ k_) ∧ some k_ ≠ (.slice Ao21 c1.length co21 : Value).ownBlock) (fun _ => False) rfl rfl ?aO ?aR (fun _ _ h => h) (fun _ h => h.elim) ?aF ?aB ?aS ?aL ?_; (case aR => repeat (first | exact (Kd.R_reads' e2.out).2.2 | (with_reducible refine Kd.C_alloc ?_ _) | (with_reducible refine Kd.C_drewN ?_ _) | (with_reducible refine Kd.C_drew ?_))); (case aB => exact tB); (case aF => exact (fun k_ hk => ⟨(.inr (Nat.le_trans (by first | exact HK.out.1 | exact (show Kept w _ (fun k_ => P0_ k_) from tK).1) hk)), Kd.fresh' (Kd.R_lt (uR e2.out)) k_ hk⟩)); (case aO => exact (uR HO_0.out)); (case aS => exact (below_size tB)); (case aL => have := LMc17.out; omega); intro o3 w20 ho hb hg hat; rw [← l7.out] at ho; have e2 := sd (Kd.R_after (ok := (fun k_ => (P0_ k_ ∨ w.heap.size ≤ k_))) (Kd.R_mono (uR e2.out) (fun _ hk => ⟨hk.1.1, hk.2⟩)) hg hat); have HB := sd (hb); have HK := sd (Kept.of_grown (S := (fun k_ => P0_ k_)) hg tK (fun k_ e_ => (HO_0.out.1 k_ e_).1)); have l8 := sd (ho); clear ho hb hg hat))
       go_ret
       exact ⟨_, tE, Kd.R_mono (uR l8.out) (fun _ hk => hk.1), tB, tK⟩
      ·rw [if_neg c17] at H
       exact absurd H (by simp)
     ·replace c16 := Bool.eq_false_iff.mpr c16
      subst c16
      rw [if_neg (show ¬ (false = true) by decide)] at H
      by_cases c22 : a1 < 65536
      ·rw [if_pos c22] at H
       have c22b0 : decide (a1 < 65536) = true := decide_eq_true c22
       clear c22
       obtain ⟨c8, e3⟩ : ∃ y_ : List Int, y_ = (([(wrap64 (224 + (wrap64 (Int.tdiv a1 4096)))) % 256, (wrap64 (128 + (Int.tmod (wrap64 (Int.tdiv a1 64)) 64))) % 256, (wrap64 (128 + (Int.tmod a1 64))) % 256] : List Int)) := ⟨_, rfl⟩
       replace H : (if l0.length + c8.length < 140737488355328 then (some (l0 ++ c8)) else (none)) = some r := by first | (rw [e3]; with_reducible exact H) | (have H2_ := (Option.bind_some _ _).symm.trans H; rw [e3]; with_reducible exact H2_) | (have H2_ := (Option.bind_some _ _).symm.trans H; with_reducible exact H2_) | with_reducible exact H | (rw [e3]; exact H) | exact H
       have i4 := sd e3
       clear e3
       by_cases c23 : l0.length + c8.length < 140737488355328
       ·rw [if_pos c23] at H
        have LMc23 := sd c23
        clear c23
        obtain ⟨n5, e4⟩ : ∃ y_ : List Int, y_ = (l0 ++ c8) := ⟨_, rfl⟩
        replace H : (some n5) = some r := by first | (rw [e4]; with_reducible exact H) | (have H2_ := (Option.bind_some _ _).symm.trans H; rw [e4]; with_reducible exact H2_) | (have H2_ := (Option.bind_some _ _).symm.trans H; with_reducible exact H2_) | with_reducible exact H | (rw [e4]; exact H) | exact H
        have l9 := sd e4
        clear e4
        obtain rfl := Option.some.inj H
        go_wp2_with (first | ((with_reducible refine gate_dst (N := 54) rfl ?_); refine Kd.R_lit (Kd.int .u8) _ 5 ?hg (N := 54) ?hd (xs := ([(wrap64 (224 + (wrap64 (Int.tdiv a1 4096)))) % 256, (wrap64 (128 + (Int.tmod (wrap64 (Int.tdiv a1 64)) 64))) % 256, (wrap64 (128 + (Int.tmod a1 64))) % 256] : List Int)) (inner := [.int .u8 ((wrap64 (224 + (wrap64 (Int.tdiv a1 4096)))) % 256), .int .u8 ((wrap64 (128 + (Int.tmod (wrap64 (Int.tdiv a1 64)) 64))) % 256), .int .u8 ((wrap64 (128 + (Int.tmod a1 64))) % 256)]) (ok := fun _ => True) (okp := fun _ => True) ?hr ?hp (fun _ hk => hk) trivial (Below.refl _ _) (Nat.le_refl _) (by simp) ?_; (case hd => rfl); (case hg => rfl); (case hr => exact tS); (case hp => exact (Reps.one (show Kd.M (Kd.int .u8) _ _ _ ((wrap64 (224 + (wrap64 (Int.tdiv a1 4096)))) % 256) [.int .u8 ((wrap64 (224 + (wrap64 (Int.tdiv a1 4096)))) % 256)] from rfl) (Reps.one (show Kd.M (Kd.int .u8) _ _ _ ((wrap64 (128 + (Int.tmod (wrap64 (Int.tdiv a1 64)) 64))) % 256) [.int .u8 ((wrap64 (128 + (Int.tmod (wrap64 (Int.tdiv a1 64)) 64))) % 256)] from rfl) (Reps.one (show Kd.M (Kd.int .u8) _ _ _ ((wrap64 (128 + (Int.tmod a1 64))) % 256) [.int .u8 ((wrap64 (128 + (Int.tmod a1 64))) % 256)] from rfl) (Reps.none _ _))))); intro o4 w24 ho25 hb hg_ hnew_; clear hg_ hnew_; (first | rw [← i4.out] at ho25 | (simp only [Int.reduceToNat] at ho25; rw [← i4.out] at ho25)); have e5 := sd (Kd.R_lower (Kd.R_new' (Kd.R_newM (M := fun k_ => (P0_ k_ ∨ w.heap.size ≤ k_)) ho25 (by first | exact HK.out.1 | exact (show Kept w _ (fun k_ => P0_ k_) from tK).1) (fun k_ h_ => .inr h_)) (Kd.R_lt (uR HO_0.out))) (below_size tB)); have HO_0 := sd (Kd.R_elder' (uR HO_0.out) (Kd.R_base ho25) hb); have HK := sd (Kept.below (S := (fun k_ => P0_ k_)) tK hb); have HB := sd (below_step tB hb); clear hb ho25; obtain ⟨Ao27, co27, eo27⟩ := Kd.R_slice e5.out; subst eo27) | ((with_reducible refine gate_builtin (b := .append) (xs := #[.tmp 40, .tmp 54]) rfl ?_); at_builtin; refine Kd.R_append_rows (Kd.int .u8) (w0 := w0) w0.heap.size rfl (.tmp 40) (.tmp 54) 40 5 (.int .u8 0) 1 rfl Tryz.underlying40 info5 rfl (by decide) (by omega) u9000_ l0 c8 _ _ _ (fun k_ => (P0_ k_ ∨ w.heap.size ≤ k_) ∧ some k_ ≠ (.slice Ao27 c8.length co27 : Value).ownBlock) (fun _ => False) rfl rfl ?aO ?aR (fun _ _ h => h) (fun _ h => h.elim) ?aF ?aB ?aS ?aL ?_; (case aR => repeat (first | exact (Kd.R_reads' e5.out).2.2 | (with_reducible refine Kd.C_alloc ?_ _) | (with_reducible refine Kd.C_drewN ?_ _) | (with_reducible refine Kd.C_drew ?_))); (case aB => exact tB); (case aF => exact (fun k_ hk => ⟨(.inr (Nat.le_trans (by first | exact HK.out.1 | exact (show Kept w _ (fun k_ => P0_ k_) from tK).1) hk)), Kd.fresh' (Kd.R_lt (uR e5.out)) k_ hk⟩)); (case aO => exact (uR HO_0.out)); (case aS => exact (below_size tB)); (case aL => have := LMc23.out; omega); intro o5 w26 ho hb hg hat; rw [← l9.out] at ho; have e5 := sd (Kd.R_after (ok := (fun k_ => (P0_ k_ ∨ w.heap.size ≤ k_))) (Kd.R_mono (uR e5.out) (fun _ hk => ⟨hk.1.1, hk.2⟩)) hg hat); have HB := sd (hb); have HK := sd (Kept.of_grown (S := (fun k_ => P0_ k_)) hg tK (fun k_ e_ => (HO_0.out.1 k_ e_).1)); have m0 := sd (ho); clear ho hb hg hat))
        go_ret
        exact ⟨_, tE, Kd.R_mono (uR m0.out) (fun _ hk => hk.1), tB, tK⟩
       ·rw [if_neg c23] at H
        exact absurd H (by simp)
      ·rw [if_neg c22] at H
       have c22b0 : decide (a1 < 65536) = false := decide_eq_false c22
       clear c22
       obtain ⟨d0, e6⟩ : ∃ y_ : List Int, y_ = (([(wrap64 (240 + (wrap64 (Int.tdiv a1 262144)))) % 256, (wrap64 (128 + (Int.tmod (wrap64 (Int.tdiv a1 4096)) 64))) % 256, (wrap64 (128 + (Int.tmod (wrap64 (Int.tdiv a1 64)) 64))) % 256, (wrap64 (128 + (Int.tmod a1 64))) % 256] : List Int)) := ⟨_, rfl⟩
       replace H : (if l0.length + d0.length < 140737488355328 then (some (l0 ++ d0)) else (none)) = some r := by first | (rw [e6]; with_reducible exact H) | (have H2_ := (Option.bind_some _ _).symm.trans H; rw [e6]; with_reducible exact H2_) | (have H2_ := (Option.bind_some _ _).symm.trans H; with_reducible exact H2_) | with_reducible exact H | (rw [e6]; exact H) | exact H
       have i5 := sd e6
       clear e6
       by_cases c28 : l0.length + d0.length < 140737488355328
       ·rw [if_pos c28] at H
        have LMc28 := sd c28
        clear c28
        obtain ⟨n6, e7⟩ : ∃ y_ : List Int, y_ = (l0 ++ d0) := ⟨_, rfl⟩
        replace H : (some n6) = some r := by first | (rw [e7]; with_reducible exact H) | (have H2_ := (Option.bind_some _ _).symm.trans H; rw [e7]; with_reducible exact H2_) | (have H2_ := (Option.bind_some _ _).symm.trans H; with_reducible exact H2_) | with_reducible exact H | (rw [e7]; exact H) | exact H
        have m1 := sd e7
        clear e7
        obtain rfl := Option.some.inj H
        go_wp2_with (first | ((with_reducible refine gate_dst (N := 75) rfl ?_); refine Kd.R_lit (Kd.int .u8) _ 5 ?hg (N := 75) ?hd (xs := ([(wrap64 (240 + (wrap64 (Int.tdiv a1 262144)))) % 256, (wrap64 (128 + (Int.tmod (wrap64 (Int.tdiv a1 4096)) 64))) % 256, (wrap64 (128 + (Int.tmod (wrap64 (Int.tdiv a1 64)) 64))) % 256, (wrap64 (128 + (Int.tmod a1 64))) % 256] : List Int)) (inner := [.int .u8 ((wrap64 (240 + (wrap64 (Int.tdiv a1 262144)))) % 256), .int .u8 ((wrap64 (128 + (Int.tmod (wrap64 (Int.tdiv a1 4096)) 64))) % 256), .int .u8 ((wrap64 (128 + (Int.tmod (wrap64 (Int.tdiv a1 64)) 64))) % 256), .int .u8 ((wrap64 (128 + (Int.tmod a1 64))) % 256)]) (ok := fun _ => True) (okp := fun _ => True) ?hr ?hp (fun _ hk => hk) trivial (Below.refl _ _) (Nat.le_refl _) (by simp) ?_; (case hd => rfl); (case hg => rfl); (case hr => exact tS); (case hp => exact (Reps.one (show Kd.M (Kd.int .u8) _ _ _ ((wrap64 (240 + (wrap64 (Int.tdiv a1 262144)))) % 256) [.int .u8 ((wrap64 (240 + (wrap64 (Int.tdiv a1 262144)))) % 256)] from rfl) (Reps.one (show Kd.M (Kd.int .u8) _ _ _ ((wrap64 (128 + (Int.tmod (wrap64 (Int.tdiv a1 4096)) 64))) % 256) [.int .u8 ((wrap64 (128 + (Int.tmod (wrap64 (Int.tdiv a1 4096)) 64))) % 256)] from rfl) (Reps.one (show Kd.M (Kd.int .u8) _ _ _ ((wrap64 (128 + (Int.tmod (wrap64 (Int.tdiv a1 64)) 64))) % 256) [.int .u8 ((wrap64 (128 + (Int.tmod (wrap64 (Int.tdiv a1 64)) 64))) % 256)] from rfl) (Reps.one (show Kd.M (Kd.int .u8) _ _ _ ((wrap64 (128 + (Int.tmod a1 64))) % 256) [.int .u8 ((wrap64 (128 + (Int.tmod a1 64))) % 256)] from rfl) (Reps.none _ _)))))); intro o6 w29 ho30 hb hg_ hnew_; clear hg_ hnew_; (first | rw [← i5.out] at ho30 | (simp only [Int.reduceToNat] at ho30; rw [← i5.out] at ho30)); have e8 := sd (Kd.R_lower (Kd.R_new' (Kd.R_newM (M := fun k_ => (P0_ k_ ∨ w.heap.size ≤ k_)) ho30 (by first | exact HK.out.1 | exact (show Kept w _ (fun k_ => P0_ k_) from tK).1) (fun k_ h_ => .inr h_)) (Kd.R_lt (uR HO_0.out))) (below_size tB)); have HO_0 := sd (Kd.R_elder' (uR HO_0.out) (Kd.R_base ho30) hb); have HK := sd (Kept.below (S := (fun k_ => P0_ k_)) tK hb); have HB := sd (below_step tB hb); clear hb ho30; obtain ⟨Ao32, co32, eo32⟩ := Kd.R_slice e8.out; subst eo32) | ((with_reducible refine gate_builtin (b := .append) (xs := #[.tmp 56, .tmp 75]) rfl ?_); at_builtin; refine Kd.R_append_rows (Kd.int .u8) (w0 := w0) w0.heap.size rfl (.tmp 56) (.tmp 75) 40 5 (.int .u8 0) 1 rfl Tryz.underlying40 info5 rfl (by decide) (by omega) u9000_ l0 d0 _ _ _ (fun k_ => (P0_ k_ ∨ w.heap.size ≤ k_) ∧ some k_ ≠ (.slice Ao32 d0.length co32 : Value).ownBlock) (fun _ => False) rfl rfl ?aO ?aR (fun _ _ h => h) (fun _ h => h.elim) ?aF ?aB ?aS ?aL ?_; (case aR => repeat (first | exact (Kd.R_reads' e8.out).2.2 | (with_reducible refine Kd.C_alloc ?_ _) | (with_reducible refine Kd.C_drewN ?_ _) | (with_reducible refine Kd.C_drew ?_))); (case aB => exact tB); (case aF => exact (fun k_ hk => ⟨(.inr (Nat.le_trans (by first | exact HK.out.1 | exact (show Kept w _ (fun k_ => P0_ k_) from tK).1) hk)), Kd.fresh' (Kd.R_lt (uR e8.out)) k_ hk⟩)); (case aO => exact (uR HO_0.out)); (case aS => exact (below_size tB)); (case aL => have := LMc28.out; omega); intro o7 w31 ho hb hg hat; rw [← m1.out] at ho; have e8 := sd (Kd.R_after (ok := (fun k_ => (P0_ k_ ∨ w.heap.size ≤ k_))) (Kd.R_mono (uR e8.out) (fun _ hk => ⟨hk.1.1, hk.2⟩)) hg hat); have HB := sd (hb); have HK := sd (Kept.of_grown (S := (fun k_ => P0_ k_)) hg tK (fun k_ e_ => (HO_0.out.1 k_ e_).1)); have m2 := sd (ho); clear ho hb hg hat))
        go_ret
        exact ⟨_, tE, Kd.R_mono (uR m2.out) (fun _ hk => hk.1), tB, tK⟩
       ·rw [if_neg c28] at H
        exact absurd H (by simp)
/-! ### spec_Unquote: function 38 -/
def spec_Unquote.l0 : Nat → List Int → ByteArray → Int → Option (ByteArray)
 | 0, _, _, _ => none
 | k + 1, x3, x4, x5 => if x5 < (x4.size : Int) then (if 0 ≤ x5 then (if (bt x4 x5) = 92 then ((spec_unit.f k x4 x5).bind fun d3 => (if d3.2 = true then ((spec_unit.f k x4 (wrap64 (x5 + 6))).bind fun g1 => (if g1.2 = true then ((spec_high.f d3.1).bind fun g6 => (if g6 = true then ((spec_low.f g1.1).bind fun g7 => (if g7 = true then ((spec_appendUTF8.f k x3 (wrap64 ((wrap64 (65536 + (wrap64 ((wrap64 (d3.1 - 55296)) * 1024)))) + (wrap64 (g1.1 - 56320))))).bind fun g2 => (spec_Unquote.l0 k g2 x4 (wrap64 ((wrap64 (x5 + 6)) + 6)))) else ((spec_appendUTF8.f k x3 d3.1).bind fun g3 => (spec_Unquote.l0 k g3 x4 (wrap64 (x5 + 6)))))) else ((spec_appendUTF8.f k x3 d3.1).bind fun g4 => (spec_Unquote.l0 k g4 x4 (wrap64 (x5 + 6)))))) else ((spec_appendUTF8.f k x3 d3.1).bind fun g5 => (spec_Unquote.l0 k g5 x4 (wrap64 (x5 + 6)))))) else (if 0 ≤ (wrap64 (x5 + 1)) then (if (wrap64 (x5 + 1)) < (x4.size : Int) then ((spec_short.f (bt x4 (wrap64 (x5 + 1)))).bind fun d1 => (if x3.length < 140737488355328 then (spec_Unquote.l0 k (x3 ++ [d1]) x4 (wrap64 (x5 + 2))) else (none))) else (none)) else (none)))) else (if x3.length < 140737488355328 then (spec_Unquote.l0 k (x3 ++ [bt x4 x5]) x4 (wrap64 (x5 + 1))) else (none))) else (none)) else (some (strOfNums x3))
def spec_Unquote.f (k : Nat) (a0 : ByteArray) : Option (ByteArray) := if 1 ≤ (wrap64 ((a0.size : Int) - 1)) then (if (wrap64 ((a0.size : Int) - 1)) ≤ (a0.size : Int) then (spec_Unquote.l0 k ([] : List Int) (a0.extract 1 ((wrap64 ((a0.size : Int) - 1)) : Int).toNat) 0) else (none)) else (none)
set_option maxHeartbeats 8000000 in
set_option maxRecDepth 100000 in
theorem spec_Unquote.calls (k : Nat) (a0 : ByteArray) (r : ByteArray) (w : World) (h : spec_Unquote.f k a0 = some r) :
  Calls Tryz.prog 38 #[.string a0] w fun e w' => e = .returned (.string r) ∧ Below w.heap.size w w' := by
 have HB := sd (Below.refl w.heap.size w)
 have H : (if 1 ≤ (wrap64 ((a0.size : Int) - 1)) then (if (wrap64 ((a0.size : Int) - 1)) ≤ (a0.size : Int) then (spec_Unquote.l0 k ([] : List Int) (a0.extract 1 ((wrap64 ((a0.size : Int) - 1)) : Int).toNat) 0) else (none)) else (none)) = some r := h
 clear h
 by_cases c2 : 1 ≤ (wrap64 ((a0.size : Int) - 1))
 ·rw [if_pos c2] at H
  have c2b0 := eq_true c2
  have c2b1 : decide (1 ≤ (wrap64 ((a0.size : Int) - 1))) = true := decide_eq_true c2
  clear c2
  by_cases c3 : (wrap64 ((a0.size : Int) - 1)) ≤ (a0.size : Int)
  ·rw [if_pos c3] at H
   have c3b0 := eq_true c3
   have c3b1 : decide ((wrap64 ((a0.size : Int) - 1)) ≤ (a0.size : Int)) = true := decide_eq_true c3
   clear c3
   have H' := sd H
   clear H
   go_enter Tryz.func38, Tryz.ntmps38
   go_wp2
   generalize (a0.extract 1 ((wrap64 ((a0.size : Int) - 1)) : Int).toNat) = sx18_0 at H' ⊢
   (try simp only [Act.put, List.setIfInBounds_toArray, List.set_cons_zero, List.set_cons_succ])
   go_loopg [3, 5] k (fun kq v3 v5 w' => ∃ (x3_1 : List Int) (x5_1 : Int), v5 = .int .i64 x5_1 ∧ Aside0 (spec_Unquote.l0 kq x3_1 sx18_0 x5_1 = some r) ∧ Aside0 (kq ≤ k) ∧ Aside0 (Kd.R (Kd.int .u8) 5 w' w.heap.size (fun _ => True) v3 x3_1) ∧ Aside0 (Below w.heap.size w w'))
   case atStart => exact ⟨(([] : List Int)), (0), tF, H', ⟨Nat.le_refl _⟩, ⟨tN⟩, ⟨tB⟩⟩
   case round =>
    clear H'
    obtain ⟨x3_1, x5_1, rfl, HA, HK1, HO_3, HB⟩ := hrel
    cases gk with
    | zero => exact absurd HA.out (by simp [spec_Unquote.l0])
    | succ k1 =>
     have H := HA.out
     clear HA
     simp only [spec_Unquote.l0] at H
     by_cases c4 : x5_1 < (sx18_0.size : Int)
     ·rw [if_pos c4] at H
      have c4b0 : decide (x5_1 < (sx18_0.size : Int)) = true := decide_eq_true c4
      clear c4
      by_cases c5 : 0 ≤ x5_1
      ·rw [if_pos c5] at H
       have c5b0 : decide (0 ≤ x5_1) = true := decide_eq_true c5
       clear c5
       by_cases c7 : (bt sx18_0 x5_1) = 92
       ·rw [if_pos c7] at H
        have c7b0 : ((bt sx18_0 x5_1) == 92) = true := beq_iff_eq.mpr c7
        have c7b1 : ((bt sx18_0 x5_1) != 92) = false := bne_eq_false_iff_eq.mpr c7
        clear c7
        replace H := Option.bind_eq_some_iff.mp H
        obtain ⟨⟨b1, n7⟩, A80, H⟩ := H
        try dsimp only at H
        have A8 := sd A80
        clear A80
        by_cases c9 : n7 = true
        ·subst c9
         rw [if_pos rfl] at H
         replace H := Option.bind_eq_some_iff.mp H
         obtain ⟨⟨d2, n8⟩, j2, H⟩ := H
         try dsimp only at H
         have A10 := sd j2
         clear j2
         by_cases c11 : n8 = true
         ·subst c11
          rw [if_pos rfl] at H
          replace H := Option.bind_eq_some_iff.mp H
          obtain ⟨g6, j3, H⟩ := H
          try dsimp only at H
          have A12 := sd j3
          clear j3
          by_cases c13 : g6 = true
          ·subst c13
           rw [if_pos rfl] at H
           replace H := Option.bind_eq_some_iff.mp H
           obtain ⟨g7, j4, H⟩ := H
           try dsimp only at H
           have A14 := sd j4
           clear j4
           by_cases c15 : g7 = true
           ·subst c15
            rw [if_pos rfl] at H
            replace H := Option.bind_eq_some_iff.mp H
            obtain ⟨g2, j5, H⟩ := H
            try dsimp only at H
            have A16 := sd j5
            clear j5
            have H' := sd H
            clear H
            have p6 : 0 ≤ (x5_1 : Int) := of_decide_eq_true (by first | (with_reducible assumption) | assumption)
            have q6 : x5_1 < (sx18_0.size : Int) := of_decide_eq_true (by first | (with_reducible assumption) | assumption)
            have hx6 := bt_at sx18_0 x5_1
            replace p6 := eq_true p6
            replace q6 := eq_true q6
            go_wp2_with (first | ((with_reducible refine gate_callee (f := 19) rfl ?_); refine goesL_ (some 34) rfl rfl Tryz.func19 (by kernel_rfl) rfl #[.string sx18_0, .int .i64 x5_1] rfl tM ?_; (with_reducible refine (spec_unit.calls k1 sx18_0 x5_1 b1 true _ A8.out).mono ?_); rintro e w' ⟨rfl, ⟨nd, rfl⟩⟩; refine ⟨_, rfl, ?_⟩) | ((with_reducible refine gate_callee (f := 19) rfl ?_); refine goesL_ (some 54) rfl rfl Tryz.func19 (by kernel_rfl) rfl #[.string sx18_0, .int .i64 (wrap64 (x5_1 + 6))] rfl tM ?_; (with_reducible refine (spec_unit.calls k1 sx18_0 (wrap64 (x5_1 + 6)) d2 true _ A10.out).mono ?_); rintro e w' ⟨rfl, ⟨nd, rfl⟩⟩; refine ⟨_, rfl, ?_⟩) | (go_at_call 20; (with_reducible refine (spec_high.calls b1 true _ A12.out).mono ?_); rintro e w' ⟨rfl, ⟨nd, rfl⟩⟩) | (go_at_call 21; (with_reducible refine (spec_low.calls d2 true _ A14.out).mono ?_); rintro e w' ⟨rfl, ⟨nd, rfl⟩⟩; obtain ⟨Ao17, co17, eo17⟩ := Kd.R_slice HO_3.out; subst eo17) | ((with_reducible refine gate_callee (f := 66) rfl ?_); refine goesL_ (some 77) rfl rfl Tryz.func66 (by kernel_rfl) rfl #[.slice Ao17 x3_1.length co17, .int .i64 (wrap64 ((wrap64 (65536 + (wrap64 ((wrap64 (b1 - 55296)) * 1024)))) + (wrap64 (d2 - 56320))))] rfl tM ?_; (with_reducible refine (spec_appendUTF8.calls k1 (fun k_ => some k_ = (.slice Ao17 x3_1.length co17 : Value).ownBlock) (.slice Ao17 x3_1.length co17) x3_1 (wrap64 ((wrap64 (65536 + (wrap64 ((wrap64 (b1 - 55296)) * 1024)))) + (wrap64 (d2 - 56320)))) g2 w _ ?side1 ?side2 A16.out).mono ?_); (case side1 => exact tB); (case side2 => exact Kd.R_tight rfl HO_3.out); rintro e w18 ⟨o8, rfl, ho0, hb, hkp⟩; refine ⟨_, rfl, ?_⟩; have m3 := sd (Kd.R_mono (ok' := fun k_ => True) ho0 (fun k_ hk_ => trivial)); have HB := sd (hb); clear hb hkp ho0))
            go_roundg k1
            case measure => have := HK1.out; omega
            case rel => exact ⟨(g2), (wrap64 ((wrap64 (x5_1 + 6)) + 6)), tF, H', ⟨by have := HK1.out; omega⟩, ⟨uR m3.out⟩, ⟨tB⟩⟩
           ·replace c15 := Bool.eq_false_iff.mpr c15
            subst c15
            rw [if_neg (show ¬ (false = true) by decide)] at H
            replace H := Option.bind_eq_some_iff.mp H
            obtain ⟨g3, j6, H⟩ := H
            try dsimp only at H
            have A19 := sd j6
            clear j6
            have H' := sd H
            clear H
            have p6 : 0 ≤ (x5_1 : Int) := of_decide_eq_true (by first | (with_reducible assumption) | assumption)
            have q6 : x5_1 < (sx18_0.size : Int) := of_decide_eq_true (by first | (with_reducible assumption) | assumption)
            have hx6 := bt_at sx18_0 x5_1
            replace p6 := eq_true p6
            replace q6 := eq_true q6
            go_wp2_with (first | ((with_reducible refine gate_callee (f := 19) rfl ?_); refine goesL_ (some 34) rfl rfl Tryz.func19 (by kernel_rfl) rfl #[.string sx18_0, .int .i64 x5_1] rfl tM ?_; (with_reducible refine (spec_unit.calls k1 sx18_0 x5_1 b1 true _ A8.out).mono ?_); rintro e w' ⟨rfl, ⟨nd, rfl⟩⟩; refine ⟨_, rfl, ?_⟩) | ((with_reducible refine gate_callee (f := 19) rfl ?_); refine goesL_ (some 54) rfl rfl Tryz.func19 (by kernel_rfl) rfl #[.string sx18_0, .int .i64 (wrap64 (x5_1 + 6))] rfl tM ?_; (with_reducible refine (spec_unit.calls k1 sx18_0 (wrap64 (x5_1 + 6)) d2 true _ A10.out).mono ?_); rintro e w' ⟨rfl, ⟨nd, rfl⟩⟩; refine ⟨_, rfl, ?_⟩) | (go_at_call 20; (with_reducible refine (spec_high.calls b1 true _ A12.out).mono ?_); rintro e w' ⟨rfl, ⟨nd, rfl⟩⟩) | (go_at_call 21; (with_reducible refine (spec_low.calls d2 false _ A14.out).mono ?_); rintro e w' ⟨rfl, ⟨nd, rfl⟩⟩; obtain ⟨Ao20, co20, eo20⟩ := Kd.R_slice HO_3.out; subst eo20) | ((with_reducible refine gate_callee (f := 66) rfl ?_); refine goesL_ (some 77) rfl rfl Tryz.func66 (by kernel_rfl) rfl #[.slice Ao20 x3_1.length co20, .int .i64 b1] rfl tM ?_; (with_reducible refine (spec_appendUTF8.calls k1 (fun k_ => some k_ = (.slice Ao20 x3_1.length co20 : Value).ownBlock) (.slice Ao20 x3_1.length co20) x3_1 b1 g3 w _ ?_ ?_ A19.out).mono ?_); exact tB; exact Kd.R_tight rfl HO_3.out; rintro e w21 ⟨o9, rfl, ho0, hb, hkp⟩; refine ⟨_, rfl, ?_⟩; have m4 := sd (Kd.R_mono (ok' := fun k_ => True) ho0 (fun k_ hk_ => trivial)); have HB := sd (hb); clear hb hkp ho0))
            go_roundg k1
            case measure => have := HK1.out; omega
            case rel => exact ⟨(g3), (wrap64 (x5_1 + 6)), tF, H', ⟨by have := HK1.out; omega⟩, ⟨uR m4.out⟩, ⟨tB⟩⟩
          ·replace c13 := Bool.eq_false_iff.mpr c13
           subst c13
           rw [if_neg (show ¬ (false = true) by decide)] at H
           replace H := Option.bind_eq_some_iff.mp H
           obtain ⟨g4, j7, H⟩ := H
           try dsimp only at H
           have A22 := sd j7
           clear j7
           have H' := sd H
           clear H
           have p6 : 0 ≤ (x5_1 : Int) := of_decide_eq_true (by first | (with_reducible assumption) | assumption)
           have q6 : x5_1 < (sx18_0.size : Int) := of_decide_eq_true (by first | (with_reducible assumption) | assumption)
           have hx6 := bt_at sx18_0 x5_1
           replace p6 := eq_true p6
           replace q6 := eq_true q6
           go_wp2_with (first | ((with_reducible refine gate_callee (f := 19) rfl ?_); refine goesL_ (some 34) rfl rfl Tryz.func19 (by kernel_rfl) rfl #[.string sx18_0, .int .i64 x5_1] rfl tM ?_; (with_reducible refine (spec_unit.calls k1 sx18_0 x5_1 b1 true _ A8.out).mono ?_); rintro e w' ⟨rfl, ⟨nd, rfl⟩⟩; refine ⟨_, rfl, ?_⟩) | ((with_reducible refine gate_callee (f := 19) rfl ?_); refine goesL_ (some 54) rfl rfl Tryz.func19 (by kernel_rfl) rfl #[.string sx18_0, .int .i64 (wrap64 (x5_1 + 6))] rfl tM ?_; (with_reducible refine (spec_unit.calls k1 sx18_0 (wrap64 (x5_1 + 6)) d2 true _ A10.out).mono ?_); rintro e w' ⟨rfl, ⟨nd, rfl⟩⟩; refine ⟨_, rfl, ?_⟩) | (go_at_call 20; (with_reducible refine (spec_high.calls b1 false _ A12.out).mono ?_); rintro e w' ⟨rfl, ⟨nd, rfl⟩⟩; obtain ⟨Ao23, co23, eo23⟩ := Kd.R_slice HO_3.out; subst eo23) | ((with_reducible refine gate_callee (f := 66) rfl ?_); refine goesL_ (some 77) rfl rfl Tryz.func66 (by kernel_rfl) rfl #[.slice Ao23 x3_1.length co23, .int .i64 b1] rfl tM ?_; (with_reducible refine (spec_appendUTF8.calls k1 (fun k_ => some k_ = (.slice Ao23 x3_1.length co23 : Value).ownBlock) (.slice Ao23 x3_1.length co23) x3_1 b1 g4 w _ ?_ ?_ A22.out).mono ?_); exact tB; exact Kd.R_tight rfl HO_3.out; rintro e w24 ⟨p0, rfl, ho0, hb, hkp⟩; refine ⟨_, rfl, ?_⟩; have m5 := sd (Kd.R_mono (ok' := fun k_ => True) ho0 (fun k_ hk_ => trivial)); have HB := sd (hb); clear hb hkp ho0))
           go_roundg k1
           case measure => have := HK1.out; omega
           case rel => exact ⟨(g4), (wrap64 (x5_1 + 6)), tF, H', ⟨by have := HK1.out; omega⟩, ⟨uR m5.out⟩, ⟨tB⟩⟩
         ·replace c11 := Bool.eq_false_iff.mpr c11
          subst c11
          rw [if_neg (show ¬ (false = true) by decide)] at H
          replace H := Option.bind_eq_some_iff.mp H
          obtain ⟨g5, j8, H⟩ := H
          try dsimp only at H
          have A25 := sd j8
          clear j8
          have H' := sd H
          clear H
          have p6 : 0 ≤ (x5_1 : Int) := of_decide_eq_true (by first | (with_reducible assumption) | assumption)
          have q6 : x5_1 < (sx18_0.size : Int) := of_decide_eq_true (by first | (with_reducible assumption) | assumption)
          have hx6 := bt_at sx18_0 x5_1
          replace p6 := eq_true p6
          replace q6 := eq_true q6
          go_wp2_with (first | ((with_reducible refine gate_callee (f := 19) rfl ?_); refine goesL_ (some 34) rfl rfl Tryz.func19 (by kernel_rfl) rfl #[.string sx18_0, .int .i64 x5_1] rfl tM ?_; (with_reducible refine (spec_unit.calls k1 sx18_0 x5_1 b1 true _ A8.out).mono ?_); rintro e w' ⟨rfl, ⟨nd, rfl⟩⟩; refine ⟨_, rfl, ?_⟩) | ((with_reducible refine gate_callee (f := 19) rfl ?_); refine goesL_ (some 54) rfl rfl Tryz.func19 (by kernel_rfl) rfl #[.string sx18_0, .int .i64 (wrap64 (x5_1 + 6))] rfl tM ?_; (with_reducible refine (spec_unit.calls k1 sx18_0 (wrap64 (x5_1 + 6)) d2 false _ A10.out).mono ?_); rintro e w' ⟨rfl, ⟨nd, rfl⟩⟩; refine ⟨_, rfl, ?_⟩; obtain ⟨Ao26, co26, eo26⟩ := Kd.R_slice HO_3.out; subst eo26) | ((with_reducible refine gate_callee (f := 66) rfl ?_); refine goesL_ (some 77) rfl rfl Tryz.func66 (by kernel_rfl) rfl #[.slice Ao26 x3_1.length co26, .int .i64 b1] rfl tM ?_; (with_reducible refine (spec_appendUTF8.calls k1 (fun k_ => some k_ = (.slice Ao26 x3_1.length co26 : Value).ownBlock) (.slice Ao26 x3_1.length co26) x3_1 b1 g5 w _ ?_ ?_ A25.out).mono ?_); exact tB; exact Kd.R_tight rfl HO_3.out; rintro e w27 ⟨p1, rfl, ho0, hb, hkp⟩; refine ⟨_, rfl, ?_⟩; have m6 := sd (Kd.R_mono (ok' := fun k_ => True) ho0 (fun k_ hk_ => trivial)); have HB := sd (hb); clear hb hkp ho0))
          go_roundg k1
          case measure => have := HK1.out; omega
          case rel => exact ⟨(g5), (wrap64 (x5_1 + 6)), tF, H', ⟨by have := HK1.out; omega⟩, ⟨uR m6.out⟩, ⟨tB⟩⟩
        ·replace c9 := Bool.eq_false_iff.mpr c9
         subst c9
         rw [if_neg (show ¬ (false = true) by decide)] at H
         obtain ⟨ji28, hji28⟩ : ∃ j_ : Int, (wrap64 (x5_1 + 1)) = j_ := ⟨_, rfl⟩
         replace H : (if 0 ≤ (ji28) then (if (ji28) < (sx18_0.size : Int) then ((spec_short.f (bt sx18_0 (ji28))).bind fun d1 => (if x3_1.length < 140737488355328 then (spec_Unquote.l0 k1 (x3_1 ++ [d1]) sx18_0 (wrap64 (x5_1 + 2))) else (none))) else (none)) else (none)) = some r := by first | (rw [hji28] at H; exact H) | (simp only [hji28] at H ⊢; exact H)
         (try rw [hji28] at A8)
         have hji28w : (IntKind.i64.wrap (x5_1 + 1)) = ji28 := (i64_w _).trans hji28
         by_cases c29 : 0 ≤ (ji28)
         ·rw [if_pos c29] at H
          have c29b0 : decide (0 ≤ (ji28)) = true := decide_eq_true c29
          clear c29
          by_cases c30 : (ji28) < (sx18_0.size : Int)
          ·rw [if_pos c30] at H
           have c30b0 : decide ((ji28) < (sx18_0.size : Int)) = true := decide_eq_true c30
           clear c30
           replace H := Option.bind_eq_some_iff.mp H
           obtain ⟨d1, j9, H⟩ := H
           try dsimp only at H
           have A32 := sd j9
           clear j9
           by_cases c33 : x3_1.length < 140737488355328
           ·rw [if_pos c33] at H
            have LMc33 := sd c33
            clear c33
            obtain ⟨l1, e9⟩ : ∃ y_ : List Int, y_ = (x3_1 ++ [d1]) := ⟨_, rfl⟩
            replace H : (spec_Unquote.l0 k1 l1 sx18_0 (wrap64 (x5_1 + 2))) = some r := by first | (rw [e9]; with_reducible exact H) | (have H2_ := (Option.bind_some _ _).symm.trans H; rw [e9]; with_reducible exact H2_) | (have H2_ := (Option.bind_some _ _).symm.trans H; with_reducible exact H2_) | with_reducible exact H | (rw [e9]; exact H) | exact H
            have m7 := sd e9
            clear e9
            have H' := sd H
            clear H
            have p6 : 0 ≤ (x5_1 : Int) := of_decide_eq_true (by first | (with_reducible assumption) | assumption)
            have q6 : x5_1 < (sx18_0.size : Int) := of_decide_eq_true (by first | (with_reducible assumption) | assumption)
            have hx6 := bt_at sx18_0 x5_1
            replace p6 := eq_true p6
            replace q6 := eq_true q6
            go_wp2_with (first | ((with_reducible refine gate_callee (f := 19) rfl ?_); refine goesL_ (some 34) rfl rfl Tryz.func19 (by kernel_rfl) rfl #[.string sx18_0, .int .i64 x5_1] rfl tM ?_; (with_reducible refine (spec_unit.calls k1 sx18_0 x5_1 b1 false _ A8.out).mono ?_); rintro e w' ⟨rfl, ⟨nd, rfl⟩⟩; refine ⟨_, rfl, ?_⟩; have p31 : 0 ≤ ((ji28) : Int) := of_decide_eq_true (by first | (with_reducible assumption) | assumption); have q31 : (ji28) < (sx18_0.size : Int) := of_decide_eq_true (by first | (with_reducible assumption) | assumption); have hx31 := bt_at sx18_0 (ji28); replace p31 := eq_true p31; replace q31 := eq_true q31) | ((with_reducible refine gate_callee (f := 65) rfl ?_); refine goesL_ (some 44) rfl rfl Tryz.func65 (by kernel_rfl) rfl #[.int .u8 (bt sx18_0 (ji28))] rfl (by (try simp only [List.map_toArray, List.map_cons, List.map_nil]); first | done | (simp only [hji28]; rfl) | rfl | (simp only [List.length_drop, List.length_take]; rfl)) ?_; (with_reducible refine (spec_short.calls (bt sx18_0 (ji28)) d1 _ A32.out).mono ?_); rintro e w' ⟨rfl, ⟨nd, rfl⟩⟩; refine ⟨_, rfl, ?_⟩) | ((with_reducible refine gate_builtin (b := .append) (xs := #[.tmp 39, .tmp 45]) rfl ?_); at_builtin; refine Kd.R_append (Kd.int .u8) (w0 := w) w.heap.size rfl (.tmp 39) (.tmp 45) 40 5 (.int .u8 0) 1 rfl Tryz.underlying40 info5 rfl (by decide) (by omega) u3 x3_1 d1 [.int .u8 d1] (fun _ => True) (fun _ => False) rfl rfl ?aP (fun _ hk => hk.elim) ?aF ?aO ?aB ?aS ?aL ?_; (case aP => exact rfl); (case aB => exact tB); (case aF => exact (fun _ _ => trivial)); (case aO => exact (uR HO_3.out)); (case aS => exact (below_size tB)); (case aL => have := LMc33.out; omega); intro p2 w34 ho hb hg hat; rw [← m7.out] at ho; have HB := sd (hb); have m8 := sd (ho); clear ho hb hg hat))
            go_roundg k1
            case measure => have := HK1.out; omega
            case rel => exact ⟨(l1), (wrap64 (x5_1 + 2)), tF, H', ⟨by have := HK1.out; omega⟩, ⟨uR m8.out⟩, ⟨tB⟩⟩
           ·rw [if_neg c33] at H
            exact absurd H (by simp)
          ·rw [if_neg c30] at H
           exact absurd H (by simp)
         ·rw [if_neg c29] at H
          exact absurd H (by simp)
       ·rw [if_neg c7] at H
        have c7b0 : ((bt sx18_0 x5_1) == 92) = false := beq_eq_false_iff_ne.mpr c7
        have c7b1 : ((bt sx18_0 x5_1) != 92) = true := bne_iff_ne.mpr c7
        by_cases c36 : x3_1.length < 140737488355328
        ·rw [if_pos c36] at H
         have LMc36 := sd c36
         clear c36
         obtain ⟨l2, f0⟩ : ∃ y_ : List Int, y_ = (x3_1 ++ [bt sx18_0 x5_1]) := ⟨_, rfl⟩
         replace H : (spec_Unquote.l0 k1 l2 sx18_0 (wrap64 (x5_1 + 1))) = some r := by first | (rw [f0]; with_reducible exact H) | (have H2_ := (Option.bind_some _ _).symm.trans H; rw [f0]; with_reducible exact H2_) | (have H2_ := (Option.bind_some _ _).symm.trans H; with_reducible exact H2_) | with_reducible exact H | (rw [f0]; exact H) | exact H
         have m9 := sd f0
         clear f0
         have H' := sd H
         clear H
         have p6 : 0 ≤ (x5_1 : Int) := of_decide_eq_true (by first | (with_reducible assumption) | assumption)
         have q6 : x5_1 < (sx18_0.size : Int) := of_decide_eq_true (by first | (with_reducible assumption) | assumption)
         have hx6 := bt_at sx18_0 x5_1
         replace p6 := eq_true p6
         replace q6 := eq_true q6
         have p35 : 0 ≤ (x5_1 : Int) := of_decide_eq_true (by first | (with_reducible assumption) | assumption)
         have q35 : x5_1 < (sx18_0.size : Int) := of_decide_eq_true (by first | (with_reducible assumption) | assumption)
         have hx35 := bt_at sx18_0 x5_1
         replace p35 := eq_true p35
         replace q35 := eq_true q35
         go_wp2_with (first | ((with_reducible refine gate_builtin (b := .append) (xs := #[.tmp 23, .tmp 27]) rfl ?_); at_builtin; refine Kd.R_append (Kd.int .u8) (w0 := w) w.heap.size rfl (.tmp 23) (.tmp 27) 40 5 (.int .u8 0) 1 rfl Tryz.underlying40 info5 rfl (by decide) (by omega) u3 x3_1 (bt sx18_0 x5_1) [.int .u8 (bt sx18_0 x5_1)] (fun _ => True) (fun _ => False) rfl rfl ?aP (fun _ hk => hk.elim) ?aF ?aO ?aB ?aS ?aL ?_; (case aP => exact rfl); (case aB => exact tB); (case aF => exact (fun _ _ => trivial)); (case aO => exact (uR HO_3.out)); (case aS => exact (below_size tB)); (case aL => have := LMc36.out; omega); intro p3 w37 ho hb hg hat; rw [← m9.out] at ho; have HB := sd (hb); have n0 := sd (ho); clear ho hb hg hat))
         go_roundg k1
         case measure => have := HK1.out; omega
         case rel => exact ⟨(l2), (wrap64 (x5_1 + 1)), tF, H', ⟨by have := HK1.out; omega⟩, ⟨uR n0.out⟩, ⟨tB⟩⟩
        ·rw [if_neg c36] at H
         exact absurd H (by simp)
      ·rw [if_neg c5] at H
       exact absurd H (by simp)
     ·rw [if_neg c4] at H
      have c4b0 : decide (x5_1 < (sx18_0.size : Int)) = false := decide_eq_false c4
      clear c4
      obtain rfl := Option.some.inj H
      have hcv38 := own_string (P := Tryz.prog) Tryz.underlying40 Tryz.underlying5 Tryz.underlying9 (Kd.own_of_R HO_3.out)
      go_wp2
      go_ret
      exact ⟨tE, tB⟩
  ·rw [if_neg c3] at H
   exact absurd H (by simp)
 ·rw [if_neg c2] at H
  exact absurd H (by simp)
end Go.Proofs.YtaihmpdhaikfkaaGreatDoor.PFnFjFloat
