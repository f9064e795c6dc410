/- Walks of functions that the law calls, printed and rewritten by program. -/
import Derived.Test.YtdacgdjjdifneaaGreatDoorV0
import Derived.Test.YtdacgdjjdifneaaGreatDoorV5
import Derived.Test.YtdacgdjjdifneaaGreatDoorV7
set_option linter.all false
set_option maxHeartbeats 16000000
set_option maxRecDepth 100000
namespace Go.Proofs.YtdacgdjjdifneaaGreatDoor.PFnGjFlattenOften
open Go.RowKit Go.Proofs.YtdacgdjjdifneaaGreatDoorW.PrintWords Go.Proofs.YtdacgdjjdifneaaGreatDoorW.PrintLast Go.Proofs.YtdacgdjjdifneaaGreatDoorW.PrintMore
attribute [local go_sem] max2_int min2_int max_two min_two max_three min_three max_four min_four
def spec_Read.f (k : Nat) (a0 : ByteArray) : Option (Int × ByteArray × List ByteArray × (List (S25)) × Bool) := (spec_Places.f k a0).bind fun a4 => (if a4.2.2.2.2.2 = true then ((spec_Tree.f k a0 a4.1 a4.2.1 a4.2.2.1 a4.2.2.2.1 a4.2.2.2.2.1).bind fun a8 => (some (a8.1, a8.2.1, a8.2.2.1, a8.2.2.2, true))) else (some (0, (⟨#[]⟩ : ByteArray), ([] : List ByteArray), ([] : List (S25)), false)))
theorem spec_Read.calls (k : Nat) (a0 : ByteArray) (r1 : Int) (r2 : ByteArray) (r3 : List ByteArray) (r4 : List (S25)) (r5 : Bool) (w : World) (h : spec_Read.f k a0 = some (r1, r2, r3, r4, r5)) :
  Calls Tryz.prog 8 #[.string a0] w fun e w' => ∃ v2_ v3_ : Value, e = .returned (.tuple #[.agg #[.int .i64 r1, .string r2, v2_, v3_], .bool r5]) ∧ Kd.R Kd.string 9 w' w.heap.size (fun _ => True) v2_ r3 ∧ Kd.R k25 25 w' w.heap.size (fun k_ => some k_ ≠ (v2_ : Value).ownBlock) v3_ r4 ∧ Below w.heap.size w w' := by
 have hu25 := Tryz.underlying25; have hu31 := Tryz.underlying31; have HB := sd (Below.refl w.heap.size w); have H : ((spec_Places.f k a0).bind fun a4 => (if a4.2.2.2.2.2 = true then ((spec_Tree.f k a0 a4.1 a4.2.1 a4.2.2.1 a4.2.2.2.1 a4.2.2.2.2.1).bind fun a8 => (some (a8.1, a8.2.1, a8.2.2.1, a8.2.2.2, true))) else (some (0, (⟨#[]⟩ : ByteArray), ([] : List ByteArray), ([] : List (S25)), false)))) = some (r1, r2, r3, r4, r5) := h; clear h; replace H := Option.bind_eq_some_iff.mp H; obtain ⟨⟨b4, b5, b6, b2, b3, d9⟩, A20, H⟩ := H
 try dsimp only at H
 have A2 := sd A20; clear A20
 by_cases c3 : d9 = true
 ·subst c3; rw [if_pos rfl] at H; replace H := Option.bind_eq_some_iff.mp H; obtain ⟨⟨c6, c8, d0, d1⟩, A40, H⟩ := H
  try dsimp only at H
  have A4 := sd A40; clear A40; simp only [Option.some.injEq, Prod.mk.injEq] at H; obtain ⟨rfl, rfl, rfl, rfl, rfl⟩ := H; go_enter Tryz.func8, Tryz.ntmps8
  go_wp2_with (first | ((with_reducible refine gate_dst (N := 2) rfl ?_); refine box_event ?hg (N := 2) ?hd (cs := #[.int .i64 0, .string (⟨#[]⟩ : ByteArray), .slice none 0 0, .slice none 0 0]) (t := 25) ?hr ?_; (case hd => rfl); (case hg => rfl); (case hr => exact tS); intro a2 hg w5 hbox hb; have a3 := sd hbox; have d5 := sd (leB hg tB); have d6 := sd (leB hg tB); have HB := sd (below_step tB hb); clear hb hbox hg) | ((with_reducible refine gate_callee (f := 5) rfl ?_); refine goesL_ (some 8) rfl rfl Tryz.func5 (by kernel_rfl) rfl #[.string a0] rfl tM ?_; (with_reducible refine (spec_Places.calls k a0 b4 b5 b6 b2 b3 true _ A2.out).mono ?_); rintro e w6 ⟨e0, e1, rfl, ho0, ho1, hb⟩; refine ⟨_, rfl, ?_⟩; have a5 := sd (Kd.R_lower ho0 (below_size tB)); have a6 := sd (Kd.R_lower ho1 (below_size tB)); have a3 := sd (blk_below (g := a2) (o := .cells #[.int .i64 0, .string (⟨#[]⟩ : ByteArray), .slice none 0 0, .slice none 0 0] 25 (0, 0)) tL hb); have HB := sd (below_step tB hb); clear hb ho0 ho1) | ((with_reducible refine gate_dst (N := 4) rfl ?_); refine box_event (by rfl) (N := 4) (by rfl) (cs := #[.int .i64 0, .int .i64 0, .int .i64 0, .slice none 0 0, .slice none 0 0]) (t := 31) tS ?_; intro a7 hg w7 hbox hb; have a5 := sd (Kd.R_below (uR a5.out) hb); have a6 := sd (Kd.R_below (Kd.R_elderB (uR a6.out) a7 (Nat.le_of_eq hg.symm)) hb); have a3 := sd (blk_below (g := a2) (o := .cells #[.int .i64 0, .string (⟨#[]⟩ : ByteArray), .slice none 0 0, .slice none 0 0] 25 (0, 0)) tL hb); have b1 := sd hbox; have d7 := sd (leB hg tB); have d8 := sd (leB hg tB); have HB := sd (below_step tB hb); have a9 := sd ((by rw [hg]; exact Nat.ne_of_lt (blk_lt (g := a2) (o := .cells #[.int .i64 0, .string (⟨#[]⟩ : ByteArray), .slice none 0 0, .slice none 0 0] 25 (0, 0)) tL) : a2 ≠ a7)); have b0 := sd ((by rw [hg]; exact Nat.ne_of_gt (blk_lt (g := a2) (o := .cells #[.int .i64 0, .string (⟨#[]⟩ : ByteArray), .slice none 0 0, .slice none 0 0] 25 (0, 0)) tL) : a7 ≠ a2)); clear hb hbox hg; have hnb8 := b0.out; have hnc8 := a9.out; obtain ⟨z0, z1, z2, z3, z4, y0, y1, y2, y3, y4⟩ := blk5 b1.out; obtain ⟨Ao10, co10, eo10⟩ := Kd.R_slice a5.out; subst eo10; obtain ⟨Ao11, co11, eo11⟩ := Kd.R_slice a6.out; subst eo11) | ((with_reducible refine gate_callee (f := 16) rfl ?_); refine goesL_ (some 16) rfl rfl Tryz.func16 (by kernel_rfl) rfl #[.string a0, .agg #[.int .i64 b4, .int .i64 b5, .int .i64 b6, .slice Ao10 b2.length co10, .slice Ao11 b3.length co11]] rfl tM ?_; (with_reducible refine (spec_Tree.calls k a0 b4 b5 b6 _ _ b2 _ _ b3 c6 c8 d0 d1 _ ?side1 ?side2 ?side3 ?side4 A4.out).mono ?_); (case side1 => refine (Kd.R_reads' (e := 54) (base := w.heap.size) (ok := fun k_ => True) (n := b2.length) (c := co10) ?_).2.2; exact (Kd.R_mono (uR (Kd.R_types a5.out b1.out (by decide))) (fun _ h_ => h_.1))); (case side2 => exact (Kd.R_reads' a5.out).2.1); (case side3 => refine (Kd.R_reads' (e := 31) (base := w.heap.size) (ok := fun k_ => (some k_ ≠ (.slice Ao10 b2.length co10 : Value).ownBlock ∧ k_ ≠ a7)) (n := b3.length) (c := co11) ?_).2.2; exact (Kd.R_mono (uR (Kd.R_mono a6.out (fun k_ hk => (⟨hk, hk.2⟩ : _ ∧ k_ ≠ a7)))) (fun _ h_ => h_.1))); (case side4 => exact (Kd.R_reads' a6.out).2.1); rintro e w12 ⟨e3, e4, rfl, ho0, ho1, hb⟩; refine ⟨_, rfl, ?_⟩; have a5 := sd (Kd.R_below (Kd.R_mono (uR (Kd.R_types a5.out b1.out (by decide))) (fun _ h_ => h_.1)) hb); have a6 := sd (Kd.R_below (Kd.R_mono (uR (Kd.R_mono a6.out (fun k_ hk => (⟨hk, hk.2⟩ : _ ∧ k_ ≠ a7)))) (fun _ h_ => h_.1)) hb); have c0 := sd (Kd.R_lower ho0 (below_size tB)); have c1 := sd (Kd.R_lower (Kd.R_newB ho1 (g := a2) (o := .cells #[.int .i64 0, .string (⟨#[]⟩ : ByteArray), .slice none 0 0, .slice none 0 0] 25 (0, 0)) tC) (below_size tB)); have a3 := sd (blk_below (g := a2) (o := .cells #[.int .i64 0, .string (⟨#[]⟩ : ByteArray), .slice none 0 0, .slice none 0 0] 25 (0, 0)) tC hb); have b1 := sd (blk_below (g := a7) tC hb); have HB := sd (below_step tB hb); clear hb ho0 ho1; have hcz13_0 : w12.cell? ⟨a2, 0, none⟩ = some (.int .i64 0) := (blk_cell a3.out 0).trans rfl; have hcz13_1 : w12.cell? ⟨a2, 1, none⟩ = some (.string (⟨#[]⟩ : ByteArray)) := (blk_cell a3.out 1).trans rfl; have hcz13_2 : w12.cell? ⟨a2, 2, none⟩ = some (.slice none 0 0) := (blk_cell a3.out 2).trans rfl; have hcz13_3 : w12.cell? ⟨a2, 3, none⟩ = some (.slice none 0 0) := (blk_cell a3.out 3).trans rfl; have hfz13_0 := blk_frozen a3.out 0; have hfz13_1 := blk_frozen a3.out 1; have hfz13_2 := blk_frozen a3.out 2; have hfz13_3 := blk_frozen a3.out 3; obtain ⟨Ao14, co14, eo14⟩ := Kd.R_slice c0.out; subst eo14; obtain ⟨Ao15, co15, eo15⟩ := Kd.R_slice c1.out; subst eo15))
  refine bodyPost_ret (results_ct rfl _ _ a2 25 #[.int .i64 c6, .string c8, .slice Ao14 d0.length co14, .slice Ao15 d1.length co15] (0, 0) _ rfl tC Tryz.underlying25 rfl (by kernel_rfl)) rfl ?_; exact ⟨_, _, tE, Kd.R_mono (uR (Kd.R_types c0.out a3.out (by decide))) (fun _ hk => trivial), Kd.R_mono (uR (Kd.R_mono c1.out (fun k_ hk => (⟨hk, hk.2⟩ : _ ∧ k_ ≠ a2)))) (fun _ hk => hk.1.1), tB⟩
 ·replace c3 := Bool.eq_false_iff.mpr c3; subst c3; rw [if_neg (show ¬ (false = true) by decide)] at H; simp only [Option.some.injEq, Prod.mk.injEq] at H; obtain ⟨rfl, rfl, rfl, rfl, rfl⟩ := H; go_enter Tryz.func8, Tryz.ntmps8
  go_wp2_with (first | ((with_reducible refine gate_dst (N := 2) rfl ?_); refine box_event ?hg (N := 2) ?hd (cs := #[.int .i64 0, .string (⟨#[]⟩ : ByteArray), .slice none 0 0, .slice none 0 0]) (t := 25) ?hr ?_; (case hd => rfl); (case hg => rfl); (case hr => exact tS); intro a2 hg w16 hbox hb; have a3 := sd hbox; have d5 := sd (leB hg tB); have d6 := sd (leB hg tB); have HB := sd (below_step tB hb); clear hb hbox hg) | ((with_reducible refine gate_callee (f := 5) rfl ?_); refine goesL_ (some 8) rfl rfl Tryz.func5 (by kernel_rfl) rfl #[.string a0] rfl tM ?_; (with_reducible refine (spec_Places.calls k a0 b4 b5 b6 b2 b3 false _ A2.out).mono ?_); rintro e w17 ⟨e0, e1, rfl, ho0, ho1, hb⟩; refine ⟨_, rfl, ?_⟩; have a5 := sd (Kd.R_lower ho0 (below_size tB)); have a6 := sd (Kd.R_lower ho1 (below_size tB)); have a3 := sd (blk_below (g := a2) (o := .cells #[.int .i64 0, .string (⟨#[]⟩ : ByteArray), .slice none 0 0, .slice none 0 0] 25 (0, 0)) tL hb); have HB := sd (below_step tB hb); clear hb ho0 ho1) | ((with_reducible refine gate_dst (N := 4) rfl ?_); refine box_event (by rfl) (N := 4) (by rfl) (cs := #[.int .i64 0, .int .i64 0, .int .i64 0, .slice none 0 0, .slice none 0 0]) (t := 31) tS ?_; intro a7 hg w18 hbox hb; have a5 := sd (Kd.R_below (uR a5.out) hb); have a6 := sd (Kd.R_below (Kd.R_elderB (uR a6.out) a7 (Nat.le_of_eq hg.symm)) hb); have a3 := sd (blk_below (g := a2) (o := .cells #[.int .i64 0, .string (⟨#[]⟩ : ByteArray), .slice none 0 0, .slice none 0 0] 25 (0, 0)) tL hb); have b1 := sd hbox; have d7 := sd (leB hg tB); have d8 := sd (leB hg tB); have HB := sd (below_step tB hb); have a9 := sd ((by rw [hg]; exact Nat.ne_of_lt (blk_lt (g := a2) (o := .cells #[.int .i64 0, .string (⟨#[]⟩ : ByteArray), .slice none 0 0, .slice none 0 0] 25 (0, 0)) tL) : a2 ≠ a7)); have b0 := sd ((by rw [hg]; exact Nat.ne_of_gt (blk_lt (g := a2) (o := .cells #[.int .i64 0, .string (⟨#[]⟩ : ByteArray), .slice none 0 0, .slice none 0 0] 25 (0, 0)) tL) : a7 ≠ a2)); clear hb hbox hg; have hnb19 := b0.out; have hnc19 := a9.out; obtain ⟨z0, z1, z2, z3, z4, y0, y1, y2, y3, y4⟩ := blk5 b1.out; obtain ⟨Ao21, co21, eo21⟩ := Kd.R_slice a5.out; subst eo21; obtain ⟨Ao22, co22, eo22⟩ := Kd.R_slice a6.out; subst eo22; have hcz23_0 : w18.cell? ⟨a2, 0, none⟩ = some (.int .i64 0) := (blk_cell a3.out 0).trans rfl; have hcz23_1 : w18.cell? ⟨a2, 1, none⟩ = some (.string (⟨#[]⟩ : ByteArray)) := (blk_cell a3.out 1).trans rfl; have hcz23_2 : w18.cell? ⟨a2, 2, none⟩ = some (.slice none 0 0) := (blk_cell a3.out 2).trans rfl; have hcz23_3 : w18.cell? ⟨a2, 3, none⟩ = some (.slice none 0 0) := (blk_cell a3.out 3).trans rfl; have hfz23_0 := blk_frozen a3.out 0; have hfz23_1 := blk_frozen a3.out 1; have hfz23_2 := blk_frozen a3.out 2; have hfz23_3 := blk_frozen a3.out 3))
  refine bodyPost_ret (results_ct rfl _ _ a2 25 #[.int .i64 0, .string (⟨#[]⟩ : ByteArray), .slice none 0 0, .slice none 0 0] (0, 0) _ rfl tC Tryz.underlying25 rfl (by kernel_rfl)) rfl ?_; exact ⟨_, _, tE, tN, tN, tB⟩
mutual
def spec_Character.j2 : Nat → ByteArray → Int → Int → Int → Int → Option (Int × Int × Bool)
 | 0, _, _, _, _, _ => none
 | k + 1, x0, x1, x7, x8, x9 => if (wrap64 ((x0.size : Int) - x1)) ≤ x8 then (some (65533, 1, false)) else (spec_Character.l0 k x0 x1 x7 x8 x9 1)
def spec_Character.l0 : Nat → ByteArray → Int → Int → Int → Int → Int → Option (Int × Int × Bool)
 | 0, _, _, _, _, _, _ => none
 | k + 1, x0, x1, x7, x8, x9, x10 => if x10 ≤ x8 then (if 0 ≤ (wrap64 (x1 + x10)) then (if (wrap64 (x1 + x10)) < (x0.size : Int) then (if (wrap64 (bt x0 (wrap64 (x1 + x10)))) < 128 then (some (65533, 1, false)) else (if (wrap64 (bt x0 (wrap64 (x1 + x10)))) > 191 then (some (65533, 1, false)) else (spec_Character.l0 k x0 x1 (wrap64 ((wrap64 ((wrap64 (x7 * 64)) + (wrap64 (bt x0 (wrap64 (x1 + x10)))))) - 128)) x8 x9 (wrap64 (x10 + 1))))) else (none)) else (none)) else (if x7 < x9 then (some (65533, 1, false)) else (if x7 > 1114111 then (some (65533, 1, false)) else ((spec_high.f x7).bind fun b7 => (if b7 = true then (some (65533, 1, false)) else ((spec_low.f x7).bind fun b8 => (if b8 = true then (some (65533, 1, false)) else (some (x7, wrap64 (x8 + 1), true))))))))
def spec_Character.j0 : Nat → ByteArray → Int → Int → Bool → Option (Int × Int × Bool)
 | 0, _, _, _, _ => none
 | k + 1, x0, x1, x7, x20 => if x20 = true then (spec_Character.j2 k x0 x1 (wrap64 (x7 - 192)) 1 128) else (if 224 ≤ x7 then (spec_Character.j1 k x0 x1 x7 (decide (x7 ≤ 239))) else (spec_Character.j1 k x0 x1 x7 false))
def spec_Character.j1 : Nat → ByteArray → Int → Int → Bool → Option (Int × Int × Bool)
 | 0, _, _, _, _ => none
 | k + 1, x0, x1, x7, x29 => if x29 = true then (spec_Character.j2 k x0 x1 (wrap64 (x7 - 224)) 2 2048) else (if 240 ≤ x7 then (if x7 ≤ 244 then (spec_Character.j2 k x0 x1 (wrap64 (x7 - 240)) 3 65536) else (some (65533, 1, false))) else (some (65533, 1, false)))
end
def spec_Character.f (k : Nat) (a0 : ByteArray) (a1 : Int) : Option (Int × Int × Bool) := if 0 ≤ a1 then (if a1 < (a0.size : Int) then (if (wrap64 (bt a0 a1)) < 128 then (some (wrap64 (bt a0 a1), 1, true)) else (if 194 ≤ (wrap64 (bt a0 a1)) then (spec_Character.j0 k a0 a1 (wrap64 (bt a0 a1)) (decide ((wrap64 (bt a0 a1)) ≤ 223))) else (spec_Character.j0 k a0 a1 (wrap64 (bt a0 a1)) false))) else (none)) else (none)
theorem spec_Character.mono_l : ∀ k, (∀ y0 y1 y2 y3 y4, LeO (spec_Character.j2 k y0 y1 y2 y3 y4) (spec_Character.j2 (k + 1) y0 y1 y2 y3 y4)) ∧ (∀ y0 y1 y2 y3 y4 y5, LeO (spec_Character.l0 k y0 y1 y2 y3 y4 y5) (spec_Character.l0 (k + 1) y0 y1 y2 y3 y4 y5)) ∧ (∀ y0 y1 y2 y3, LeO (spec_Character.j0 k y0 y1 y2 y3) (spec_Character.j0 (k + 1) y0 y1 y2 y3)) ∧ (∀ y0 y1 y2 y3, LeO (spec_Character.j1 k y0 y1 y2 y3) (spec_Character.j1 (k + 1) y0 y1 y2 y3))
 | 0 => ⟨fun _ _ _ _ _ r h => by simp [spec_Character.j2] at h, fun _ _ _ _ _ _ r h => by simp [spec_Character.l0] at h, fun _ _ _ _ r h => by simp [spec_Character.j0] at h, fun _ _ _ _ r h => by simp [spec_Character.j1] at h⟩
 | k + 1 => by
  obtain ⟨ih0, ih1, ih2, ih3⟩ := spec_Character.mono_l k; refine ⟨?_, ?_, ?_, ?_⟩
  ·intro y0 y1 y2 y3 y4; unfold spec_Character.j2
   repeat' first
   | (with_reducible exact ih0 _ _ _ _ _)
   | (with_reducible exact ih1 _ _ _ _ _ _)
   | (with_reducible exact ih2 _ _ _ _)
   | (with_reducible exact ih3 _ _ _ _)
   | (with_reducible exact LeO.refl _)
   | (with_reducible exact LeO.none _)
   | (with_reducible refine LeO.ite ?_ ?_)
   | (with_reducible refine LeO.bind ?_ (fun _ => ?_))
   | exact ih0 _ _ _ _ _
   | exact ih1 _ _ _ _ _ _
   | exact ih2 _ _ _ _
   | exact ih3 _ _ _ _
   | exact LeO.none _
   | refine LeO.ite ?_ ?_
   | refine LeO.bind ?_ (fun _ => ?_)
  ·intro y0 y1 y2 y3 y4 y5; unfold spec_Character.l0
   repeat' first
   | (with_reducible exact ih0 _ _ _ _ _)
   | (with_reducible exact ih1 _ _ _ _ _ _)
   | (with_reducible exact ih2 _ _ _ _)
   | (with_reducible exact ih3 _ _ _ _)
   | (with_reducible exact LeO.refl _)
   | (with_reducible exact LeO.none _)
   | (with_reducible refine LeO.ite ?_ ?_)
   | (with_reducible refine LeO.bind ?_ (fun _ => ?_))
   | exact ih0 _ _ _ _ _
   | exact ih1 _ _ _ _ _ _
   | exact ih2 _ _ _ _
   | exact ih3 _ _ _ _
   | exact LeO.none _
   | refine LeO.ite ?_ ?_
   | refine LeO.bind ?_ (fun _ => ?_)
  ·intro y0 y1 y2 y3; unfold spec_Character.j0
   repeat' first
   | (with_reducible exact ih0 _ _ _ _ _)
   | (with_reducible exact ih1 _ _ _ _ _ _)
   | (with_reducible exact ih2 _ _ _ _)
   | (with_reducible exact ih3 _ _ _ _)
   | (with_reducible exact LeO.refl _)
   | (with_reducible exact LeO.none _)
   | (with_reducible refine LeO.ite ?_ ?_)
   | (with_reducible refine LeO.bind ?_ (fun _ => ?_))
   | exact ih0 _ _ _ _ _
   | exact ih1 _ _ _ _ _ _
   | exact ih2 _ _ _ _
   | exact ih3 _ _ _ _
   | exact LeO.none _
   | refine LeO.ite ?_ ?_
   | refine LeO.bind ?_ (fun _ => ?_)
  ·intro y0 y1 y2 y3; unfold spec_Character.j1
   repeat' first
   | (with_reducible exact ih0 _ _ _ _ _)
   | (with_reducible exact ih1 _ _ _ _ _ _)
   | (with_reducible exact ih2 _ _ _ _)
   | (with_reducible exact ih3 _ _ _ _)
   | (with_reducible exact LeO.refl _)
   | (with_reducible exact LeO.none _)
   | (with_reducible refine LeO.ite ?_ ?_)
   | (with_reducible refine LeO.bind ?_ (fun _ => ?_))
   | exact ih0 _ _ _ _ _
   | exact ih1 _ _ _ _ _ _
   | exact ih2 _ _ _ _
   | exact ih3 _ _ _ _
   | exact LeO.none _
   | refine LeO.ite ?_ ?_
   | refine LeO.bind ?_ (fun _ => ?_)
theorem spec_Character.mono : ∀ a0 a1 k, LeO (spec_Character.f k a0 a1) (spec_Character.f (k + 1) a0 a1) := by
 intro a0 a1 k; obtain ⟨ih0, ih1, ih2, ih3⟩ := spec_Character.mono_l k; unfold spec_Character.f
 repeat' first
   | (with_reducible exact ih0 _ _ _ _ _)
   | (with_reducible exact ih1 _ _ _ _ _ _)
   | (with_reducible exact ih2 _ _ _ _)
   | (with_reducible exact ih3 _ _ _ _)
   | (with_reducible exact LeO.refl _)
   | (with_reducible exact LeO.none _)
   | (with_reducible refine LeO.ite ?_ ?_)
   | (with_reducible refine LeO.bind ?_ (fun _ => ?_))
   | exact ih0 _ _ _ _ _
   | exact ih1 _ _ _ _ _ _
   | exact ih2 _ _ _ _
   | exact ih3 _ _ _ _
   | exact LeO.none _
   | refine LeO.ite ?_ ?_
   | refine LeO.bind ?_ (fun _ => ?_)
theorem tl8_0 {P : Prop} (h : P := by
 simp only [Option.some.injEq, Prod.mk.injEq] at H; obtain ⟨rfl, rfl, rfl⟩ := H; have p21 : 0 ≤ ((ji18) : Int) := tX; have q21 : (ji18) < (a0.size : Int) := tX; have hx21 := bt_at a0 (ji18); replace p21 := eq_true p21; replace q21 := eq_true q21; go_wp2; go_ret3; exact ⟨by first | rfl | (simp; done) | (simp only [← hji18] <;> (first | rfl | simp)) | (simp [*]; done), tD⟩) : P := h
theorem spec_Character.calls (k : Nat) (a0 : ByteArray) (a1 : Int) (r1 : Int) (r2 : Int) (r3 : Bool) (w : World) (h : spec_Character.f k a0 a1 = some (r1, r2, r3)) :
  Calls Tryz.prog 28 #[.string a0, .int .i64 a1] w fun e w' => e = .returned (.tuple #[.int .i64 r1, .int .i64 r2, .bool r3]) ∧ Drawn0 w w' := by
 have H : (if 0 ≤ a1 then (if a1 < (a0.size : Int) then (if (wrap64 (bt a0 a1)) < 128 then (some (wrap64 (bt a0 a1), 1, true)) else (if 194 ≤ (wrap64 (bt a0 a1)) then (spec_Character.j0 k a0 a1 (wrap64 (bt a0 a1)) (decide ((wrap64 (bt a0 a1)) ≤ 223))) else (spec_Character.j0 k a0 a1 (wrap64 (bt a0 a1)) false))) else (none)) else (none)) = some (r1, r2, r3) := h; clear h
 by_cases c3 : 0 ≤ a1
 ·rw [if_pos c3] at H; have c3b0 : decide (0 ≤ a1) = true := decide_eq_true c3; clear c3
  by_cases c4 : a1 < (a0.size : Int)
  ·rw [if_pos c4] at H; have c4b0 : decide (a1 < (a0.size : Int)) = true := decide_eq_true c4; clear c4; have HC6 := sd H; clear H; have p5 : 0 ≤ (a1 : Int) := tX; have q5 : a1 < (a0.size : Int) := tX; have hx5 := bt_at a0 a1; replace p5 := eq_true p5; replace q5 := eq_true q5; go_enter Tryz.func28, Tryz.ntmps28; go_upto_block 0 with (fail)
   go_cut [7, 8, 9] (fun v7 v8 v9 wc => ∃ (kq : Nat) (x7_5 : Int) (x8_5 : Int) (x9_5 : Int), v7 = .int .i64 x7_5 ∧ v8 = .int .i64 x8_5 ∧ v9 = .int .i64 x9_5 ∧ Aside0 (spec_Character.j2 kq a0 a1 x7_5 x8_5 x9_5 = some (r1, r2, r3)) ∧ Aside0 (kq ≤ k) ∧ Drawn0 w wc)
   case first =>
    have H := HC6.out; clear HC6
    by_cases c7 : (wrap64 (bt a0 a1)) < 128
    ·rw [if_pos c7] at H; have c7b0 : decide ((wrap64 (bt a0 a1)) < 128) = true := decide_eq_true c7; clear c7; (first | rw [c7b0] | (simp only [i64_w, i32_w]; rw [c7b0]) | skip); simp only [Option.some.injEq, Prod.mk.injEq] at H; obtain ⟨rfl, rfl, rfl⟩ := H; go_wp2; go_ret3; exact ⟨tF, tD⟩
    ·rw [if_neg c7] at H; have c7b0 : decide ((wrap64 (bt a0 a1)) < 128) = false := decide_eq_false c7; clear c7; (first | rw [c7b0] | (simp only [i64_w, i32_w]; rw [c7b0]) | skip); have HC8 := sd H; clear H; go_upto_region 6 with (fail)
     go_cut [20] (fun v20 wc => ∃ (kq : Nat) (x20_7 : Bool), v20 = .bool x20_7 ∧ Aside0 (spec_Character.j0 kq a0 a1 (wrap64 (bt a0 a1)) x20_7 = some (r1, r2, r3)) ∧ Aside0 (kq ≤ k) ∧ Drawn0 w wc)
     case first =>
      have H := HC8.out; clear HC8
      by_cases c9 : 194 ≤ (wrap64 (bt a0 a1))
      ·rw [if_pos c9] at H; have c9b0 : decide (194 ≤ (wrap64 (bt a0 a1))) = true := decide_eq_true c9; clear c9; (first | rw [c9b0] | (simp only [i64_w, i32_w]; rw [c9b0]) | skip); have H' := sd H; clear H; go_wp2; go_meet
       case rel => exact ⟨_, (decide ((wrap64 (bt a0 a1)) ≤ 223)), tF, H', ⟨by first | omega | exact Nat.le_refl _⟩, tD⟩
      ·rw [if_neg c9] at H; have c9b0 : decide (194 ≤ (wrap64 (bt a0 a1))) = false := decide_eq_false c9; clear c9; (first | rw [c9b0] | (simp only [i64_w, i32_w]; rw [c9b0]) | skip); have H' := sd H; clear H; go_wp2; go_meet
       case rel => exact ⟨_, (false), tF, H', ⟨by first | omega | exact Nat.le_refl _⟩, tD⟩
     case rest =>
      clear HC8; obtain ⟨kq, x20_7, rfl, HA, HJ7, ⟨mc7, rfl⟩⟩ := hcut
      cases kq with
      | zero => exact absurd HA.out (by simp [spec_Character.j0])
      | succ kj7 =>
       have H := HA.out; clear HA; simp only [spec_Character.j0] at H
       by_cases c10 : x20_7 = true
       ·subst c10; rw [if_pos rfl] at H; have H' := sd H; clear H; go_wp2; go_meet
        case rel => exact ⟨_, (wrap64 ((wrap64 (bt a0 a1)) - 192)), (1), (128), tF, tF, tF, H', ⟨by have := HJ7.out; first | omega | exact Nat.le_refl _⟩, tD⟩
       ·replace c10 := Bool.eq_false_iff.mpr c10; subst c10; rw [if_neg (show ¬ (false = true) by decide)] at H; have HC11 := sd H; clear H; go_upto_region 8 with (fail)
        go_cut [29] (fun v29 wc => ∃ (kq : Nat) (x29_10 : Bool), v29 = .bool x29_10 ∧ Aside0 (spec_Character.j1 kq a0 a1 (wrap64 (bt a0 a1)) x29_10 = some (r1, r2, r3)) ∧ Aside0 (kq ≤ kj7) ∧ Drawn0 w wc)
        case first =>
         have H := HC11.out; clear HC11
         by_cases c12 : 224 ≤ (wrap64 (bt a0 a1))
         ·rw [if_pos c12] at H; have c12b0 : decide (224 ≤ (wrap64 (bt a0 a1))) = true := decide_eq_true c12; clear c12; (first | rw [c12b0] | (simp only [i64_w, i32_w]; rw [c12b0]) | skip); have H' := sd H; clear H; go_wp2; go_meet
          case rel => exact ⟨_, (decide ((wrap64 (bt a0 a1)) ≤ 239)), tF, H', ⟨by have := HJ7.out; first | omega | exact Nat.le_refl _⟩, tD⟩
         ·rw [if_neg c12] at H; have c12b0 : decide (224 ≤ (wrap64 (bt a0 a1))) = false := decide_eq_false c12; clear c12; (first | rw [c12b0] | (simp only [i64_w, i32_w]; rw [c12b0]) | skip); have H' := sd H; clear H; go_wp2; go_meet
          case rel => exact ⟨_, (false), tF, H', ⟨by have := HJ7.out; first | omega | exact Nat.le_refl _⟩, tD⟩
        case rest =>
         clear HC11; obtain ⟨kq, x29_10, rfl, HA, HJ10, ⟨mc10, rfl⟩⟩ := hcut
         cases kq with
         | zero => exact absurd HA.out (by simp [spec_Character.j1])
         | succ kj10 =>
          have H := HA.out; clear HA; simp only [spec_Character.j1] at H
          by_cases c13 : x29_10 = true
          ·subst c13; rw [if_pos rfl] at H; have H' := sd H; clear H; go_wp2; go_meet
           case rel => exact ⟨_, (wrap64 ((wrap64 (bt a0 a1)) - 224)), (2), (2048), tF, tF, tF, H', ⟨by have := HJ7.out; have := HJ10.out; first | omega | exact Nat.le_refl _⟩, tD⟩
          ·replace c13 := Bool.eq_false_iff.mpr c13; subst c13; rw [if_neg (show ¬ (false = true) by decide)] at H
           by_cases c14 : 240 ≤ (wrap64 (bt a0 a1))
           ·rw [if_pos c14] at H; have c14b0 : decide (240 ≤ (wrap64 (bt a0 a1))) = true := decide_eq_true c14; clear c14
            by_cases c15 : (wrap64 (bt a0 a1)) ≤ 244
            ·rw [if_pos c15] at H; have c15b0 : decide ((wrap64 (bt a0 a1)) ≤ 244) = true := decide_eq_true c15; clear c15; have H' := sd H; clear H; go_wp2; go_meet
             case rel => exact ⟨_, (wrap64 ((wrap64 (bt a0 a1)) - 240)), (3), (65536), tF, tF, tF, H', ⟨by have := HJ7.out; have := HJ10.out; first | omega | exact Nat.le_refl _⟩, tD⟩
            ·rw [if_neg c15] at H; have c15b0 : decide ((wrap64 (bt a0 a1)) ≤ 244) = false := decide_eq_false c15; clear c15; simp only [Option.some.injEq, Prod.mk.injEq] at H; obtain ⟨rfl, rfl, rfl⟩ := H; go_wp2; go_ret3; exact ⟨tF, tD⟩
           ·rw [if_neg c14] at H; have c14b0 : decide (240 ≤ (wrap64 (bt a0 a1))) = false := decide_eq_false c14; clear c14; simp only [Option.some.injEq, Prod.mk.injEq] at H; obtain ⟨rfl, rfl, rfl⟩ := H; go_wp2; go_ret3; exact ⟨tF, tD⟩
   case rest =>
    clear HC6; obtain ⟨kq, x7_5, x8_5, x9_5, rfl, rfl, rfl, HA, HJ5, ⟨mc5, rfl⟩⟩ := hcut
    cases kq with
    | zero => exact absurd HA.out (by simp [spec_Character.j2])
    | succ kj5 =>
     have H := HA.out; clear HA; simp only [spec_Character.j2] at H
     by_cases c16 : (wrap64 ((a0.size : Int) - a1)) ≤ x8_5
     ·rw [if_pos c16] at H; have c16b0 : decide ((wrap64 ((a0.size : Int) - a1)) ≤ x8_5) = true := decide_eq_true c16; clear c16; simp only [Option.some.injEq, Prod.mk.injEq] at H; obtain ⟨rfl, rfl, rfl⟩ := H; go_wp2; go_ret3; exact ⟨tF, tD⟩
     ·rw [if_neg c16] at H; have c16b0 : decide ((wrap64 ((a0.size : Int) - a1)) ≤ x8_5) = false := decide_eq_false c16; clear c16; have H' := sd H; clear H; go_wp2; (try simp only [Act.put, List.setIfInBounds_toArray, List.set_cons_zero, List.set_cons_succ]); go_loopg [7, 10] kj5 (fun kq v7 v10 w' => ∃ (x7_2 : Int) (x10_2 : Int), v7 = .int .i64 x7_2 ∧ v10 = .int .i64 x10_2 ∧ Aside0 (spec_Character.l0 kq a0 a1 x7_2 x8_5 x9_5 x10_2 = some (r1, r2, r3)) ∧ Aside0 (kq ≤ kj5) ∧ Drawn0 w w')
      case atStart => exact ⟨(x7_5), (1), tF, tF, H', ⟨Nat.le_refl _⟩, tD⟩
      case round =>
       clear H'; obtain ⟨x7_2, x10_2, rfl, rfl, HA, HK2, ⟨m2, rfl⟩⟩ := hrel
       cases gk with
       | zero => exact absurd HA.out (by simp [spec_Character.l0])
       | succ k2 =>
        have H := HA.out; clear HA; simp only [spec_Character.l0] at H
        by_cases c17 : x10_2 ≤ x8_5
        ·rw [if_pos c17] at H; have c17b0 : decide (x10_2 ≤ x8_5) = true := decide_eq_true c17; clear c17; obtain ⟨ji18, hji18⟩ : ∃ j_ : Int, (wrap64 (a1 + x10_2)) = j_ := ⟨_, rfl⟩
         replace H : (if 0 ≤ (ji18) then (if (ji18) < (a0.size : Int) then (if (wrap64 (bt a0 (ji18))) < 128 then (some (65533, 1, false)) else (if (wrap64 (bt a0 (ji18))) > 191 then (some (65533, 1, false)) else (spec_Character.l0 k2 a0 a1 (wrap64 ((wrap64 ((wrap64 (x7_2 * 64)) + (wrap64 (bt a0 (ji18))))) - 128)) x8_5 x9_5 (wrap64 (x10_2 + 1))))) else (none)) else (none)) = some (r1, r2, r3) := by first | (rw [hji18] at H; exact H) | (simp only [hji18] at H ⊢; exact H)
         have hji18w : (IntKind.i64.wrap (a1 + x10_2)) = ji18 := (i64_w _).trans hji18
         by_cases c19 : 0 ≤ (ji18)
         ·rw [if_pos c19] at H; have c19b0 : decide (0 ≤ (ji18)) = true := decide_eq_true c19; clear c19
          by_cases c20 : (ji18) < (a0.size : Int)
          ·rw [if_pos c20] at H; have c20b0 : decide ((ji18) < (a0.size : Int)) = true := decide_eq_true c20; clear c20
           by_cases c22 : (wrap64 (bt a0 (ji18))) < 128
           ·rw [if_pos c22] at H; have c22b0 : decide ((wrap64 (bt a0 (ji18))) < 128) = true := decide_eq_true c22; clear c22; exact tl8_0
           ·rw [if_neg c22] at H; have c22b0 : decide ((wrap64 (bt a0 (ji18))) < 128) = false := decide_eq_false c22; clear c22
            by_cases c23 : (wrap64 (bt a0 (ji18))) > 191
            ·rw [if_pos c23] at H; have c23b0 : decide (191 < (wrap64 (bt a0 (ji18)))) = true := decide_eq_true c23; clear c23; exact tl8_0
            ·rw [if_neg c23] at H; have c23b0 : decide (191 < (wrap64 (bt a0 (ji18)))) = false := decide_eq_false c23; clear c23; have H' := sd H; clear H; have p21 : 0 ≤ ((ji18) : Int) := tX; have q21 : (ji18) < (a0.size : Int) := tX; have hx21 := bt_at a0 (ji18); replace p21 := eq_true p21; replace q21 := eq_true q21; go_wp2; go_roundg k2
             case measure => have := HJ5.out; have := HK2.out; omega
             case rel => exact ⟨(wrap64 ((wrap64 ((wrap64 (x7_2 * 64)) + (wrap64 (bt a0 (ji18))))) - 128)), (wrap64 (x10_2 + 1)), (by first | rfl | (simp; done) | (simp only [← hji18] <;> (first | rfl | simp)) | (simp [*]; done)), tF, H', ⟨by have := HJ5.out; have := HK2.out; omega⟩, tD⟩
          ·rw [if_neg c20] at H; exact absurd H (by simp)
         ·rw [if_neg c19] at H; exact absurd H (by simp)
        ·rw [if_neg c17] at H; have c17b0 : decide (x10_2 ≤ x8_5) = false := decide_eq_false c17; clear c17
         by_cases c24 : x7_2 < x9_5
         ·rw [if_pos c24] at H; have c24b0 : decide (x7_2 < x9_5) = true := decide_eq_true c24; clear c24; simp only [Option.some.injEq, Prod.mk.injEq] at H; obtain ⟨rfl, rfl, rfl⟩ := H; go_wp2; go_ret3; exact ⟨tF, tD⟩
         ·rw [if_neg c24] at H; have c24b0 : decide (x7_2 < x9_5) = false := decide_eq_false c24; clear c24
          by_cases c25 : x7_2 > 1114111
          ·rw [if_pos c25] at H; have c25b0 : decide (1114111 < x7_2) = true := decide_eq_true c25; clear c25; simp only [Option.some.injEq, Prod.mk.injEq] at H; obtain ⟨rfl, rfl, rfl⟩ := H; go_wp2; go_ret3; exact ⟨tF, tD⟩
          ·rw [if_neg c25] at H; have c25b0 : decide (1114111 < x7_2) = false := decide_eq_false c25; clear c25; replace H := Option.bind_eq_some_iff.mp H; obtain ⟨b7, d2, H⟩ := H
           try dsimp only at H
           have A26 := sd d2; clear d2
           by_cases c27 : b7 = true
           ·subst c27; rw [if_pos rfl] at H; simp only [Option.some.injEq, Prod.mk.injEq] at H; obtain ⟨rfl, rfl, rfl⟩ := H; go_wp2_with (first | (go_at_call 30; (with_reducible refine (spec_high.calls x7_2 true _ A26.out).mono ?_); rintro e w' ⟨rfl, ⟨nd, rfl⟩⟩)); go_ret3; exact ⟨tF, tD⟩
           ·replace c27 := Bool.eq_false_iff.mpr c27; subst c27; rw [if_neg (show ¬ (false = true) by decide)] at H; replace H := Option.bind_eq_some_iff.mp H; obtain ⟨b8, d3, H⟩ := H
            try dsimp only at H
            have A28 := sd d3; clear d3
            by_cases c29 : b8 = true
            ·subst c29; rw [if_pos rfl] at H; simp only [Option.some.injEq, Prod.mk.injEq] at H; obtain ⟨rfl, rfl, rfl⟩ := H; go_wp2_with (first | (go_at_call 30; (with_reducible refine (spec_high.calls x7_2 false _ A26.out).mono ?_); rintro e w' ⟨rfl, ⟨nd, rfl⟩⟩) | (go_at_call 31; (with_reducible refine (spec_low.calls x7_2 true _ A28.out).mono ?_); rintro e w' ⟨rfl, ⟨nd, rfl⟩⟩)); go_ret3; exact ⟨tF, tD⟩
            ·replace c29 := Bool.eq_false_iff.mpr c29; subst c29; rw [if_neg (show ¬ (false = true) by decide)] at H; simp only [Option.some.injEq, Prod.mk.injEq] at H; obtain ⟨rfl, rfl, rfl⟩ := H; go_wp2_with (first | (go_at_call 30; (with_reducible refine (spec_high.calls x7_2 false _ A26.out).mono ?_); rintro e w' ⟨rfl, ⟨nd, rfl⟩⟩) | (go_at_call 31; (with_reducible refine (spec_low.calls x7_2 false _ A28.out).mono ?_); rintro e w' ⟨rfl, ⟨nd, rfl⟩⟩)); go_ret3; exact ⟨tF, tD⟩
  ·rw [if_neg c4] at H; exact absurd H (by simp)
 ·rw [if_neg c3] at H; exact absurd H (by simp)
def spec_UTF8.l0 : Nat → ByteArray → Int → Option (Bool)
 | 0, _, _ => none
 | k + 1, x0, x3 => if x3 < (x0.size : Int) then ((spec_Character.f k x0 x3).bind fun c5 => (if c5.2.2 = true then (spec_UTF8.l0 k x0 (wrap64 (x3 + c5.2.1))) else (some false))) else (some true)
def spec_UTF8.f (k : Nat) (a0 : ByteArray) : Option (Bool) := spec_UTF8.l0 k a0 0
theorem spec_UTF8.mono_l : ∀ k, (∀ y0 y1, LeO (spec_UTF8.l0 k y0 y1) (spec_UTF8.l0 (k + 1) y0 y1))
 | 0 => fun _ _ r h => by simp [spec_UTF8.l0] at h
 | k + 1 => by
  have ih0 := spec_UTF8.mono_l k
  ·intro y0 y1; unfold spec_UTF8.l0
   repeat' first
   | (with_reducible exact ih0 _ _)
   | (with_reducible exact spec_Character.mono _ _ _)
   | (with_reducible exact LeO.refl _)
   | (with_reducible exact LeO.none _)
   | (with_reducible refine LeO.ite ?_ ?_)
   | (with_reducible refine LeO.bind ?_ (fun _ => ?_))
   | exact ih0 _ _
   | exact spec_Character.mono _ _ _
   | exact LeO.none _
   | refine LeO.ite ?_ ?_
   | refine LeO.bind ?_ (fun _ => ?_)
theorem spec_UTF8.mono : ∀ a0 k, LeO (spec_UTF8.f k a0) (spec_UTF8.f (k + 1) a0) := by
 intro a0 k; have ih0 := spec_UTF8.mono_l k; unfold spec_UTF8.f
 repeat' first
   | (with_reducible exact ih0 _ _)
   | (with_reducible exact spec_Character.mono _ _ _)
   | (with_reducible exact LeO.refl _)
   | (with_reducible exact LeO.none _)
   | (with_reducible refine LeO.ite ?_ ?_)
   | (with_reducible refine LeO.bind ?_ (fun _ => ?_))
   | exact ih0 _ _
   | exact spec_Character.mono _ _ _
   | exact LeO.none _
   | refine LeO.ite ?_ ?_
   | refine LeO.bind ?_ (fun _ => ?_)
theorem spec_UTF8.calls (k : Nat) (a0 : ByteArray) (r : Bool) (w : World) (h : spec_UTF8.f k a0 = some r) :
  Calls Tryz.prog 17 #[.string a0] w fun e w' => e = .returned (.bool r) ∧ Drawn0 w w' := by
 have H : (spec_UTF8.l0 k a0 0) = some r := h; clear h; have H' := sd H; clear H; go_enter Tryz.func17, Tryz.ntmps17; go_wp2; (try simp only [Act.put, List.setIfInBounds_toArray, List.set_cons_zero, List.set_cons_succ]); go_loopg [3] k (fun kq v3 w' => ∃ (x3_1 : Int), v3 = .int .i64 x3_1 ∧ Aside0 (spec_UTF8.l0 kq a0 x3_1 = some r) ∧ Aside0 (kq ≤ k) ∧ Drawn0 w w')
 case atStart => exact ⟨(0), tF, H', ⟨Nat.le_refl _⟩, tD⟩
 case round =>
  clear H'; obtain ⟨x3_1, rfl, HA, HK1, ⟨m1, rfl⟩⟩ := hrel
  cases gk with
  | zero => exact absurd HA.out (by simp [spec_UTF8.l0])
  | succ k1 =>
   have H := HA.out; clear HA; simp only [spec_UTF8.l0] at H
   by_cases c2 : x3_1 < (a0.size : Int)
   ·rw [if_pos c2] at H; have c2b0 : decide (x3_1 < (a0.size : Int)) = true := decide_eq_true c2; clear c2; replace H := Option.bind_eq_some_iff.mp H; obtain ⟨⟨d4, b9, e2⟩, A30, H⟩ := H
    try dsimp only at H
    have A3 := sd A30; clear A30
    by_cases c4 : e2 = true
    ·subst c4; rw [if_pos rfl] at H; have H' := sd H; clear H; go_wp2_with (first | ((with_reducible refine gate_callee (f := 28) rfl ?_); refine goesL_ (some 14) rfl rfl Tryz.func28 (by kernel_rfl) rfl #[.string a0, .int .i64 x3_1] rfl tM ?_; (with_reducible refine (spec_Character.calls k1 a0 x3_1 d4 b9 true _ A3.out).mono ?_); rintro e w' ⟨rfl, ⟨nd, rfl⟩⟩; refine ⟨_, rfl, ?_⟩)); go_roundg k1
     case measure => have := HK1.out; omega
     case rel => exact ⟨(wrap64 (x3_1 + b9)), tF, H', ⟨by have := HK1.out; omega⟩, tD⟩
    ·replace c4 := Bool.eq_false_iff.mpr c4; subst c4; rw [if_neg (show ¬ (false = true) by decide)] at H; obtain rfl := Option.some.inj H; go_wp2_with (first | ((with_reducible refine gate_callee (f := 28) rfl ?_); refine goesL_ (some 14) rfl rfl Tryz.func28 (by kernel_rfl) rfl #[.string a0, .int .i64 x3_1] rfl tM ?_; (with_reducible refine (spec_Character.calls k1 a0 x3_1 d4 b9 false _ A3.out).mono ?_); rintro e w' ⟨rfl, ⟨nd, rfl⟩⟩; refine ⟨_, rfl, ?_⟩)); go_ret; exact ⟨tF, tD⟩
   ·rw [if_neg c2] at H; have c2b0 : decide (x3_1 < (a0.size : Int)) = false := decide_eq_false c2; clear c2; obtain rfl := Option.some.inj H; go_wp2; go_ret; exact ⟨tF, tD⟩
end Go.Proofs.YtdacgdjjdifneaaGreatDoor.PFnGjFlattenOften
