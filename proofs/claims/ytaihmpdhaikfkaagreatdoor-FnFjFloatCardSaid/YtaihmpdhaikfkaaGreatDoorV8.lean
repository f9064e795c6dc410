/- Walks of the functions that the law calls, printed by program and rewritten. -/
import Derived.Test.YtaihmpdhaikfkaaGreatDoorV0
import Derived.Test.YtaihmpdhaikfkaaGreatDoorV1
import Derived.Test.YtaihmpdhaikfkaaGreatDoorV2
import Derived.Test.YtaihmpdhaikfkaaGreatDoorV3
import Derived.Test.YtaihmpdhaikfkaaGreatDoorV6
import Derived.Test.YtaihmpdhaikfkaaGreatDoorV7
set_option linter.all false
namespace Go.Proofs.YtaihmpdhaikfkaaGreatDoor.PFnFjFloat
open Go.RowKit Go.Proofs.YtaihmpdhaikfkaaGreatDoorW.PrintWords Go.Proofs.YtaihmpdhaikfkaaGreatDoorW.PrintLast Go.Proofs.YtaihmpdhaikfkaaGreatDoorW.PrintMore
attribute [local go_sem] max2_int min2_int max_two min_two max_three min_three max_four min_four
/-! ### spec_Read: function 10 -/
def spec_Read.f (k : Nat) (a0 : ByteArray) : Option (Int × ByteArray × List ByteArray × (List (S25)) × Bool) := (spec_Places.f k a0).bind fun b7 => (if b7.2.2.2.2.2 = true then ((spec_Tree.f k a0 b7.1 b7.2.1 b7.2.2.1 b7.2.2.2.1 b7.2.2.2.2.1).bind fun c5 => (some (c5.1, c5.2.1, c5.2.2.1, c5.2.2.2, true))) else (some (0, (⟨#[]⟩ : ByteArray), ([] : List ByteArray), ([] : List (S25)), false)))
set_option maxHeartbeats 8000000 in
set_option maxRecDepth 100000 in
theorem spec_Read.calls (k : Nat) (a0 : ByteArray) (r1 : Int) (r2 : ByteArray) (r3 : List ByteArray) (r4 : List (S25)) (r5 : Bool) (w : World) (h : spec_Read.f k a0 = some (r1, r2, r3, r4, r5)) :
  Calls Tryz.prog 10 #[.string a0] w fun e w' => ∃ v2_ v3_ : Value, e = .returned (.tuple #[.agg #[.int .i64 r1, .string r2, v2_, v3_], .bool r5]) ∧ Kd.R Kd.string 9 w' w.heap.size (fun _ => True) v2_ r3 ∧ Kd.R k25 25 w' w.heap.size (fun k_ => some k_ ≠ (v2_ : Value).ownBlock) v3_ r4 ∧ Below w.heap.size w w' := by
 have hu25 := Tryz.underlying25
 have hu60 := Tryz.underlying60
 have HB := sd (Below.refl w.heap.size w)
 have H : ((spec_Places.f k a0).bind fun b7 => (if b7.2.2.2.2.2 = true then ((spec_Tree.f k a0 b7.1 b7.2.1 b7.2.2.1 b7.2.2.2.1 b7.2.2.2.2.1).bind fun c5 => (some (c5.1, c5.2.1, c5.2.2.1, c5.2.2.2, true))) else (some (0, (⟨#[]⟩ : ByteArray), ([] : List ByteArray), ([] : List (S25)), false)))) = some (r1, r2, r3, r4, r5) := h
 clear h
 replace H := Option.bind_eq_some_iff.mp H
 obtain ⟨⟨e9, f5, f6, d6, e6, j4⟩, A20, H⟩ := H
 try dsimp only at H
 have A2 := sd A20
 clear A20
 by_cases c3 : j4 = true
 ·subst c3
  rw [if_pos rfl] at H
  replace H := Option.bind_eq_some_iff.mp H
  obtain ⟨⟨g6, g7, g8, g9⟩, A40, H⟩ := H
  try dsimp only at H
  have A4 := sd A40
  clear A40
  simp only [Option.some.injEq, Prod.mk.injEq] at H
  obtain ⟨rfl, rfl, rfl, rfl, rfl⟩ := H
  go_enter Tryz.func10, Tryz.ntmps10
  go_wp2_with (first | ((with_reducible refine gate_dst (N := 2) rfl ?_); refine box_event ?hg (N := 2) ?hd (cs := #[.int .i64 0, .string (⟨#[]⟩ : ByteArray), .slice none 0 0, .slice none 0 0]) (t := 25) ?hr ?_; (case hd => rfl); (case hg => rfl); (case hr => exact tS); intro a9 hg w5 hbox hb; have b0 := sd (hbox); have i7 := sd (leB hg tB); have i8 := sd (leB hg tB); have HB := sd (below_step tB hb); clear hb hbox hg) | ((with_reducible refine gate_callee (f := 22) rfl ?_); refine goesL_ (some 8) rfl rfl Tryz.func22 (by kernel_rfl) rfl #[.string a0] rfl tM ?_; (with_reducible refine (spec_Places.calls k a0 e9 f5 f6 d6 e6 true _ A2.out).mono ?_); rintro e w6 ⟨j5, j6, rfl, ho0, ho1, hb⟩; refine ⟨_, rfl, ?_⟩; have c0 := sd (Kd.R_lower ho0 (below_size tB)); have c1 := sd (Kd.R_lower ho1 (below_size tB)); have b0 := sd (blk_below (g := a9) (o := .cells #[.int .i64 0, .string (⟨#[]⟩ : ByteArray), .slice none 0 0, .slice none 0 0] 25 (0, 0)) tL hb); have HB := sd (below_step tB hb); clear hb ho0 ho1) | ((with_reducible refine gate_dst (N := 4) rfl ?_); refine box_event (by rfl) (N := 4) (by rfl) (cs := #[.int .i64 0, .int .i64 0, .int .i64 0, .slice none 0 0, .slice none 0 0]) (t := 60) tS ?_; intro c2 hg w7 hbox hb; have c0 := sd (Kd.R_below (uR c0.out) hb); have c1 := sd (Kd.R_below (Kd.R_elderB (uR c1.out) c2 (Nat.le_of_eq hg.symm)) hb); have b0 := sd (blk_below (g := a9) (o := .cells #[.int .i64 0, .string (⟨#[]⟩ : ByteArray), .slice none 0 0, .slice none 0 0] 25 (0, 0)) tL hb); have d3 := sd (hbox); have i9 := sd (leB hg tB); have j1 := sd (leB hg tB); have HB := sd (below_step tB hb); have d1 := sd ((by rw [hg]; exact Nat.ne_of_lt (blk_lt (g := a9) (o := .cells #[.int .i64 0, .string (⟨#[]⟩ : ByteArray), .slice none 0 0, .slice none 0 0] 25 (0, 0)) tL) : a9 ≠ c2)); have d2 := sd ((by rw [hg]; exact Nat.ne_of_gt (blk_lt (g := a9) (o := .cells #[.int .i64 0, .string (⟨#[]⟩ : ByteArray), .slice none 0 0, .slice none 0 0] 25 (0, 0)) tL) : c2 ≠ a9)); clear hb hbox hg; have hnb8 := d2.out; have hnc8 := d1.out; obtain ⟨z0, z1, z2, z3, z4, y0, y1, y2, y3, y4⟩ := blk5 d3.out; obtain ⟨Ao10, co10, eo10⟩ := Kd.R_slice c0.out; subst eo10; obtain ⟨Ao11, co11, eo11⟩ := Kd.R_slice c1.out; subst eo11) | ((with_reducible refine gate_callee (f := 23) rfl ?_); refine goesL_ (some 16) rfl rfl Tryz.func23 (by kernel_rfl) rfl #[.string a0, .agg #[.int .i64 e9, .int .i64 f5, .int .i64 f6, .slice Ao10 d6.length co10, .slice Ao11 e6.length co11]] rfl tM ?_; (with_reducible refine (spec_Tree.calls k a0 e9 f5 f6 _ _ d6 _ _ e6 g6 g7 g8 g9 _ ?side1 ?side2 ?side3 ?side4 A4.out).mono ?_); (case side1 => refine (Kd.R_reads' (e := 90) (base := w.heap.size) (ok := fun k_ => True) (n := d6.length) (c := co10) ?_).2.2; exact (Kd.R_mono (uR (Kd.R_types c0.out d3.out (by decide))) (fun _ h_ => h_.1))); (case side2 => exact (Kd.R_reads' c0.out).2.1); (case side3 => refine (Kd.R_reads' (e := 60) (base := w.heap.size) (ok := fun k_ => (some k_ ≠ (.slice Ao10 d6.length co10 : Value).ownBlock ∧ k_ ≠ c2)) (n := e6.length) (c := co11) ?_).2.2; exact (Kd.R_mono (uR (Kd.R_mono c1.out (fun k_ hk => (⟨hk, hk.2⟩ : _ ∧ k_ ≠ c2)))) (fun _ h_ => h_.1))); (case side4 => exact (Kd.R_reads' c1.out).2.1); rintro e w12 ⟨l6, l7, rfl, ho0, ho1, hb⟩; refine ⟨_, rfl, ?_⟩; have c0 := sd (Kd.R_below (Kd.R_mono (uR (Kd.R_types c0.out d3.out (by decide))) (fun _ h_ => h_.1)) hb); have c1 := sd (Kd.R_below (Kd.R_mono (uR (Kd.R_mono c1.out (fun k_ hk => (⟨hk, hk.2⟩ : _ ∧ k_ ≠ c2)))) (fun _ h_ => h_.1)) hb); have g0 := sd (Kd.R_lower ho0 (below_size tB)); have g1 := sd (Kd.R_lower (Kd.R_newB ho1 (g := a9) (o := .cells #[.int .i64 0, .string (⟨#[]⟩ : ByteArray), .slice none 0 0, .slice none 0 0] 25 (0, 0)) tC) (below_size tB)); have b0 := sd (blk_below (g := a9) (o := .cells #[.int .i64 0, .string (⟨#[]⟩ : ByteArray), .slice none 0 0, .slice none 0 0] 25 (0, 0)) tC hb); have d3 := sd (blk_below (g := c2) tC hb); have HB := sd (below_step tB hb); clear hb ho0 ho1; have hcz13_0 : w12.cell? ⟨a9, 0, none⟩ = some (.int .i64 0) := (blk_cell b0.out 0).trans rfl; have hcz13_1 : w12.cell? ⟨a9, 1, none⟩ = some (.string (⟨#[]⟩ : ByteArray)) := (blk_cell b0.out 1).trans rfl; have hcz13_2 : w12.cell? ⟨a9, 2, none⟩ = some (.slice none 0 0) := (blk_cell b0.out 2).trans rfl; have hcz13_3 : w12.cell? ⟨a9, 3, none⟩ = some (.slice none 0 0) := (blk_cell b0.out 3).trans rfl; have hfz13_0 := blk_frozen b0.out 0; have hfz13_1 := blk_frozen b0.out 1; have hfz13_2 := blk_frozen b0.out 2; have hfz13_3 := blk_frozen b0.out 3; obtain ⟨Ao14, co14, eo14⟩ := Kd.R_slice g0.out; subst eo14; obtain ⟨Ao15, co15, eo15⟩ := Kd.R_slice g1.out; subst eo15))
  refine bodyPost_ret (results_ct rfl _ _ a9 25 #[.int .i64 g6, .string g7, .slice Ao14 g8.length co14, .slice Ao15 g9.length co15] (0, 0) _ rfl tC Tryz.underlying25 rfl (by kernel_rfl)) rfl ?_
  exact ⟨_, _, tE, Kd.R_mono (uR (Kd.R_types g0.out b0.out (by decide))) (fun _ hk => trivial), Kd.R_mono (uR (Kd.R_mono g1.out (fun k_ hk => (⟨hk, hk.2⟩ : _ ∧ k_ ≠ a9)))) (fun _ hk => hk.1.1), tB⟩
 ·replace c3 := Bool.eq_false_iff.mpr c3
  subst c3
  rw [if_neg (show ¬ (false = true) by decide)] at H
  simp only [Option.some.injEq, Prod.mk.injEq] at H
  obtain ⟨rfl, rfl, rfl, rfl, rfl⟩ := H
  go_enter Tryz.func10, Tryz.ntmps10
  go_wp2_with (first | ((with_reducible refine gate_dst (N := 2) rfl ?_); refine box_event ?hg (N := 2) ?hd (cs := #[.int .i64 0, .string (⟨#[]⟩ : ByteArray), .slice none 0 0, .slice none 0 0]) (t := 25) ?hr ?_; (case hd => rfl); (case hg => rfl); (case hr => exact tS); intro a9 hg w16 hbox hb; have b0 := sd (hbox); have i7 := sd (leB hg tB); have i8 := sd (leB hg tB); have HB := sd (below_step tB hb); clear hb hbox hg) | ((with_reducible refine gate_callee (f := 22) rfl ?_); refine goesL_ (some 8) rfl rfl Tryz.func22 (by kernel_rfl) rfl #[.string a0] rfl tM ?_; (with_reducible refine (spec_Places.calls k a0 e9 f5 f6 d6 e6 false _ A2.out).mono ?_); rintro e w17 ⟨j5, j6, rfl, ho0, ho1, hb⟩; refine ⟨_, rfl, ?_⟩; have c0 := sd (Kd.R_lower ho0 (below_size tB)); have c1 := sd (Kd.R_lower ho1 (below_size tB)); have b0 := sd (blk_below (g := a9) (o := .cells #[.int .i64 0, .string (⟨#[]⟩ : ByteArray), .slice none 0 0, .slice none 0 0] 25 (0, 0)) tL hb); have HB := sd (below_step tB hb); clear hb ho0 ho1) | ((with_reducible refine gate_dst (N := 4) rfl ?_); refine box_event (by rfl) (N := 4) (by rfl) (cs := #[.int .i64 0, .int .i64 0, .int .i64 0, .slice none 0 0, .slice none 0 0]) (t := 60) tS ?_; intro c2 hg w18 hbox hb; have c0 := sd (Kd.R_below (uR c0.out) hb); have c1 := sd (Kd.R_below (Kd.R_elderB (uR c1.out) c2 (Nat.le_of_eq hg.symm)) hb); have b0 := sd (blk_below (g := a9) (o := .cells #[.int .i64 0, .string (⟨#[]⟩ : ByteArray), .slice none 0 0, .slice none 0 0] 25 (0, 0)) tL hb); have d3 := sd (hbox); have i9 := sd (leB hg tB); have j1 := sd (leB hg tB); have HB := sd (below_step tB hb); have d1 := sd ((by rw [hg]; exact Nat.ne_of_lt (blk_lt (g := a9) (o := .cells #[.int .i64 0, .string (⟨#[]⟩ : ByteArray), .slice none 0 0, .slice none 0 0] 25 (0, 0)) tL) : a9 ≠ c2)); have d2 := sd ((by rw [hg]; exact Nat.ne_of_gt (blk_lt (g := a9) (o := .cells #[.int .i64 0, .string (⟨#[]⟩ : ByteArray), .slice none 0 0, .slice none 0 0] 25 (0, 0)) tL) : c2 ≠ a9)); clear hb hbox hg; have hnb19 := d2.out; have hnc19 := d1.out; obtain ⟨z0, z1, z2, z3, z4, y0, y1, y2, y3, y4⟩ := blk5 d3.out; obtain ⟨Ao21, co21, eo21⟩ := Kd.R_slice c0.out; subst eo21; obtain ⟨Ao22, co22, eo22⟩ := Kd.R_slice c1.out; subst eo22; have hcz23_0 : w18.cell? ⟨a9, 0, none⟩ = some (.int .i64 0) := (blk_cell b0.out 0).trans rfl; have hcz23_1 : w18.cell? ⟨a9, 1, none⟩ = some (.string (⟨#[]⟩ : ByteArray)) := (blk_cell b0.out 1).trans rfl; have hcz23_2 : w18.cell? ⟨a9, 2, none⟩ = some (.slice none 0 0) := (blk_cell b0.out 2).trans rfl; have hcz23_3 : w18.cell? ⟨a9, 3, none⟩ = some (.slice none 0 0) := (blk_cell b0.out 3).trans rfl; have hfz23_0 := blk_frozen b0.out 0; have hfz23_1 := blk_frozen b0.out 1; have hfz23_2 := blk_frozen b0.out 2; have hfz23_3 := blk_frozen b0.out 3))
  refine bodyPost_ret (results_ct rfl _ _ a9 25 #[.int .i64 0, .string (⟨#[]⟩ : ByteArray), .slice none 0 0, .slice none 0 0] (0, 0) _ rfl tC Tryz.underlying25 rfl (by kernel_rfl)) rfl ?_
  exact ⟨_, _, tE, tN, tN, tB⟩
/-! ### spec_Depth: function 11 -/
mutual
def spec_Depth.j0 : Nat → Bool → Int → ByteArray → List ByteArray → List (S25) → Option (Int)
 | 0, _, _, _, _, _ => none
 | k + 1, x12, d7, d8, d9, b9 => if x12 = true then (some 0) else (spec_Depth.l0 k 0 0 d7 d8 d9 b9)
def spec_Depth.l0 : Nat → Int → Int → Int → ByteArray → List ByteArray → List (S25) → Option (Int)
 | 0, _, _, _, _, _, _ => none
 | k + 1, x3, x4, d7, d8, d9, b9 => if x4 < (b9.length : Int) then (if 0 ≤ x4 then ((spec_Depth.f k ((rd_T25 b9 x4).f0) ((rd_T25 b9 x4).f1) ((rd_T25 b9 x4).f2) ((rd_T25 b9 x4).f3)).bind fun e0 => (spec_Depth.l0 k (mx x3 e0) (wrap64 (x4 + 1)) d7 d8 d9 b9)) else (none)) else (some (wrap64 (x3 + 1)))
def spec_Depth.f : Nat → Int → ByteArray → List ByteArray → List (S25) → Option (Int)
 | 0, _, _, _, _ => none
 | k + 1, a0_0, a0_1, l0_2, l0_3 => if a0_0 = 5 then (spec_Depth.j0 k false a0_0 a0_1 l0_2 l0_3) else (spec_Depth.j0 k (a0_0 != 6) a0_0 a0_1 l0_2 l0_3)
end
set_option maxHeartbeats 8000000 in
set_option maxRecDepth 100000 in
theorem spec_Depth.calls (k : Nat) : ∀ (a0_0 : Int) (a0_1 : ByteArray) (A0_2 : Option Addr) (c0_2 : Nat) (l0_2 : List ByteArray) (A0_3 : Option Addr) (c0_3 : Nat) (l0_3 : List (S25)) (r : Int) (w : World) (hr0_2 : Kd.C Kd.string w A0_2 l0_2.length l0_2) (hc0_2 : l0_2.length ≤ c0_2) (hr0_3 : Kd.C k25 w A0_3 l0_3.length l0_3) (hc0_3 : l0_3.length ≤ c0_3) (h : spec_Depth.f k a0_0 a0_1 l0_2 l0_3 = some r),
  Calls Tryz.prog 11 #[.agg #[.int .i64 a0_0, .string a0_1, .slice A0_2 l0_2.length c0_2, .slice A0_3 l0_3.length c0_3]] w fun e w' => e = .returned (.int .i64 r) ∧ Below w.heap.size w w' := by
 induction k using Nat.strongRecOn with
 | _ k ih =>
 intro a0_0 a0_1 A0_2 c0_2 l0_2 A0_3 c0_3 l0_3 r w hr0_2 hc0_2 hr0_3 hc0_3 h
 cases k with
 | zero => exact absurd h (by simp [spec_Depth.f])
 | succ k =>
 simp only [spec_Depth.f] at h
 have hu25 := Tryz.underlying25
 have HR0_2 := sd hr0_2
 have HC0_2 := sd hc0_2
 clear hr0_2 hc0_2
 have HR0_3 := sd hr0_3
 have HC0_3 := sd hc0_3
 clear hr0_3 hc0_3
 have HB := sd (Below.refl w.heap.size w)
 have H : (if a0_0 = 5 then (spec_Depth.j0 k false a0_0 a0_1 l0_2 l0_3) else (spec_Depth.j0 k (a0_0 != 6) a0_0 a0_1 l0_2 l0_3)) = some r := h
 clear h
 have HC2 := sd H
 clear H
 go_enter Tryz.func11, Tryz.ntmps11
 go_upto_region 1 with (first | ((with_reducible refine gate_dst (N := 1) rfl ?_); refine box_event (by rfl) (N := 1) (by rfl) (cs := #[.int .i64 a0_0, .string a0_1, .slice A0_2 l0_2.length c0_2, .slice A0_3 l0_3.length c0_3]) (t := 25) tS ?_; intro b4 hg w3 hbox hb; have a6 := sd (hbox); have l2 := sd (leB hg tB); have l3 := sd (leB hg tB); have HB := sd (below_step tB hb); clear hb hbox hg))
 (try simp only [Act.put, List.setIfInBounds_toArray, List.set_cons_zero, List.set_cons_succ])
 go_cut [12] (fun v12 wc => ∃ (kq : Nat) (x12_1 : Bool), v12 = .bool x12_1 ∧ Aside0 (spec_Depth.j0 kq x12_1 a0_0 a0_1 l0_2 l0_3 = some r) ∧ Aside0 (kq ≤ k) ∧ Aside0 (wc.heap[b4]? = some (.cells #[.int .i64 a0_0, .string a0_1, (.slice A0_2 l0_2.length c0_2), (.slice A0_3 l0_3.length c0_3)] 25 (0, 0))) ∧ Aside0 (Below w.heap.size w wc))
 case first =>
  have H := HC2.out
  clear HC2
  by_cases c4 : a0_0 = 5
  ·rw [if_pos c4] at H
   have c4b0 : (a0_0 == 5) = true := beq_iff_eq.mpr c4
   have c4b1 : (a0_0 != 5) = false := bne_eq_false_iff_eq.mpr c4
   clear c4
   (first | rw [c4b0] | (simp only [i64_w, i32_w]; rw [c4b0]) | skip)
   have H' := sd H
   clear H
   have hcz5_0 : w3.cell? ⟨b4, 0, none⟩ = some (.int .i64 a0_0) := (blk_cell a6.out 0).trans rfl
   have hcz5_1 : w3.cell? ⟨b4, 1, none⟩ = some (.string a0_1) := (blk_cell a6.out 1).trans rfl
   have hcz5_2 : w3.cell? ⟨b4, 2, none⟩ = some (.slice A0_2 l0_2.length c0_2) := (blk_cell a6.out 2).trans rfl
   have hcz5_3 : w3.cell? ⟨b4, 3, none⟩ = some (.slice A0_3 l0_3.length c0_3) := (blk_cell a6.out 3).trans rfl
   have hfz5_0 := blk_frozen a6.out 0
   have hfz5_1 := blk_frozen a6.out 1
   have hfz5_2 := blk_frozen a6.out 2
   have hfz5_3 := blk_frozen a6.out 3
   go_wp2
   go_meet
   case rel => exact ⟨_, (false), tF, H', ⟨by first | omega | exact Nat.le_refl _⟩, ⟨tL⟩, ⟨tB⟩⟩
  ·rw [if_neg c4] at H
   have c4b0 : (a0_0 == 5) = false := beq_eq_false_iff_ne.mpr c4
   have c4b1 : (a0_0 != 5) = true := bne_iff_ne.mpr c4
   (first | rw [c4b0] | (simp only [i64_w, i32_w]; rw [c4b0]) | skip)
   have H' := sd H
   clear H
   have hcz6_0 : w3.cell? ⟨b4, 0, none⟩ = some (.int .i64 a0_0) := (blk_cell a6.out 0).trans rfl
   have hcz6_1 : w3.cell? ⟨b4, 1, none⟩ = some (.string a0_1) := (blk_cell a6.out 1).trans rfl
   have hcz6_2 : w3.cell? ⟨b4, 2, none⟩ = some (.slice A0_2 l0_2.length c0_2) := (blk_cell a6.out 2).trans rfl
   have hcz6_3 : w3.cell? ⟨b4, 3, none⟩ = some (.slice A0_3 l0_3.length c0_3) := (blk_cell a6.out 3).trans rfl
   have hfz6_0 := blk_frozen a6.out 0
   have hfz6_1 := blk_frozen a6.out 1
   have hfz6_2 := blk_frozen a6.out 2
   have hfz6_3 := blk_frozen a6.out 3
   go_wp2
   go_meet
   case rel => exact ⟨_, ((a0_0 != 6)), tF, H', ⟨by first | omega | exact Nat.le_refl _⟩, ⟨tL⟩, ⟨tB⟩⟩
 case rest =>
  clear HC2
  obtain ⟨kq, x12_1, rfl, HA, HJ1, a6, HB⟩ := hcut
  cases kq with
  | zero => exact absurd HA.out (by simp [spec_Depth.j0])
  | succ kj1 =>
   have H := HA.out
   clear HA
   simp only [spec_Depth.j0] at H
   by_cases c7 : x12_1 = true
   ·subst c7
    rw [if_pos rfl] at H
    obtain rfl := Option.some.inj H
    go_wp2
    go_ret
    exact ⟨tE, tB⟩
   ·replace c7 := Bool.eq_false_iff.mpr c7
    subst c7
    rw [if_neg (show ¬ (false = true) by decide)] at H
    have H' := sd H
    clear H
    go_wp2
    (try simp only [Act.put, List.setIfInBounds_toArray, List.set_cons_zero, List.set_cons_succ])
    go_loopg [3, 4] kj1 (fun kq v3 v4 w' => ∃ (x3_2 : Int) (x4_2 : Int), v3 = .int .i64 x3_2 ∧ v4 = .int .i64 x4_2 ∧ Aside0 (spec_Depth.l0 kq x3_2 x4_2 a0_0 a0_1 l0_2 l0_3 = some r) ∧ Aside0 (kq ≤ kj1) ∧ Aside0 (w'.heap[b4]? = some (.cells #[.int .i64 a0_0, .string a0_1, (.slice A0_2 l0_2.length c0_2), (.slice A0_3 l0_3.length c0_3)] 25 (0, 0))) ∧ Aside0 (Below w.heap.size w w'))
    case atStart => exact ⟨(0), (0), tF, tF, H', ⟨Nat.le_refl _⟩, ⟨tL⟩, ⟨tB⟩⟩
    case round =>
     clear H'
     obtain ⟨x3_2, x4_2, rfl, rfl, HA, HK2, a6, HB⟩ := hrel
     cases gk with
     | zero => exact absurd HA.out (by simp [spec_Depth.l0])
     | succ k2 =>
      have H := HA.out
      clear HA
      simp only [spec_Depth.l0] at H
      by_cases c8 : x4_2 < (l0_3.length : Int)
      ·rw [if_pos c8] at H
       have c8b0 : decide (x4_2 < (l0_3.length : Int)) = true := decide_eq_true c8
       clear c8
       by_cases c9 : 0 ≤ x4_2
       ·rw [if_pos c9] at H
        have c9b0 : decide (0 ≤ x4_2) = true := decide_eq_true c9
        clear c9
        replace H := Option.bind_eq_some_iff.mp H
        obtain ⟨e0, e7, H⟩ := H
        try dsimp only at H
        have A10 := sd e7
        clear e7
        obtain ⟨ji11, hji11⟩ : ∃ j_ : Int, (mx x3_2 e0) = j_ := ⟨_, rfl⟩
        replace H : (spec_Depth.l0 k2 ji11 (wrap64 (x4_2 + 1)) a0_0 a0_1 l0_2 l0_3) = some r := by first | (rw [hji11] at H; exact H) | (simp only [hji11] at H ⊢; exact H)
        (try rw [hji11] at A10)
        have hji11_ : (if x3_2 < e0 then e0 else x3_2) = ji11 := hji11
        have H' := sd H
        clear H
        have hcz12_0 : wr.cell? ⟨b4, 0, none⟩ = some (.int .i64 a0_0) := (blk_cell a6.out 0).trans rfl
        have hcz12_1 : wr.cell? ⟨b4, 1, none⟩ = some (.string a0_1) := (blk_cell a6.out 1).trans rfl
        have hcz12_2 : wr.cell? ⟨b4, 2, none⟩ = some (.slice A0_2 l0_2.length c0_2) := (blk_cell a6.out 2).trans rfl
        have hcz12_3 : wr.cell? ⟨b4, 3, none⟩ = some (.slice A0_3 l0_3.length c0_3) := (blk_cell a6.out 3).trans rfl
        have hfz12_0 := blk_frozen a6.out 0
        have hfz12_1 := blk_frozen a6.out 1
        have hfz12_2 := blk_frozen a6.out 2
        have hfz12_3 := blk_frozen a6.out 3
        have f7 : 0 ≤ (x4_2 : Int) := of_decide_eq_true (by first | (with_reducible assumption) | assumption)
        have f8 : x4_2 < (l0_3.length : Int) := of_decide_eq_true (by first | (with_reducible assumption) | assumption)
        obtain ⟨ad395, i0, i1, i2, i3, e395, e1, e2, e3, e4, hl395_2, hi395_2, hl395_3, hi395_3⟩ := at_T25 HR0_3.out x4_2 f7 f8
        cases e395
        replace e1 := (HB.out.cell (World.block_lt_of_cell? w _ e1)).trans e1
        replace e2 := (HB.out.cell (World.block_lt_of_cell? w _ e2)).trans e2
        replace e3 := (HB.out.cell (World.block_lt_of_cell? w _ e3)).trans e3
        replace e4 := (HB.out.cell (World.block_lt_of_cell? w _ e4)).trans e4
        have g2 := sd hi395_2
        have g3 := sd hl395_2
        clear hi395_2 hl395_2
        have g4 := sd hi395_3
        have g5 := sd hl395_3
        clear hi395_3 hl395_3
        replace f7 := eq_true f7
        replace f8 := eq_true f8
        go_wp2_with (first | ((with_reducible refine gate_callee (f := 11) rfl ?_); refine goesL_ (some 26) rfl rfl Tryz.func11 (by kernel_rfl) rfl #[.agg #[.int .i64 ((rd_T25 l0_3 x4_2).f0), .string ((rd_T25 l0_3 x4_2).f1), .slice i0 ((rd_T25 l0_3 x4_2).f2).length i1, .slice i2 ((rd_T25 l0_3 x4_2).f3).length i3]] rfl tM ?_; (with_reducible refine (ih k2 (by have := HJ1.out; have := HK2.out; omega) ((rd_T25 l0_3 x4_2).f0) ((rd_T25 l0_3 x4_2).f1) _ _ ((rd_T25 l0_3 x4_2).f2) _ _ ((rd_T25 l0_3 x4_2).f3) e0 _ ?side1 ?side2 ?side3 ?side4 A10.out).mono ?_); (case side1 => repeat (first | exact (Kd.C_below g2.out HB.out) | (with_reducible refine Kd.C_alloc ?_ _) | (with_reducible refine Kd.C_drewN ?_ _) | (with_reducible refine Kd.C_drew ?_))); (case side2 => exact g3.out); (case side3 => repeat (first | exact (Kd.C_below g4.out HB.out) | (with_reducible refine Kd.C_alloc ?_ _) | (with_reducible refine Kd.C_drewN ?_ _) | (with_reducible refine Kd.C_drew ?_))); (case side4 => exact g5.out); rintro e w13 ⟨rfl, hb⟩; refine ⟨_, rfl, ?_⟩; have a6 := sd (blk_below (g := b4) tL hb); have HB := sd (below_step tB hb); clear hb))
        go_roundg k2
        case measure => have := HJ1.out; have := HK2.out; omega
        case rel => exact ⟨(ji11), (wrap64 (x4_2 + 1)), (by first | rfl | (simp; done) | (simp only [← hji11] <;> (first | rfl | simp)) | (simp [*]; done)), tF, H', ⟨by have := HJ1.out; have := HK2.out; omega⟩, ⟨tL⟩, ⟨tB⟩⟩
       ·rw [if_neg c9] at H
        exact absurd H (by simp)
      ·rw [if_neg c8] at H
       have c8b0 : decide (x4_2 < (l0_3.length : Int)) = false := decide_eq_false c8
       clear c8
       obtain rfl := Option.some.inj H
       have hcz14_0 : wr.cell? ⟨b4, 0, none⟩ = some (.int .i64 a0_0) := (blk_cell a6.out 0).trans rfl
       have hcz14_1 : wr.cell? ⟨b4, 1, none⟩ = some (.string a0_1) := (blk_cell a6.out 1).trans rfl
       have hcz14_2 : wr.cell? ⟨b4, 2, none⟩ = some (.slice A0_2 l0_2.length c0_2) := (blk_cell a6.out 2).trans rfl
       have hcz14_3 : wr.cell? ⟨b4, 3, none⟩ = some (.slice A0_3 l0_3.length c0_3) := (blk_cell a6.out 3).trans rfl
       have hfz14_0 := blk_frozen a6.out 0
       have hfz14_1 := blk_frozen a6.out 1
       have hfz14_2 := blk_frozen a6.out 2
       have hfz14_3 := blk_frozen a6.out 3
       go_wp2
       go_ret
       exact ⟨tE, tB⟩
/-! ### laws_fjText: function 4 -/
def laws_fjText.j0 : Nat → ByteArray → Bool → Option (Int × ByteArray × List ByteArray × (List (S25)) × Bool)
 | 0, _, _ => none
 | k + 1, x0, x18 => if x18 = true then (some (0, (⟨#[]⟩ : ByteArray), ([] : List ByteArray), ([] : List (S25)), false)) else ((spec_Read.f k x0).bind fun b8 => (if b8.2.2.2.2 = true then ((spec_Depth.f k b8.1 b8.2.1 b8.2.2.1 b8.2.2.2.1).bind fun f9 => (some (b8.1, b8.2.1, b8.2.2.1, b8.2.2.2.1, decide (f9 ≤ 250)))) else (some (b8.1, b8.2.1, b8.2.2.1, b8.2.2.2.1, false))))
def laws_fjText.f (k : Nat) (a0 : ByteArray) : Option (Int × ByteArray × List ByteArray × (List (S25)) × Bool) := if (a0.size : Int) > 4000 then (laws_fjText.j0 k a0 true) else ((spec_UTF8.f k a0).bind fun e8 => (if e8 = true then ((spec_Paired.f k a0).bind fun e5 => (laws_fjText.j0 k a0 (!e5))) else (laws_fjText.j0 k a0 true)))
def laws_fjText.T4 : Bool × List (List Nat × List Nat) := (true, [([], []), ([], []), ([1], [1]), ([2], [2]), ([3, 2, 2], [2, 3]), ([4, 2], [2, 4]), ([2, 5], [2, 5]), ([0, 4, 0], [0]), ([6, 7, 0, 1, 2, 3, 4, 5, 6, 7], [6])])
def laws_fjText.B4 : List Nat := [0, 0, 2, 6, 14, 30, 62, 31, 255]
theorem laws_fjText.tab4 : rtab .any (opsOf Tryz.f4 4) = laws_fjText.T4 := by kernel_rfl
theorem laws_fjText.bits4 : waitsOk laws_fjText.T4.2 laws_fjText.B4 = true := by kernel_rfl
set_option maxHeartbeats 8000000 in
set_option maxRecDepth 100000 in
theorem laws_fjText.calls (k : Nat) (a0 : ByteArray) (r1 : Int) (r2 : ByteArray) (r3 : List ByteArray) (r4 : List (S25)) (r5 : Bool) (w : World) (h : laws_fjText.f k a0 = some (r1, r2, r3, r4, r5)) :
  Calls Tryz.prog 4 #[.string a0] w fun e w' => ∃ v2_ v3_ : Value, e = .returned (.tuple #[.agg #[.int .i64 r1, .string r2, v2_, v3_], .bool r5]) ∧ Kd.R Kd.string 9 w' w.heap.size (fun _ => True) v2_ r3 ∧ Kd.R k25 25 w' w.heap.size (fun k_ => some k_ ≠ (v2_ : Value).ownBlock) v3_ r4 ∧ Below w.heap.size w w' := by
 have hu25 := Tryz.underlying25
 have HB := sd (Below.refl w.heap.size w)
 have H : (if (a0.size : Int) > 4000 then (laws_fjText.j0 k a0 true) else ((spec_UTF8.f k a0).bind fun e8 => (if e8 = true then ((spec_Paired.f k a0).bind fun e5 => (laws_fjText.j0 k a0 (!e5))) else (laws_fjText.j0 k a0 true)))) = some (r1, r2, r3, r4, r5) := h
 clear h
 have HC2 := sd H
 clear H
 go_enter Tryz.func4, Tryz.ntmps4
 go_upto_region 1 with (first | ((with_reducible refine gate_dst (N := 2) rfl ?_); refine box_event ?hg (N := 2) ?hd (cs := #[.int .i64 0, .string (⟨#[]⟩ : ByteArray), .slice none 0 0, .slice none 0 0]) (t := 25) ?hr ?_; (case hd => rfl); (case hg => rfl); (case hr => exact tS); intro a3 hg w3 hbox hb; have a4 := sd (hbox); have l4 := sd (leB hg tB); have l5 := sd (leB hg tB); have HB := sd (below_step tB hb); clear hb hbox hg))
 (try simp only [Act.put, List.setIfInBounds_toArray, List.set_cons_zero, List.set_cons_succ])
 go_cut [18] (fun v18 wc => ∃ (kq : Nat) (x18_1 : Bool), v18 = .bool x18_1 ∧ Aside0 (laws_fjText.j0 kq a0 x18_1 = some (r1, r2, r3, r4, r5)) ∧ Aside0 (kq ≤ k) ∧ Aside0 (wc.heap[a3]? = some (.cells #[.int .i64 0, .string (⟨#[]⟩ : ByteArray), (.slice none 0 0), (.slice none 0 0)] 25 (0, 0))) ∧ Aside0 (Below w.heap.size w wc))
 case first =>
  have H := HC2.out
  clear HC2
  by_cases c4 : (a0.size : Int) > 4000
  ·rw [if_pos c4] at H
   have c4b0 : decide (4000 < (a0.size : Int)) = true := decide_eq_true c4
   have c4b1 : decide (4000 < a0.size) = true := decide_eq_true (by omega)
   clear c4
   (first | rw [c4b0] | (simp only [i64_w, i32_w]; rw [c4b0]) | skip)
   have H' := sd H
   clear H
   go_wp2
   go_meet
   case rel => exact ⟨_, (true), tF, H', ⟨by first | omega | exact Nat.le_refl _⟩, ⟨tL⟩, ⟨tB⟩⟩
  ·rw [if_neg c4] at H
   have c4b0 : decide (4000 < (a0.size : Int)) = false := decide_eq_false c4
   have c4b1 : decide (4000 < a0.size) = false := decide_eq_false (by omega)
   clear c4
   (first | rw [c4b0] | (simp only [i64_w, i32_w]; rw [c4b0]) | skip)
   replace H := Option.bind_eq_some_iff.mp H
   obtain ⟨e8, A50, H⟩ := H
   try dsimp only at H
   have A5 := sd A50
   clear A50
   by_cases c6 : e8 = true
   ·subst c6
    rw [if_pos rfl] at H
    replace H := Option.bind_eq_some_iff.mp H
    obtain ⟨e5, A70, H⟩ := H
    try dsimp only at H
    have A7 := sd A70
    clear A70
    have H' := sd H
    clear H
    go_wp2_with (first | (go_at_call 8; (with_reducible refine (spec_UTF8.calls k a0 true _ A5.out).mono ?_); rintro e w' ⟨rfl, ⟨nd, rfl⟩⟩) | (go_at_call 9; (with_reducible refine (spec_Paired.calls k a0 e5 _ A7.out).mono ?_); rintro e w' ⟨rfl, ⟨nd, rfl⟩⟩))
    go_meet
    case rel => exact ⟨_, (!e5), tF, H', ⟨by first | omega | exact Nat.le_refl _⟩, ⟨tL⟩, ⟨tB⟩⟩
   ·replace c6 := Bool.eq_false_iff.mpr c6
    subst c6
    rw [if_neg (show ¬ (false = true) by decide)] at H
    have H' := sd H
    clear H
    go_wp2_with (first | (go_at_call 8; (with_reducible refine (spec_UTF8.calls k a0 false _ A5.out).mono ?_); rintro e w' ⟨rfl, ⟨nd, rfl⟩⟩))
    go_meet
    case rel => exact ⟨_, (true), tF, H', ⟨by first | omega | exact Nat.le_refl _⟩, ⟨tL⟩, ⟨tB⟩⟩
 case rest =>
  clear HC2
  obtain ⟨kq, x18_1, rfl, HA, HJ1, a4, HB⟩ := hcut
  cases kq with
  | zero => exact absurd HA.out (by simp [laws_fjText.j0])
  | succ kj1 =>
   have H := HA.out
   clear HA
   simp only [laws_fjText.j0] at H
   by_cases c8 : x18_1 = true
   ·subst c8
    rw [if_pos rfl] at H
    simp only [Option.some.injEq, Prod.mk.injEq] at H
    obtain ⟨rfl, rfl, rfl, rfl, rfl⟩ := H
    have hcz9_0 : wc.cell? ⟨a3, 0, none⟩ = some (.int .i64 0) := (blk_cell a4.out 0).trans rfl
    have hcz9_1 : wc.cell? ⟨a3, 1, none⟩ = some (.string (⟨#[]⟩ : ByteArray)) := (blk_cell a4.out 1).trans rfl
    have hcz9_2 : wc.cell? ⟨a3, 2, none⟩ = some (.slice none 0 0) := (blk_cell a4.out 2).trans rfl
    have hcz9_3 : wc.cell? ⟨a3, 3, none⟩ = some (.slice none 0 0) := (blk_cell a4.out 3).trans rfl
    have hfz9_0 := blk_frozen a4.out 0
    have hfz9_1 := blk_frozen a4.out 1
    have hfz9_2 := blk_frozen a4.out 2
    have hfz9_3 := blk_frozen a4.out 3
    go_wp2
    refine bodyPost_ret (results_ct rfl _ _ a3 25 #[.int .i64 0, .string (⟨#[]⟩ : ByteArray), .slice none 0 0, .slice none 0 0] (0, 0) _ rfl tC Tryz.underlying25 rfl (by kernel_rfl)) rfl ?_
    exact ⟨_, _, tE, tN, tN, tB⟩
   ·replace c8 := Bool.eq_false_iff.mpr c8
    subst c8
    rw [if_neg (show ¬ (false = true) by decide)] at H
    replace H := Option.bind_eq_some_iff.mp H
    obtain ⟨⟨b5, b6, b1, b2, j7⟩, e7, H⟩ := H
    try dsimp only at H
    have A10 := sd e7
    clear e7
    by_cases c11 : j7 = true
    ·subst c11
     rw [if_pos rfl] at H
     replace H := Option.bind_eq_some_iff.mp H
     obtain ⟨f9, i4, H⟩ := H
     try dsimp only at H
     have A12 := sd i4
     clear i4
     simp only [Option.some.injEq, Prod.mk.injEq] at H
     obtain ⟨rfl, rfl, rfl, rfl, rfl⟩ := H
     try go_wp2_with (first | ((with_reducible refine gate_callee (f := 10) rfl ?_); refine goesL_ (some 22) rfl rfl Tryz.func10 (by kernel_rfl) rfl #[.string a0] rfl tM ?_; (with_reducible refine (spec_Read.calls kj1 a0 b5 b6 b1 b2 true _ A10.out).mono ?_); rintro e w13 ⟨j8, j9, rfl, ho0, ho1, hb⟩; refine ⟨_, rfl, ?_⟩; have a7 := sd (Kd.R_lower ho0 (below_size tB)); have a8 := sd (Kd.R_lower (Kd.R_newB ho1 (g := a3) (o := .cells #[.int .i64 0, .string (⟨#[]⟩ : ByteArray), .slice none 0 0, .slice none 0 0] 25 (0, 0)) tL) (below_size tB)); have a4 := sd (blk_below (g := a3) (o := .cells #[.int .i64 0, .string (⟨#[]⟩ : ByteArray), .slice none 0 0, .slice none 0 0] 25 (0, 0)) tL hb); have HB := sd (below_step tB hb); clear hb ho0 ho1) | ((with_reducible refine gate_dst (N := 4) rfl ?_); refine box_event ?hg (N := 4) ?hd (cs := #[.int .i64 0, .string (⟨#[]⟩ : ByteArray), .slice none 0 0, .slice none 0 0]) (t := 25) ?hr ?_; (case hd => rfl); (case hg => rfl); (case hr => exact tS); intro a2 hg w14 hbox hb; have a7 := sd (Kd.R_below (uR a7.out) hb); have a8 := sd (Kd.R_below (Kd.R_elderB (uR a8.out) a2 (Nat.le_of_eq hg.symm)) hb); have a4 := sd (blk_below (g := a3) (o := .cells #[.int .i64 0, .string (⟨#[]⟩ : ByteArray), .slice none 0 0, .slice none 0 0] 25 (0, 0)) tL hb); have a5 := sd (hbox); have j2 := sd (leB hg tB); have j3 := sd (leB hg tB); have HB := sd (below_step tB hb); have b3 := sd ((by rw [hg]; exact Nat.ne_of_lt (blk_lt (g := a3) (o := .cells #[.int .i64 0, .string (⟨#[]⟩ : ByteArray), .slice none 0 0, .slice none 0 0] 25 (0, 0)) tL) : a3 ≠ a2)); have a1 := sd ((by rw [hg]; exact Nat.ne_of_gt (blk_lt (g := a3) (o := .cells #[.int .i64 0, .string (⟨#[]⟩ : ByteArray), .slice none 0 0, .slice none 0 0] 25 (0, 0)) tL) : a2 ≠ a3)); clear hb hbox hg; have hnb15 := a1.out; have hnc15 := b3.out; have hcz16_0 : w14.cell? ⟨a2, 0, none⟩ = some (.int .i64 0) := (blk_cell a5.out 0).trans rfl; have hcz16_1 : w14.cell? ⟨a2, 1, none⟩ = some (.string (⟨#[]⟩ : ByteArray)) := (blk_cell a5.out 1).trans rfl; have hcz16_2 : w14.cell? ⟨a2, 2, none⟩ = some (.slice none 0 0) := (blk_cell a5.out 2).trans rfl; have hcz16_3 : w14.cell? ⟨a2, 3, none⟩ = some (.slice none 0 0) := (blk_cell a5.out 3).trans rfl; have hfz16_0 := blk_frozen a5.out 0; have hfz16_1 := blk_frozen a5.out 1; have hfz16_2 := blk_frozen a5.out 2; have hfz16_3 := blk_frozen a5.out 3; obtain ⟨Ao17, co17, eo17⟩ := Kd.R_slice a7.out; subst eo17; obtain ⟨Ao18, co18, eo18⟩ := Kd.R_slice a8.out; subst eo18))
     have n0_ : Aside0 (Kd.R Kd.string 9 ((((w14.setCell ⟨a2, 0, none⟩ (.int .i64 b5)).setCell ⟨a2, 1, none⟩ (.string b6)).setCell ⟨a2, 2, none⟩ (.slice Ao17 b1.length co17)).setCell ⟨a2, 3, none⟩ (.slice Ao18 b2.length co18)) w.heap.size (fun _ => True) (.slice Ao17 b1.length co17) b1) := ⟨Kd.R_mono (uR (Kd.R_types a7.out a5.out (by decide))) (fun _ hk => trivial)⟩
     have n1_ : Aside0 (Kd.R k25 25 ((((w14.setCell ⟨a2, 0, none⟩ (.int .i64 b5)).setCell ⟨a2, 1, none⟩ (.string b6)).setCell ⟨a2, 2, none⟩ (.slice Ao17 b1.length co17)).setCell ⟨a2, 3, none⟩ (.slice Ao18 b2.length co18)) w.heap.size (fun k_ => some k_ ≠ (.slice Ao17 b1.length co17 : Value).ownBlock ∧ k_ ≠ a3 ∧ k_ ≠ a2) (.slice Ao18 b2.length co18) b2) := ⟨Kd.R_mono (uR (Kd.R_mono a8.out (fun k_ hk => (⟨hk, hk.2⟩ : _ ∧ k_ ≠ a2)))) (fun _ hk => ⟨hk.1.1.1, ⟨hk.1.1.2, hk.1.2⟩⟩)⟩
     have n2_ : Aside0 (((((w14.setCell ⟨a2, 0, none⟩ (.int .i64 b5)).setCell ⟨a2, 1, none⟩ (.string b6)).setCell ⟨a2, 2, none⟩ (.slice Ao17 b1.length co17)).setCell ⟨a2, 3, none⟩ (.slice Ao18 b2.length co18)).heap[a3]? = some (.cells #[.int .i64 0, .string (⟨#[]⟩ : ByteArray), .slice none 0 0, .slice none 0 0] 25 (0, 0))) := ⟨tC⟩
     have n3_ : Aside0 (((((w14.setCell ⟨a2, 0, none⟩ (.int .i64 b5)).setCell ⟨a2, 1, none⟩ (.string b6)).setCell ⟨a2, 2, none⟩ (.slice Ao17 b1.length co17)).setCell ⟨a2, 3, none⟩ (.slice Ao18 b2.length co18)).heap[a2]? = some (.cells #[.int .i64 b5, .string b6, .slice Ao17 b1.length co17, .slice Ao18 b2.length co18] 25 (0, 0))) := ⟨tC⟩
     have n4_ : Aside0 (Below w.heap.size w ((((w14.setCell ⟨a2, 0, none⟩ (.int .i64 b5)).setCell ⟨a2, 1, none⟩ (.string b6)).setCell ⟨a2, 2, none⟩ (.slice Ao17 b1.length co17)).setCell ⟨a2, 3, none⟩ (.slice Ao18 b2.length co18))) := ⟨tB⟩
     (try clear a7)
     (try clear a8)
     (try clear a4)
     (try clear a5)
     (try clear HB)
     generalize ((((w14.setCell ⟨a2, 0, none⟩ (.int .i64 b5)).setCell ⟨a2, 1, none⟩ (.string b6)).setCell ⟨a2, 2, none⟩ (.slice Ao17 b1.length co17)).setCell ⟨a2, 3, none⟩ (.slice Ao18 b2.length co18)) = w19 at n0_ n1_ n2_ n3_ n4_ ⊢
     have a7 := n0_
     have a8 := n1_
     have a4 := n2_
     have a5 := n3_
     have HB := n4_
     clear n0_ n1_ n2_ n3_ n4_
     have n0_ := sd (Kd.R_drew a7.out)
     have n1_ := sd (Kd.R_drew a8.out)
     have n2_ := sd (blk_drew a4.out)
     have n3_ := sd (blk_drew a5.out)
     have n4_ := sd (below_drew1 HB.out)
     clear a7
     clear a8
     clear a4
     clear a5
     clear HB
     have a7 := n0_
     have a8 := n1_
     have a4 := n2_
     have a5 := n3_
     have HB := n4_
     clear n0_ n1_ n2_ n3_ n4_
     refine start_ (n := 9) (S := fun w' => w'.cell? ⟨a2, 0, none⟩ = some (.int .i64 b5) ∧ w'.cell? ⟨a2, 1, none⟩ = some (.string b6) ∧ w'.cell? ⟨a2, 2, none⟩ = some (.slice Ao17 b1.length co17) ∧ w'.cell? ⟨a2, 3, none⟩ = some (.slice Ao18 b2.length co18)) (ds := []) #[false, false, false, false, false, false, false, false, false] (by kernel_rfl) rfl rfl ⟨(blk_cell a5.out 0).trans rfl, (blk_cell a5.out 1).trans rfl, (blk_cell a5.out 2).trans rfl, (blk_cell a5.out 3).trans rfl⟩ (fun hHeld => ?_); refine with_tabW laws_fjText.tab4 laws_fjText.bits4 (fun HT_ HW_ => ?_)
     generalize w19.drew = w20 at a7 a8 a4 a5 HB hHeld ⊢
     refine pure_ (i := 1) (N := some 26) (v := ?_) (a' := ?_) #[false, true, false, false, false, false, false, false, false] rfl rfl (any_of HT_.out (by kernel_rfl)) (fun _ _ _ h => h) (Or.inl ⟨by rfl, ?_⟩) ?_ ?_
     rotate_left
     ·intro w'
      go_simp
      with_reducible rfl
     rotate_left
     ·simp only [Act.put, List.setIfInBounds_toArray, List.set_cons_zero, List.set_cons_succ, i64_w, i32_w]
      rfl
     refine pure_ (i := 2) (N := some 27) (v := ?_) (a' := ?_) #[false, true, true, false, false, false, false, false, false] rfl rfl (any_of HT_.out (by kernel_rfl)) (fun _ _ _ h => h) (Or.inl ⟨by rfl, ?_⟩) ?_ ?_
     rotate_left
     ·intro w'
      go_simp
      with_reducible rfl
     rotate_left
     ·simp only [Act.put, List.setIfInBounds_toArray, List.set_cons_zero, List.set_cons_succ, i64_w, i32_w]
      rfl
     refine take_ (i := 0) (N := some 25) (v := ?_) (a' := ?_) #[true, true, true, false, false, false, false, false, false] rfl rfl (take_ofW HT_.out HW_.out (by kernel_rfl)) (fun _ _ _ h => h) (Or.inl ⟨by rfl, ?_⟩) hHeld ?_ ?_
     rotate_left
     ·rintro w' ⟨s0, s1, s2, s3⟩
      go_simp
      with_reducible rfl
     rotate_left
     ·simp only [Act.put, List.setIfInBounds_toArray, List.set_cons_zero, List.set_cons_succ, i64_w, i32_w]
      rfl
     refine take_ (i := 3) (N := some 28) (v := ?_) (a' := ?_) #[true, true, true, true, false, false, false, false, false] rfl rfl (take_ofW HT_.out HW_.out (by kernel_rfl)) (fun _ _ _ h => h) (Or.inl ⟨by rfl, ?_⟩) hHeld ?_ ?_
     rotate_left
     ·rintro w' ⟨s0, s1, s2, s3⟩
      go_simp
      with_reducible rfl
     rotate_left
     ·simp only [Act.put, List.setIfInBounds_toArray, List.set_cons_zero, List.set_cons_succ, i64_w, i32_w]
      rfl
     refine one_ (i := 4) (N := some 29) #[true, true, true, true, true, false, false, false, false] rfl rfl (one_of HT_.out (by kernel_rfl)) (by decide) (fun K hK => ?_)
     refine goes_ Tryz.func11 (by kernel_rfl) rfl #[.agg #[.int .i64 b5, .string b6, .slice Ao17 b1.length co17, .slice Ao18 b2.length co18]] (by rfl) rfl rfl tM ?_
     with_reducible refine (spec_Depth.calls kj1 b5 b6 _ _ b1 _ _ b2 f9 _ ?side1 ?side2 ?side3 ?side4 A12.out).mono ?_
     (case side1 => repeat (first | exact (Kd.R_reads' a7.out).2.2 | (with_reducible refine Kd.C_alloc ?_ _) | (with_reducible refine Kd.C_drewN ?_ _) | (with_reducible refine Kd.C_drew ?_)))
     (case side2 => exact (Kd.R_reads' a7.out).2.1)
     (case side3 => repeat (first | exact (Kd.R_reads' a8.out).2.2 | (with_reducible refine Kd.C_alloc ?_ _) | (with_reducible refine Kd.C_drewN ?_ _) | (with_reducible refine Kd.C_drew ?_)))
     (case side4 => exact (Kd.R_reads' a8.out).2.1)
     rintro e w21 ⟨rfl, hb⟩
     refine ⟨_, rfl, ?_⟩
     have n0_ := sd (Kd.R_below (uR a7.out) hb)
     have n1_ := sd (Kd.R_below (uR a8.out) hb)
     have n2_ := sd (blk_below (g := a3) (o := .cells #[.int .i64 0, .string (⟨#[]⟩ : ByteArray), .slice none 0 0, .slice none 0 0] 25 (0, 0)) tL hb)
     have n3_ := sd (blk_below (g := a2) tL hb)
     have n4_ := sd (below_step tB hb)
     clear a7
     clear a8
     clear a4
     clear a5
     clear HB
     have a7 := n0_
     have a8 := n1_
     have a4 := n2_
     have a5 := n3_
     have HB := n4_
     clear n0_ n1_ n2_ n3_ n4_
     (try clear hb)
     (try clear hb2)
     (try clear hk)
     (try clear hi)
     refine hK.out _ _ ⟨(blk_cell a5.out 0).trans rfl, (blk_cell a5.out 1).trans rfl, (blk_cell a5.out 2).trans rfl, (blk_cell a5.out 3).trans rfl⟩ (fun hHeld => ?_)
     clear hK K
     refine norm_ (a' := ?_) ?_ ?_
     rotate_left
     ·show Act.put _ (some 29) _ = _
      simp only [Act.put, List.setIfInBounds_toArray, List.set_cons_zero, List.set_cons_succ, i64_w, i32_w]
      rfl
     refine pure_ (i := 5) (N := some 30) (v := ?_) (a' := ?_) #[true, true, true, true, true, true, false, false, false] rfl rfl (any_of HT_.out (by kernel_rfl)) (fun _ _ _ h => h) (Or.inl ⟨by rfl, ?_⟩) ?_ ?_
     rotate_left
     ·intro w'
      go_simp
      with_reducible rfl
     rotate_left
     ·simp only [Act.put, List.setIfInBounds_toArray, List.set_cons_zero, List.set_cons_succ, i64_w, i32_w]
      rfl
     refine pure_ (i := 6) (N := some 31) (v := ?_) (a' := ?_) #[true, true, true, true, true, true, true, false, false] rfl rfl (any_of HT_.out (by kernel_rfl)) (fun _ _ _ h => h) (Or.inl ⟨by rfl, ?_⟩) ?_ ?_
     rotate_left
     ·intro w'
      go_simp
      with_reducible rfl
     rotate_left
     ·simp only [Act.put, List.setIfInBounds_toArray, List.set_cons_zero, List.set_cons_succ, i64_w, i32_w]
      rfl
     refine one_ (i := 7) (N := none) #[true, true, true, true, true, true, true, true, false] rfl rfl (one_of HT_.out (by kernel_rfl)) (by decide) (fun K hK => ?_)
     have hs22 : w21.cell? ⟨a3, 0, none⟩ = some (.int .i64 0) := (blk_cell a4.out 0).trans rfl
     have hfs22 := blk_frozen a4.out 0
     have hns22_1 := a1.out
     have hms22_1 := b3.out
     have hs23 : w21.cell? ⟨a3, 1, none⟩ = some (.string (⟨#[]⟩ : ByteArray)) := (blk_cell a4.out 1).trans rfl
     have hfs23 := blk_frozen a4.out 1
     have hns23_1 := a1.out
     have hms23_1 := b3.out
     have hs24 : w21.cell? ⟨a3, 2, none⟩ = some (.slice none 0 0) := (blk_cell a4.out 2).trans rfl
     have hfs24 := blk_frozen a4.out 2
     have hns24_1 := a1.out
     have hms24_1 := b3.out
     have hs25 : w21.cell? ⟨a3, 3, none⟩ = some (.slice none 0 0) := (blk_cell a4.out 3).trans rfl
     have hfs25 := blk_frozen a4.out 3
     have hns25_1 := a1.out
     have hms25_1 := b3.out
     refine skip_ (w1 := ?_) (by rfl) rfl ?_ ?_
     rotate_left
     ·go_simp
      rfl
     refine hK.out _ _ ⟨((cell_far (p := ⟨a3, _, none⟩) a1.out _).trans (((cell_far (p := ⟨a3, _, none⟩) a1.out _).trans (((cell_far (p := ⟨a3, _, none⟩) a1.out _).trans (((cell_far (p := ⟨a3, _, none⟩) a1.out _).trans (hHeld.1)))))))), ((cell_far (p := ⟨a3, _, none⟩) a1.out _).trans (((cell_far (p := ⟨a3, _, none⟩) a1.out _).trans (((cell_far (p := ⟨a3, _, none⟩) a1.out _).trans (((cell_far (p := ⟨a3, _, none⟩) a1.out _).trans (hHeld.2.1)))))))), ((cell_far (p := ⟨a3, _, none⟩) a1.out _).trans (((cell_far (p := ⟨a3, _, none⟩) a1.out _).trans (((cell_far (p := ⟨a3, _, none⟩) a1.out _).trans (((cell_far (p := ⟨a3, _, none⟩) a1.out _).trans (hHeld.2.2.1)))))))), ((cell_far (p := ⟨a3, _, none⟩) a1.out _).trans (((cell_far (p := ⟨a3, _, none⟩) a1.out _).trans (((cell_far (p := ⟨a3, _, none⟩) a1.out _).trans (((cell_far (p := ⟨a3, _, none⟩) a1.out _).trans (hHeld.2.2.2))))))))⟩ (fun hHeld => ?_)
     clear hK K
     refine pure_ (i := 8) (N := some 3) (v := ?_) (a' := ?_) #[true, true, true, true, true, true, true, true, true] rfl rfl (any_of HT_.out (by kernel_rfl)) (fun _ _ _ h => h) (Or.inl ⟨by rfl, ?_⟩) ?_ ?_
     rotate_left
     ·intro w'
      go_simp
      with_reducible rfl
     rotate_left
     ·simp only [Act.put, List.setIfInBounds_toArray, List.set_cons_zero, List.set_cons_succ, i64_w, i32_w]
      rfl
     refine done_ (done_of HT_.out (by kernel_rfl)) ?_
     try go_wp2
     refine bodyPost_ret (results_ct rfl _ _ a3 25 #[.int .i64 b5, .string b6, .slice Ao17 b1.length co17, .slice Ao18 b2.length co18] (0, 0) _ rfl tC Tryz.underlying25 rfl (by kernel_rfl)) rfl ?_
     exact ⟨_, _, tE, Kd.R_mono (uR (Kd.R_types a7.out a4.out (by decide))) (fun _ hk => trivial), Kd.R_mono (uR (Kd.R_mono a8.out (fun k_ hk => (⟨hk, hk.2.1⟩ : _ ∧ k_ ≠ a3)))) (fun _ hk => hk.1.1), tB⟩
    ·replace c11 := Bool.eq_false_iff.mpr c11
     subst c11
     rw [if_neg (show ¬ (false = true) by decide)] at H
     simp only [Option.some.injEq, Prod.mk.injEq] at H
     obtain ⟨rfl, rfl, rfl, rfl, rfl⟩ := H
     try go_wp2_with (first | ((with_reducible refine gate_callee (f := 10) rfl ?_); refine goesL_ (some 22) rfl rfl Tryz.func10 (by kernel_rfl) rfl #[.string a0] rfl tM ?_; (with_reducible refine (spec_Read.calls kj1 a0 b5 b6 b1 b2 false _ A10.out).mono ?_); rintro e w26 ⟨j8, j9, rfl, ho0, ho1, hb⟩; refine ⟨_, rfl, ?_⟩; have a7 := sd (Kd.R_lower ho0 (below_size tB)); have a8 := sd (Kd.R_lower (Kd.R_newB ho1 (g := a3) (o := .cells #[.int .i64 0, .string (⟨#[]⟩ : ByteArray), .slice none 0 0, .slice none 0 0] 25 (0, 0)) tL) (below_size tB)); have a4 := sd (blk_below (g := a3) (o := .cells #[.int .i64 0, .string (⟨#[]⟩ : ByteArray), .slice none 0 0, .slice none 0 0] 25 (0, 0)) tL hb); have HB := sd (below_step tB hb); clear hb ho0 ho1) | ((with_reducible refine gate_dst (N := 4) rfl ?_); refine box_event ?hg (N := 4) ?hd (cs := #[.int .i64 0, .string (⟨#[]⟩ : ByteArray), .slice none 0 0, .slice none 0 0]) (t := 25) ?hr ?_; (case hd => rfl); (case hg => rfl); (case hr => exact tS); intro a2 hg w27 hbox hb; have a7 := sd (Kd.R_below (uR a7.out) hb); have a8 := sd (Kd.R_below (Kd.R_elderB (uR a8.out) a2 (Nat.le_of_eq hg.symm)) hb); have a4 := sd (blk_below (g := a3) (o := .cells #[.int .i64 0, .string (⟨#[]⟩ : ByteArray), .slice none 0 0, .slice none 0 0] 25 (0, 0)) tL hb); have a5 := sd (hbox); have j2 := sd (leB hg tB); have j3 := sd (leB hg tB); have HB := sd (below_step tB hb); have b3 := sd ((by rw [hg]; exact Nat.ne_of_lt (blk_lt (g := a3) (o := .cells #[.int .i64 0, .string (⟨#[]⟩ : ByteArray), .slice none 0 0, .slice none 0 0] 25 (0, 0)) tL) : a3 ≠ a2)); have a1 := sd ((by rw [hg]; exact Nat.ne_of_gt (blk_lt (g := a3) (o := .cells #[.int .i64 0, .string (⟨#[]⟩ : ByteArray), .slice none 0 0, .slice none 0 0] 25 (0, 0)) tL) : a2 ≠ a3)); clear hb hbox hg; have hnb28 := a1.out; have hnc28 := b3.out; have hcz29_0 : w27.cell? ⟨a2, 0, none⟩ = some (.int .i64 0) := (blk_cell a5.out 0).trans rfl; have hcz29_1 : w27.cell? ⟨a2, 1, none⟩ = some (.string (⟨#[]⟩ : ByteArray)) := (blk_cell a5.out 1).trans rfl; have hcz29_2 : w27.cell? ⟨a2, 2, none⟩ = some (.slice none 0 0) := (blk_cell a5.out 2).trans rfl; have hcz29_3 : w27.cell? ⟨a2, 3, none⟩ = some (.slice none 0 0) := (blk_cell a5.out 3).trans rfl; have hfz29_0 := blk_frozen a5.out 0; have hfz29_1 := blk_frozen a5.out 1; have hfz29_2 := blk_frozen a5.out 2; have hfz29_3 := blk_frozen a5.out 3; obtain ⟨Ao30, co30, eo30⟩ := Kd.R_slice a7.out; subst eo30; obtain ⟨Ao31, co31, eo31⟩ := Kd.R_slice a8.out; subst eo31))
     have n0_ : Aside0 (Kd.R Kd.string 9 ((((w27.setCell ⟨a2, 0, none⟩ (.int .i64 b5)).setCell ⟨a2, 1, none⟩ (.string b6)).setCell ⟨a2, 2, none⟩ (.slice Ao30 b1.length co30)).setCell ⟨a2, 3, none⟩ (.slice Ao31 b2.length co31)) w.heap.size (fun _ => True) (.slice Ao30 b1.length co30) b1) := ⟨Kd.R_mono (uR (Kd.R_types a7.out a5.out (by decide))) (fun _ hk => trivial)⟩
     have n1_ : Aside0 (Kd.R k25 25 ((((w27.setCell ⟨a2, 0, none⟩ (.int .i64 b5)).setCell ⟨a2, 1, none⟩ (.string b6)).setCell ⟨a2, 2, none⟩ (.slice Ao30 b1.length co30)).setCell ⟨a2, 3, none⟩ (.slice Ao31 b2.length co31)) w.heap.size (fun k_ => some k_ ≠ (.slice Ao30 b1.length co30 : Value).ownBlock ∧ k_ ≠ a3 ∧ k_ ≠ a2) (.slice Ao31 b2.length co31) b2) := ⟨Kd.R_mono (uR (Kd.R_mono a8.out (fun k_ hk => (⟨hk, hk.2⟩ : _ ∧ k_ ≠ a2)))) (fun _ hk => ⟨hk.1.1.1, ⟨hk.1.1.2, hk.1.2⟩⟩)⟩
     have n2_ : Aside0 (((((w27.setCell ⟨a2, 0, none⟩ (.int .i64 b5)).setCell ⟨a2, 1, none⟩ (.string b6)).setCell ⟨a2, 2, none⟩ (.slice Ao30 b1.length co30)).setCell ⟨a2, 3, none⟩ (.slice Ao31 b2.length co31)).heap[a3]? = some (.cells #[.int .i64 0, .string (⟨#[]⟩ : ByteArray), .slice none 0 0, .slice none 0 0] 25 (0, 0))) := ⟨tC⟩
     have n3_ : Aside0 (((((w27.setCell ⟨a2, 0, none⟩ (.int .i64 b5)).setCell ⟨a2, 1, none⟩ (.string b6)).setCell ⟨a2, 2, none⟩ (.slice Ao30 b1.length co30)).setCell ⟨a2, 3, none⟩ (.slice Ao31 b2.length co31)).heap[a2]? = some (.cells #[.int .i64 b5, .string b6, .slice Ao30 b1.length co30, .slice Ao31 b2.length co31] 25 (0, 0))) := ⟨tC⟩
     have n4_ : Aside0 (Below w.heap.size w ((((w27.setCell ⟨a2, 0, none⟩ (.int .i64 b5)).setCell ⟨a2, 1, none⟩ (.string b6)).setCell ⟨a2, 2, none⟩ (.slice Ao30 b1.length co30)).setCell ⟨a2, 3, none⟩ (.slice Ao31 b2.length co31))) := ⟨tB⟩
     (try clear a7)
     (try clear a8)
     (try clear a4)
     (try clear a5)
     (try clear HB)
     generalize ((((w27.setCell ⟨a2, 0, none⟩ (.int .i64 b5)).setCell ⟨a2, 1, none⟩ (.string b6)).setCell ⟨a2, 2, none⟩ (.slice Ao30 b1.length co30)).setCell ⟨a2, 3, none⟩ (.slice Ao31 b2.length co31)) = w32 at n0_ n1_ n2_ n3_ n4_ ⊢
     have a7 := n0_
     have a8 := n1_
     have a4 := n2_
     have a5 := n3_
     have HB := n4_
     clear n0_ n1_ n2_ n3_ n4_
     have n0_ := sd (Kd.R_drew a7.out)
     have n1_ := sd (Kd.R_drew a8.out)
     have n2_ := sd (blk_drew a4.out)
     have n3_ := sd (blk_drew a5.out)
     have n4_ := sd (below_drew1 HB.out)
     clear a7
     clear a8
     clear a4
     clear a5
     clear HB
     have a7 := n0_
     have a8 := n1_
     have a4 := n2_
     have a5 := n3_
     have HB := n4_
     clear n0_ n1_ n2_ n3_ n4_
     refine start_ (n := 9) (S := fun w' => w'.cell? ⟨a2, 0, none⟩ = some (.int .i64 b5) ∧ w'.cell? ⟨a2, 1, none⟩ = some (.string b6) ∧ w'.cell? ⟨a2, 2, none⟩ = some (.slice Ao30 b1.length co30) ∧ w'.cell? ⟨a2, 3, none⟩ = some (.slice Ao31 b2.length co31)) (ds := []) #[false, false, false, false, false, false, false, false, false] (by kernel_rfl) rfl rfl ⟨(blk_cell a5.out 0).trans rfl, (blk_cell a5.out 1).trans rfl, (blk_cell a5.out 2).trans rfl, (blk_cell a5.out 3).trans rfl⟩ (fun hHeld => ?_); refine with_tabW laws_fjText.tab4 laws_fjText.bits4 (fun HT_ HW_ => ?_)
     generalize w32.drew = w33 at a7 a8 a4 a5 HB hHeld ⊢
     refine pure_ (i := 1) (N := some 26) (v := ?_) (a' := ?_) #[false, true, false, false, false, false, false, false, false] rfl rfl (any_of HT_.out (by kernel_rfl)) (fun _ _ _ h => h) (Or.inl ⟨by rfl, ?_⟩) ?_ ?_
     rotate_left
     ·intro w'
      go_simp
      with_reducible rfl
     rotate_left
     ·simp only [Act.put, List.setIfInBounds_toArray, List.set_cons_zero, List.set_cons_succ, i64_w, i32_w]
      rfl
     refine pure_ (i := 2) (N := some 27) (v := ?_) (a' := ?_) #[false, true, true, false, false, false, false, false, false] rfl rfl (any_of HT_.out (by kernel_rfl)) (fun _ _ _ h => h) (Or.inl ⟨by rfl, ?_⟩) ?_ ?_
     rotate_left
     ·intro w'
      go_simp
      with_reducible rfl
     rotate_left
     ·simp only [Act.put, List.setIfInBounds_toArray, List.set_cons_zero, List.set_cons_succ, i64_w, i32_w]
      rfl
     refine pure_ (i := 3) (N := some 28) (v := undef) (a' := ?_) #[false, true, true, true, false, false, false, false, false] rfl rfl (any_of HT_.out (by kernel_rfl)) (fun _ _ _ h => h) (Or.inr ⟨by rfl, rfl⟩) ?_ ?_
     rotate_left
     ·simp only [Act.put, List.setIfInBounds_toArray, List.set_cons_zero, List.set_cons_succ, i64_w, i32_w]
      rfl
     refine pure_ (i := 4) (N := some 29) (v := undef) (a' := ?_) #[false, true, true, true, true, false, false, false, false] rfl rfl (any_of HT_.out (by kernel_rfl)) (fun _ _ _ h => h) (Or.inr ⟨by rfl, rfl⟩) ?_ ?_
     rotate_left
     ·simp only [Act.put, List.setIfInBounds_toArray, List.set_cons_zero, List.set_cons_succ, i64_w, i32_w]
      rfl
     refine pure_ (i := 5) (N := some 30) (v := undef) (a' := ?_) #[false, true, true, true, true, true, false, false, false] rfl rfl (any_of HT_.out (by kernel_rfl)) (fun _ _ _ h => h) (Or.inr ⟨by rfl, rfl⟩) ?_ ?_
     rotate_left
     ·simp only [Act.put, List.setIfInBounds_toArray, List.set_cons_zero, List.set_cons_succ, i64_w, i32_w]
      rfl
     refine pure_ (i := 6) (N := some 31) (v := ?_) (a' := ?_) #[false, true, true, true, true, true, true, false, false] rfl rfl (any_of HT_.out (by kernel_rfl)) (fun _ _ _ h => h) (Or.inl ⟨by rfl, ?_⟩) ?_ ?_
     rotate_left
     ·intro w'
      go_simp
      with_reducible rfl
     rotate_left
     ·simp only [Act.put, List.setIfInBounds_toArray, List.set_cons_zero, List.set_cons_succ, i64_w, i32_w]
      rfl
     refine take_ (i := 0) (N := some 25) (v := ?_) (a' := ?_) #[true, true, true, true, true, true, true, false, false] rfl rfl (take_ofW HT_.out HW_.out (by kernel_rfl)) (fun _ _ _ h => h) (Or.inl ⟨by rfl, ?_⟩) hHeld ?_ ?_
     rotate_left
     ·rintro w' ⟨s0, s1, s2, s3⟩
      go_simp
      with_reducible rfl
     rotate_left
     ·simp only [Act.put, List.setIfInBounds_toArray, List.set_cons_zero, List.set_cons_succ, i64_w, i32_w]
      rfl
     refine one_ (i := 7) (N := none) #[true, true, true, true, true, true, true, true, false] rfl rfl (one_of HT_.out (by kernel_rfl)) (by decide) (fun K hK => ?_)
     have hs34 : w33.cell? ⟨a3, 0, none⟩ = some (.int .i64 0) := (blk_cell a4.out 0).trans rfl
     have hfs34 := blk_frozen a4.out 0
     have hns34_1 := a1.out
     have hms34_1 := b3.out
     have hs35 : w33.cell? ⟨a3, 1, none⟩ = some (.string (⟨#[]⟩ : ByteArray)) := (blk_cell a4.out 1).trans rfl
     have hfs35 := blk_frozen a4.out 1
     have hns35_1 := a1.out
     have hms35_1 := b3.out
     have hs36 : w33.cell? ⟨a3, 2, none⟩ = some (.slice none 0 0) := (blk_cell a4.out 2).trans rfl
     have hfs36 := blk_frozen a4.out 2
     have hns36_1 := a1.out
     have hms36_1 := b3.out
     have hs37 : w33.cell? ⟨a3, 3, none⟩ = some (.slice none 0 0) := (blk_cell a4.out 3).trans rfl
     have hfs37 := blk_frozen a4.out 3
     have hns37_1 := a1.out
     have hms37_1 := b3.out
     refine skip_ (w1 := ?_) (by rfl) rfl ?_ ?_
     rotate_left
     ·go_simp
      rfl
     refine hK.out _ _ ⟨((cell_far (p := ⟨a3, _, none⟩) a1.out _).trans (((cell_far (p := ⟨a3, _, none⟩) a1.out _).trans (((cell_far (p := ⟨a3, _, none⟩) a1.out _).trans (((cell_far (p := ⟨a3, _, none⟩) a1.out _).trans (hHeld.1)))))))), ((cell_far (p := ⟨a3, _, none⟩) a1.out _).trans (((cell_far (p := ⟨a3, _, none⟩) a1.out _).trans (((cell_far (p := ⟨a3, _, none⟩) a1.out _).trans (((cell_far (p := ⟨a3, _, none⟩) a1.out _).trans (hHeld.2.1)))))))), ((cell_far (p := ⟨a3, _, none⟩) a1.out _).trans (((cell_far (p := ⟨a3, _, none⟩) a1.out _).trans (((cell_far (p := ⟨a3, _, none⟩) a1.out _).trans (((cell_far (p := ⟨a3, _, none⟩) a1.out _).trans (hHeld.2.2.1)))))))), ((cell_far (p := ⟨a3, _, none⟩) a1.out _).trans (((cell_far (p := ⟨a3, _, none⟩) a1.out _).trans (((cell_far (p := ⟨a3, _, none⟩) a1.out _).trans (((cell_far (p := ⟨a3, _, none⟩) a1.out _).trans (hHeld.2.2.2))))))))⟩ (fun hHeld => ?_)
     clear hK K
     refine pure_ (i := 8) (N := some 3) (v := ?_) (a' := ?_) #[true, true, true, true, true, true, true, true, true] rfl rfl (any_of HT_.out (by kernel_rfl)) (fun _ _ _ h => h) (Or.inl ⟨by rfl, ?_⟩) ?_ ?_
     rotate_left
     ·intro w'
      go_simp
      with_reducible rfl
     rotate_left
     ·simp only [Act.put, List.setIfInBounds_toArray, List.set_cons_zero, List.set_cons_succ, i64_w, i32_w]
      rfl
     refine done_ (done_of HT_.out (by kernel_rfl)) ?_
     try go_wp2
     refine bodyPost_ret (results_ct rfl _ _ a3 25 #[.int .i64 b5, .string b6, .slice Ao30 b1.length co30, .slice Ao31 b2.length co31] (0, 0) _ rfl tC Tryz.underlying25 rfl (by kernel_rfl)) rfl ?_
     exact ⟨_, _, tE, Kd.R_mono (uR (Kd.R_types a7.out a4.out (by decide))) (fun _ hk => trivial), Kd.R_mono (uR (Kd.R_mono a8.out (fun k_ hk => (⟨hk, hk.2.1⟩ : _ ∧ k_ ≠ a3)))) (fun _ hk => hk.1.1), tB⟩
/-! ### spec_IsNumber: function 14 -/
def spec_IsNumber.f (k : Nat) (a0 : ByteArray) : Option (Bool) := (spec_reader_number.f k a0 0).bind fun d5 => (if d5.1 = true then (some (d5.2.2 == (a0.size : Int))) else (some false))
set_option maxHeartbeats 8000000 in
set_option maxRecDepth 100000 in
theorem spec_IsNumber.calls (k : Nat) (a0 : ByteArray) (r : Bool) (w : World) (h : spec_IsNumber.f k a0 = some r) :
  Calls Tryz.prog 14 #[.string a0] w fun e w' => e = .returned (.bool r) ∧ Below w.heap.size w w' := by
 have hu70 := Tryz.underlying70
 have HB := sd (Below.refl w.heap.size w)
 have H : ((spec_reader_number.f k a0 0).bind fun d5 => (if d5.1 = true then (some (d5.2.2 == (a0.size : Int))) else (some false))) = some r := h
 clear h
 replace H := Option.bind_eq_some_iff.mp H
 obtain ⟨⟨l1, i5, i6⟩, A20, H⟩ := H
 try dsimp only at H
 have A2 := sd A20
 clear A20
 by_cases c3 : l1 = true
 ·subst c3
  rw [if_pos rfl] at H
  obtain rfl := Option.some.inj H
  go_enter Tryz.func14, Tryz.ntmps14
  go_wp2_with (first | ((with_reducible refine gate_dst (N := 3) rfl ?_); (try (refine gate_guard (by rfl) ?_; dsimp only)); refine box_event ?hg (N := 3) ?hd (cs := #[.string (⟨#[]⟩ : ByteArray), .int .i64 0]) (t := 70) ?hr ?_; (case hd => rfl); (case hg => rfl); (case hr => exact tS); intro d0 hg w4 hbox hb; have d4 := sd ((show IsS70 w w4 d0 (⟨#[]⟩ : ByteArray) 0 from ⟨hbox, (by rw [hg]; exact (below_size tB) : w.heap.size ≤ d0)⟩)); have HB := sd (below_step tB hb); clear hb hbox hg; obtain ⟨z0, z1, y0, y1⟩ := IsS70.cells d4.out) | ((with_reducible refine gate_callee (f := 27) rfl ?_); refine goesL_ (some 6) rfl rfl Tryz.func27 (by kernel_rfl) rfl #[.pointer (some ⟨d0, 0, none⟩)] rfl tM ?_; (with_reducible refine (spec_reader_number.calls k d0 a0 0 true i5 i6 w _ ?_ ?_ A2.out).mono ?_); exact tJ; exact tB; rintro e w6 ⟨rfl, hi, hb, hk⟩; refine ⟨_, rfl, ?_⟩; have HB := sd (hb); have d4 := sd (hi); clear hb hk hi; obtain ⟨z0, z1, y0, y1⟩ := IsS70.cells d4.out))
  go_ret
  exact ⟨tE, tB⟩
 ·replace c3 := Bool.eq_false_iff.mpr c3
  subst c3
  rw [if_neg (show ¬ (false = true) by decide)] at H
  obtain rfl := Option.some.inj H
  go_enter Tryz.func14, Tryz.ntmps14
  go_wp2_with (first | ((with_reducible refine gate_dst (N := 3) rfl ?_); (try (refine gate_guard (by rfl) ?_; dsimp only)); refine box_event ?hg (N := 3) ?hd (cs := #[.string (⟨#[]⟩ : ByteArray), .int .i64 0]) (t := 70) ?hr ?_; (case hd => rfl); (case hg => rfl); (case hr => exact tS); intro d0 hg w8 hbox hb; have d4 := sd ((show IsS70 w w8 d0 (⟨#[]⟩ : ByteArray) 0 from ⟨hbox, (by rw [hg]; exact (below_size tB) : w.heap.size ≤ d0)⟩)); have HB := sd (below_step tB hb); clear hb hbox hg; obtain ⟨z0, z1, y0, y1⟩ := IsS70.cells d4.out) | ((with_reducible refine gate_callee (f := 27) rfl ?_); refine goesL_ (some 6) rfl rfl Tryz.func27 (by kernel_rfl) rfl #[.pointer (some ⟨d0, 0, none⟩)] rfl tM ?_; (with_reducible refine (spec_reader_number.calls k d0 a0 0 false i5 i6 w _ ?_ ?_ A2.out).mono ?_); exact tJ; exact tB; rintro e w10 ⟨rfl, hi, hb, hk⟩; refine ⟨_, rfl, ?_⟩; have HB := sd (hb); have d4 := sd (hi); clear hb hk hi))
  go_ret
  exact ⟨tE, tB⟩
end Go.Proofs.YtaihmpdhaikfkaaGreatDoor.PFnFjFloat
