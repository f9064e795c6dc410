/- Walks of the functions that the law calls, printed by program and rewritten. -/
import Derived.Test.YtaihmpdhaikfkaaGreatDoorV0
import Derived.Test.YtaihmpdhaikfkaaGreatDoorV6
set_option linter.all false
namespace Go.Proofs.YtaihmpdhaikfkaaGreatDoor.PFnFjFloat
open Go.RowKit Go.Proofs.YtaihmpdhaikfkaaGreatDoorW.PrintWords Go.Proofs.YtaihmpdhaikfkaaGreatDoorW.PrintLast Go.Proofs.YtaihmpdhaikfkaaGreatDoorW.PrintMore
attribute [local go_sem] max2_int min2_int max_two min_two max_three min_three max_four min_four
/-! ### spec_Tree: function 23 -/
mutual
def spec_Tree.j0 : Nat → ByteArray → Int → Int → Int → List (S90) → List (S60) → Int → ByteArray → Option (Int × ByteArray × List ByteArray × (List (S25)))
 | 0, _, _, _, _, _, _, _, _ => none
 | k + 1, x0, c4, c5, c6, b1, b3, c2, c3 => spec_Tree.l0 k x0 0 c4 c5 c6 b1 b3 c2 c3 ([] : List ByteArray)
def spec_Tree.l0 : Nat → ByteArray → Int → Int → Int → Int → List (S90) → List (S60) → Int → ByteArray → List ByteArray → Option (Int × ByteArray × List ByteArray × (List (S25)))
 | 0, _, _, _, _, _, _, _, _, _, _ => none
 | k + 1, x0, x6, c4, c5, c6, b1, b3, c2, c3, c7 => if x6 < (b1.length : Int) then (if 0 ≤ x6 then (if 0 ≤ ((rd_T90 b1 x6).f0) then (if ((rd_T90 b1 x6).f0) ≤ ((rd_T90 b1 x6).f1) then (if ((rd_T90 b1 x6).f1) ≤ (x0.size : Int) then ((spec_Unquote.f k (x0.extract (((rd_T90 b1 x6).f0) : Int).toNat (((rd_T90 b1 x6).f1) : Int).toNat)).bind fun d9 => (if c7.length < 8796093022208 then (spec_Tree.l0 k x0 (wrap64 (x6 + 1)) c4 c5 c6 b1 b3 c2 c3 (c7 ++ [d9])) else (none))) else (none)) else (none)) else (none)) else (none)) else (spec_Tree.l1 k x0 0 c4 c5 c6 b1 b3 c2 c3 c7 ([] : List (S25)))
def spec_Tree.l1 : Nat → ByteArray → Int → Int → Int → Int → List (S90) → List (S60) → Int → ByteArray → List ByteArray → List (S25) → Option (Int × ByteArray × List ByteArray × (List (S25)))
 | 0, _, _, _, _, _, _, _, _, _, _, _ => none
 | k + 1, x0, x7, c4, c5, c6, b1, b3, c2, c3, c7, e0 => if x7 < (b3.length : Int) then (if 0 ≤ x7 then ((spec_Tree.f k x0 ((rd_T60 b3 x7).f0) ((rd_T60 b3 x7).f1) ((rd_T60 b3 x7).f2) ((rd_T60 b3 x7).f3) ((rd_T60 b3 x7).f4)).bind fun e2 => (if e0.length < 1954687338268 then (spec_Tree.l1 k x0 (wrap64 (x7 + 1)) c4 c5 c6 b1 b3 c2 c3 c7 (e0 ++ [(⟨e2.1, e2.2.1, e2.2.2.1, e2.2.2.2⟩ : S25)])) else (none))) else (none)) else (some (c2, c3, c7, e0))
def spec_Tree.f : Nat → ByteArray → Int → Int → Int → List (S90) → List (S60) → Option (Int × ByteArray × List ByteArray × (List (S25)))
 | 0, _, _, _, _, _, _ => none
 | k + 1, a0, a1_0, a1_1, a1_2, l1_3, l1_4 => if a1_0 = 3 then (if 0 ≤ a1_1 then (if a1_1 ≤ a1_2 then (if a1_2 ≤ (a0.size : Int) then (spec_Tree.j0 k a0 a1_0 a1_1 a1_2 l1_3 l1_4 a1_0 (a0.extract (a1_1 : Int).toNat (a1_2 : Int).toNat)) else (none)) else (none)) else (none)) else (if a1_0 = 4 then (if 0 ≤ a1_1 then (if a1_1 ≤ a1_2 then (if a1_2 ≤ (a0.size : Int) then ((spec_Unquote.f k (a0.extract (a1_1 : Int).toNat (a1_2 : Int).toNat)).bind fun e1 => (spec_Tree.j0 k a0 a1_0 a1_1 a1_2 l1_3 l1_4 a1_0 e1)) else (none)) else (none)) else (none)) else (spec_Tree.j0 k a0 a1_0 a1_1 a1_2 l1_3 l1_4 a1_0 (⟨#[]⟩ : ByteArray)))
end
def spec_Tree.T10 : Bool × List (List Nat × List Nat) := (true, [([], []), ([0], [0]), ([], []), ([], []), ([3], [3]), ([], []), ([4, 5], [4, 5]), ([6], [6]), ([7], [7]), ([], []), ([9], [9]), ([], []), ([10, 11], [10, 11]), ([12], [12]), ([13], [13]), ([2, 8, 14], [2, 8, 14]), ([15], [15]), ([16], [16]), ([1, 17, 16], [1, 17]), ([0, 1, 2, 3, 4, 5, 6, 7, 8, 9, 10, 11, 12, 13, 14, 15, 16, 17, 18], []), ([19, 18, 18, 0, 1, 2, 3, 4, 5, 6, 7, 8, 9, 10, 11, 12, 13, 14, 15, 16, 17, 18], [18, 19])])
def spec_Tree.B10 : List Nat := [0, 1, 0, 0, 8, 0, 56, 120, 248, 0, 512, 0, 3584, 7680, 15872, 32764, 65532, 131068, 262143, 524287, 1048575]
theorem spec_Tree.tab10 : rtab .any (opsOf Tryz.f23 10) = spec_Tree.T10 := by kernel_rfl
theorem spec_Tree.bits10 : waitsOk spec_Tree.T10.2 spec_Tree.B10 = true := by kernel_rfl
def spec_Tree.T14 : Bool × List (List Nat × List Nat) := (true, [([], []), ([0], [0]), ([], []), ([], []), ([3], [3]), ([], []), ([4, 5], [4, 5]), ([6], [6]), ([2, 7], [2, 7]), ([8], [8]), ([1, 9, 8], [1, 9]), ([0, 1, 2, 3, 4, 5, 6, 7, 8, 9, 10], []), ([11, 10, 10, 0, 1, 2, 3, 4, 5, 6, 7, 8, 9, 10], [10, 11])])
def spec_Tree.B14 : List Nat := [0, 1, 0, 0, 8, 0, 56, 120, 252, 508, 1023, 2047, 4095]
theorem spec_Tree.tab14 : rtab .any (opsOf Tryz.f23 14) = spec_Tree.T14 := by kernel_rfl
theorem spec_Tree.bits14 : waitsOk spec_Tree.T14.2 spec_Tree.B14 = true := by kernel_rfl
set_option maxHeartbeats 8000000 in
set_option maxRecDepth 100000 in
theorem spec_Tree.calls (k : Nat) : ∀ (a0 : ByteArray) (a1_0 : Int) (a1_1 : Int) (a1_2 : Int) (A1_3 : Option Addr) (c1_3 : Nat) (l1_3 : List (S90)) (A1_4 : Option Addr) (c1_4 : Nat) (l1_4 : List (S60)) (r1 : Int) (r2 : ByteArray) (r3 : List ByteArray) (r4 : List (S25)) (w : World) (hr1_3 : Kd.C k90 w A1_3 l1_3.length l1_3) (hc1_3 : l1_3.length ≤ c1_3) (hr1_4 : Kd.C k60 w A1_4 l1_4.length l1_4) (hc1_4 : l1_4.length ≤ c1_4) (h : spec_Tree.f k a0 a1_0 a1_1 a1_2 l1_3 l1_4 = some (r1, r2, r3, r4)),
  Calls Tryz.prog 23 #[.string a0, .agg #[.int .i64 a1_0, .int .i64 a1_1, .int .i64 a1_2, .slice A1_3 l1_3.length c1_3, .slice A1_4 l1_4.length c1_4]] w fun e w' => ∃ v2_ v3_ : Value, e = .returned (.agg #[.int .i64 r1, .string r2, v2_, v3_]) ∧ Kd.R Kd.string 9 w' w.heap.size (fun _ => True) v2_ r3 ∧ Kd.R k25 25 w' w.heap.size (fun k_ => some k_ ≠ (v2_ : Value).ownBlock) v3_ r4 ∧ Below w.heap.size w w' := by
 induction k using Nat.strongRecOn with
 | _ k ih =>
 intro a0 a1_0 a1_1 a1_2 A1_3 c1_3 l1_3 A1_4 c1_4 l1_4 r1 r2 r3 r4 w hr1_3 hc1_3 hr1_4 hc1_4 h
 cases k with
 | zero => exact absurd h (by simp [spec_Tree.f])
 | succ k =>
 simp only [spec_Tree.f] at h
 have hu60 := Tryz.underlying60
 have hu25 := Tryz.underlying25
 have HR1_3 := sd hr1_3
 have HC1_3 := sd hc1_3
 clear hr1_3 hc1_3
 have HR1_4 := sd hr1_4
 have HC1_4 := sd hc1_4
 clear hr1_4 hc1_4
 have HB := sd (Below.refl w.heap.size w)
 have H : (if a1_0 = 3 then (if 0 ≤ a1_1 then (if a1_1 ≤ a1_2 then (if a1_2 ≤ (a0.size : Int) then (spec_Tree.j0 k a0 a1_0 a1_1 a1_2 l1_3 l1_4 a1_0 (a0.extract (a1_1 : Int).toNat (a1_2 : Int).toNat)) else (none)) else (none)) else (none)) else (if a1_0 = 4 then (if 0 ≤ a1_1 then (if a1_1 ≤ a1_2 then (if a1_2 ≤ (a0.size : Int) then ((spec_Unquote.f k (a0.extract (a1_1 : Int).toNat (a1_2 : Int).toNat)).bind fun e1 => (spec_Tree.j0 k a0 a1_0 a1_1 a1_2 l1_3 l1_4 a1_0 e1)) else (none)) else (none)) else (none)) else (spec_Tree.j0 k a0 a1_0 a1_1 a1_2 l1_3 l1_4 a1_0 (⟨#[]⟩ : ByteArray)))) = some (r1, r2, r3, r4) := h
 clear h
 have HC3 := sd H
 clear H
 go_enter Tryz.func23, Tryz.ntmps23
 go_upto_block 0 with (first | ((with_reducible refine gate_dst (N := 3) rfl ?_); refine box_event (by rfl) (N := 3) (by rfl) (cs := #[.int .i64 a1_0, .int .i64 a1_1, .int .i64 a1_2, .slice A1_3 l1_3.length c1_3, .slice A1_4 l1_4.length c1_4]) (t := 60) tS ?_; intro a8 hg w4 hbox hb; have a2 := sd (hbox); have i7 := sd (leB hg tB); have i8 := sd (leB hg tB); have HB := sd (below_step tB hb); clear hb hbox hg) | ((with_reducible refine gate_dst (N := 4) rfl ?_); refine box_event ?hg (N := 4) ?hd (cs := #[.int .i64 0, .string (⟨#[]⟩ : ByteArray), .slice none 0 0, .slice none 0 0]) (t := 25) ?hr ?_; (case hd => rfl); (case hg => rfl); (case hr => exact tS); intro a9 hg w5 hbox hb; have a2 := sd (blk_below (g := a8) tL hb); have a5 := sd (hbox); have i9 := sd (leB hg tB); have j1 := sd (leB hg tB); have HB := sd (below_step tB hb); have b6 := sd (neL hg (blk_lt (g := a8) tL)); have b7 := sd (neR hg (blk_lt (g := a8) tL)); clear hb hbox hg; have hnb6 := b6.out; have hnc6 := b7.out; obtain ⟨z0, z1, z2, z3, z4, y0, y1, y2, y3, y4⟩ := blk5 a2.out) | ((with_reducible refine gate_dst (N := 5) rfl ?_); refine box_event ?hg (N := 5) ?hd (cs := #[.int .i64 0, .string (⟨#[]⟩ : ByteArray), .slice none 0 0, .slice none 0 0]) (t := 25) ?hr ?_; (case hd => rfl); (case hg => rfl); (case hr => exact tS); intro a4 hg w8 hbox hb; have a2 := sd (blk_below (g := a8) tL hb); have a5 := sd (blk_below (g := a9) (o := .cells #[.int .i64 0, .string (⟨#[]⟩ : ByteArray), .slice none 0 0, .slice none 0 0] 25 (0, 0)) tL hb); have a1 := sd (hbox); have j2 := sd (leB hg tB); have j3 := sd (leB hg tB); have HB := sd (below_step tB hb); have b4 := sd (neL hg (blk_lt (g := a8) tL)); have b5 := sd (neR hg (blk_lt (g := a8) tL)); have b9 := sd ((by rw [hg]; exact Nat.ne_of_lt (blk_lt (g := a9) (o := .cells #[.int .i64 0, .string (⟨#[]⟩ : ByteArray), .slice none 0 0, .slice none 0 0] 25 (0, 0)) tL) : a9 ≠ a4)); have c0 := sd ((by rw [hg]; exact Nat.ne_of_gt (blk_lt (g := a9) (o := .cells #[.int .i64 0, .string (⟨#[]⟩ : ByteArray), .slice none 0 0, .slice none 0 0] 25 (0, 0)) tL) : a4 ≠ a9)); clear hb hbox hg; have hnb9 := b5.out; have hnc9 := b4.out; have hnb10 := c0.out; have hnc10 := b9.out; have hcz11_0 : w8.cell? ⟨a4, 0, none⟩ = some (.int .i64 0) := (blk_cell a1.out 0).trans rfl; have hcz11_1 : w8.cell? ⟨a4, 1, none⟩ = some (.string (⟨#[]⟩ : ByteArray)) := (blk_cell a1.out 1).trans rfl; have hcz11_2 : w8.cell? ⟨a4, 2, none⟩ = some (.slice none 0 0) := (blk_cell a1.out 2).trans rfl; have hcz11_3 : w8.cell? ⟨a4, 3, none⟩ = some (.slice none 0 0) := (blk_cell a1.out 3).trans rfl; have hfz11_0 := blk_frozen a1.out 0; have hfz11_1 := blk_frozen a1.out 1; have hfz11_2 := blk_frozen a1.out 2; have hfz11_3 := blk_frozen a1.out 3; obtain ⟨z0, z1, z2, z3, z4, y0, y1, y2, y3, y4⟩ := blk5 a2.out))
 (try simp only [Act.put, List.setIfInBounds_toArray, List.set_cons_zero, List.set_cons_succ])
 go_cut [] (fun wc => ∃ (kq : Nat) (a7 : ByteArray), Aside0 (spec_Tree.j0 kq a0 a1_0 a1_1 a1_2 l1_3 l1_4 a1_0 a7 = some (r1, r2, r3, r4)) ∧ Aside0 (kq ≤ k) ∧ Aside0 (wc.heap[a8]? = some (.cells #[.int .i64 a1_0, .int .i64 a1_1, .int .i64 a1_2, (.slice A1_3 l1_3.length c1_3), (.slice A1_4 l1_4.length c1_4)] 60 (0, 0))) ∧ Aside0 (wc.heap[a9]? = some (.cells #[.int .i64 0, .string (⟨#[]⟩ : ByteArray), (.slice none 0 0), (.slice none 0 0)] 25 (0, 0))) ∧ Aside0 (wc.heap[a4]? = some (.cells #[.int .i64 a1_0, .string a7, (.slice none 0 0), (.slice none 0 0)] 25 (0, 0))) ∧ Aside0 (Below w.heap.size w wc))
 case first =>
  have H := HC3.out
  clear HC3
  by_cases c13 : a1_0 = 3
  ·rw [if_pos c13] at H
   have c13b0 : (a1_0 == 3) = true := beq_iff_eq.mpr c13
   have c13b1 : (a1_0 != 3) = false := bne_eq_false_iff_eq.mpr c13
   clear c13
   (first | rw [c13b0] | (simp only [i64_w, i32_w]; rw [c13b0]) | skip)
   by_cases c14 : 0 ≤ a1_1
   ·rw [if_pos c14] at H
    have c14b0 := eq_true c14
    have c14b1 : decide (0 ≤ a1_1) = true := decide_eq_true c14
    clear c14
    by_cases c15 : a1_1 ≤ a1_2
    ·rw [if_pos c15] at H
     have c15b0 := eq_true c15
     have c15b1 : decide (a1_1 ≤ a1_2) = true := decide_eq_true c15
     clear c15
     by_cases c16 : a1_2 ≤ (a0.size : Int)
     ·rw [if_pos c16] at H
      have c16b0 := eq_true c16
      have c16b1 : decide (a1_2 ≤ (a0.size : Int)) = true := decide_eq_true c16
      clear c16
      have H' := sd H
      clear H
      have hnb17 := b6.out
      have hnc17 := b7.out
      have hnb18 := b4.out
      have hnc18 := b5.out
      obtain ⟨z0, z1, z2, z3, z4, y0, y1, y2, y3, y4⟩ := blk5 a2.out
      have hnb20 := c0.out
      have hnc20 := b9.out
      have hcz21_0 : w8.cell? ⟨a4, 0, none⟩ = some (.int .i64 0) := (blk_cell a1.out 0).trans rfl
      have hcz21_1 : w8.cell? ⟨a4, 1, none⟩ = some (.string (⟨#[]⟩ : ByteArray)) := (blk_cell a1.out 1).trans rfl
      have hcz21_2 : w8.cell? ⟨a4, 2, none⟩ = some (.slice none 0 0) := (blk_cell a1.out 2).trans rfl
      have hcz21_3 : w8.cell? ⟨a4, 3, none⟩ = some (.slice none 0 0) := (blk_cell a1.out 3).trans rfl
      have hfz21_0 := blk_frozen a1.out 0
      have hfz21_1 := blk_frozen a1.out 1
      have hfz21_2 := blk_frozen a1.out 2
      have hfz21_3 := blk_frozen a1.out 3
      go_wp2
      go_meet
      case rel => exact ⟨_, (a0.extract (a1_1 : Int).toNat (a1_2 : Int).toNat), H', ⟨by first | omega | exact Nat.le_refl _⟩, ⟨tC⟩, ⟨tC⟩, ⟨tC⟩, ⟨tB⟩⟩
     ·rw [if_neg c16] at H
      exact absurd H (by simp)
    ·rw [if_neg c15] at H
     exact absurd H (by simp)
   ·rw [if_neg c14] at H
    exact absurd H (by simp)
  ·rw [if_neg c13] at H
   have c13b0 : (a1_0 == 3) = false := beq_eq_false_iff_ne.mpr c13
   have c13b1 : (a1_0 != 3) = true := bne_iff_ne.mpr c13
   (first | rw [c13b0] | (simp only [i64_w, i32_w]; rw [c13b0]) | skip)
   by_cases c22 : a1_0 = 4
   ·rw [if_pos c22] at H
    have c22b0 : (a1_0 == 4) = true := beq_iff_eq.mpr c22
    have c22b1 : (a1_0 != 4) = false := bne_eq_false_iff_eq.mpr c22
    clear c22
    by_cases c23 : 0 ≤ a1_1
    ·rw [if_pos c23] at H
     have c23b0 := eq_true c23
     have c23b1 : decide (0 ≤ a1_1) = true := decide_eq_true c23
     clear c23
     by_cases c24 : a1_1 ≤ a1_2
     ·rw [if_pos c24] at H
      have c24b0 := eq_true c24
      have c24b1 : decide (a1_1 ≤ a1_2) = true := decide_eq_true c24
      clear c24
      by_cases c25 : a1_2 ≤ (a0.size : Int)
      ·rw [if_pos c25] at H
       have c25b0 := eq_true c25
       have c25b1 : decide (a1_2 ≤ (a0.size : Int)) = true := decide_eq_true c25
       clear c25
       replace H := Option.bind_eq_some_iff.mp H
       obtain ⟨e1, i2, H⟩ := H
       try dsimp only at H
       have A26 := sd i2
       clear i2
       have H' := sd H
       clear H
       have hnb27 := b6.out
       have hnc27 := b7.out
       have hnb28 := b4.out
       have hnc28 := b5.out
       obtain ⟨z0, z1, z2, z3, z4, y0, y1, y2, y3, y4⟩ := blk5 a2.out
       go_wp2_with (first | ((with_reducible refine gate_callee (f := 38) rfl ?_); refine goesL_ (some 30) rfl rfl Tryz.func38 (by kernel_rfl) rfl #[.string (a0.extract (a1_1 : Int).toNat (a1_2 : Int).toNat)] rfl tM ?_; (with_reducible refine (spec_Unquote.calls k (a0.extract (a1_1 : Int).toNat (a1_2 : Int).toNat) e1 _ A26.out).mono ?_); rintro e w30 ⟨rfl, hb⟩; refine ⟨_, rfl, ?_⟩; have a2 := sd (blk_below (g := a8) tC hb); have a5 := sd (blk_below (g := a9) (o := .cells #[.int .i64 0, .string (⟨#[]⟩ : ByteArray), .slice none 0 0, .slice none 0 0] 25 (0, 0)) tC hb); have a1 := sd (blk_below (g := a4) (o := .cells #[.int .i64 a1_0, .string (⟨#[]⟩ : ByteArray), .slice none 0 0, .slice none 0 0] 25 (0, 0)) tC hb); have HB := sd (below_step tB hb); clear hb; have hnb31 := c0.out; have hnc31 := b9.out; have hcz32_0 : w30.cell? ⟨a4, 0, none⟩ = some (.int .i64 a1_0) := (blk_cell a1.out 0).trans rfl; have hcz32_1 : w30.cell? ⟨a4, 1, none⟩ = some (.string (⟨#[]⟩ : ByteArray)) := (blk_cell a1.out 1).trans rfl; have hcz32_2 : w30.cell? ⟨a4, 2, none⟩ = some (.slice none 0 0) := (blk_cell a1.out 2).trans rfl; have hcz32_3 : w30.cell? ⟨a4, 3, none⟩ = some (.slice none 0 0) := (blk_cell a1.out 3).trans rfl; have hfz32_0 := blk_frozen a1.out 0; have hfz32_1 := blk_frozen a1.out 1; have hfz32_2 := blk_frozen a1.out 2; have hfz32_3 := blk_frozen a1.out 3))
       go_meet
       case rel => exact ⟨_, (e1), H', ⟨by first | omega | exact Nat.le_refl _⟩, ⟨tC⟩, ⟨tC⟩, ⟨tC⟩, ⟨tB⟩⟩
      ·rw [if_neg c25] at H
       exact absurd H (by simp)
     ·rw [if_neg c24] at H
      exact absurd H (by simp)
    ·rw [if_neg c23] at H
     exact absurd H (by simp)
   ·rw [if_neg c22] at H
    have c22b0 : (a1_0 == 4) = false := beq_eq_false_iff_ne.mpr c22
    have c22b1 : (a1_0 != 4) = true := bne_iff_ne.mpr c22
    have H' := sd H
    clear H
    go_wp2
    go_meet
    case rel => exact ⟨_, ((⟨#[]⟩ : ByteArray)), H', ⟨by first | omega | exact Nat.le_refl _⟩, ⟨tC⟩, ⟨tC⟩, ⟨tC⟩, ⟨tB⟩⟩
 case rest =>
  clear HC3
  obtain ⟨kq, a7, HA, HJ2, a2, a5, a1, HB⟩ := hcut
  cases kq with
  | zero => exact absurd HA.out (by simp [spec_Tree.j0])
  | succ kj2 =>
   have H := HA.out
   clear HA
   simp only [spec_Tree.j0] at H
   have H' := sd H
   clear H
   go_wp2
   (try simp only [Act.put, List.setIfInBounds_toArray, List.set_cons_zero, List.set_cons_succ])
   go_loopg [6] kj2 (fun kq v6 w' => ∃ (x6_2 : Int) (b0 : List ByteArray) (b2 : Value), v6 = .int .i64 x6_2 ∧ Aside0 (spec_Tree.l0 kq a0 x6_2 a1_0 a1_1 a1_2 l1_3 l1_4 a1_0 a7 b0 = some (r1, r2, r3, r4)) ∧ Aside0 (kq ≤ kj2) ∧ Aside0 (Kd.R Kd.string 9 w' w.heap.size (fun _ => True) b2 b0) ∧ Aside0 (w'.heap[a8]? = some (.cells #[.int .i64 a1_0, .int .i64 a1_1, .int .i64 a1_2, (.slice A1_3 l1_3.length c1_3), (.slice A1_4 l1_4.length c1_4)] 60 (0, 0))) ∧ Aside0 (w'.heap[a9]? = some (.cells #[.int .i64 0, .string (⟨#[]⟩ : ByteArray), (.slice none 0 0), (.slice none 0 0)] 25 (0, 0))) ∧ Aside0 (w'.heap[a4]? = some (.cells #[.int .i64 a1_0, .string a7, b2, (.slice none 0 0)] 25 (0, 0))) ∧ Aside0 (Below w.heap.size w w'))
   case atStart => exact ⟨(0), (([] : List ByteArray)), (.slice none 0 0), tF, H', ⟨Nat.le_refl _⟩, ⟨tN⟩, ⟨tL⟩, ⟨tL⟩, ⟨tL⟩, ⟨tB⟩⟩
   case round =>
    clear H'
    obtain ⟨x6_2, b0, b2, rfl, HA, HK2, a3, a2, a5, a1, HB⟩ := hrel
    cases gk with
    | zero => exact absurd HA.out (by simp [spec_Tree.l0])
    | succ k2 =>
     have H := HA.out
     clear HA
     simp only [spec_Tree.l0] at H
     by_cases c33 : x6_2 < (l1_3.length : Int)
     ·rw [if_pos c33] at H
      have c33b0 : decide (x6_2 < (l1_3.length : Int)) = true := decide_eq_true c33
      clear c33
      by_cases c34 : 0 ≤ x6_2
      ·rw [if_pos c34] at H
       have c34b0 : decide (0 ≤ x6_2) = true := decide_eq_true c34
       clear c34
       by_cases c35 : 0 ≤ ((rd_T90 l1_3 x6_2).f0)
       ·rw [if_pos c35] at H
        have c35b0 := eq_true c35
        have c35b1 : decide (0 ≤ ((rd_T90 l1_3 x6_2).f0)) = true := decide_eq_true c35
        clear c35
        by_cases c36 : ((rd_T90 l1_3 x6_2).f0) ≤ ((rd_T90 l1_3 x6_2).f1)
        ·rw [if_pos c36] at H
         have c36b0 := eq_true c36
         have c36b1 : decide (((rd_T90 l1_3 x6_2).f0) ≤ ((rd_T90 l1_3 x6_2).f1)) = true := decide_eq_true c36
         clear c36
         by_cases c37 : ((rd_T90 l1_3 x6_2).f1) ≤ (a0.size : Int)
         ·rw [if_pos c37] at H
          have c37b0 := eq_true c37
          have c37b1 : decide (((rd_T90 l1_3 x6_2).f1) ≤ (a0.size : Int)) = true := decide_eq_true c37
          clear c37
          replace H := Option.bind_eq_some_iff.mp H
          obtain ⟨d9, i3, H⟩ := H
          try dsimp only at H
          have A38 := sd i3
          clear i3
          by_cases c39 : b0.length < 8796093022208
          ·rw [if_pos c39] at H
           have LMc39 := sd c39
           clear c39
           obtain ⟨g0, d7⟩ : ∃ y_ : List ByteArray, y_ = (b0 ++ [d9]) := ⟨_, rfl⟩
           replace H : (spec_Tree.l0 k2 a0 (wrap64 (x6_2 + 1)) a1_0 a1_1 a1_2 l1_3 l1_4 a1_0 a7 g0) = some (r1, r2, r3, r4) := by first | (rw [d7]; with_reducible exact H) | (have H2_ := (Option.bind_some _ _).symm.trans H; rw [d7]; with_reducible exact H2_) | (have H2_ := (Option.bind_some _ _).symm.trans H; with_reducible exact H2_) | with_reducible exact H | (rw [d7]; exact H) | exact H
           have i5 := sd d7
           clear d7
           have H' := sd H
           clear H
           have hnb40 := b6.out
           have hnc40 := b7.out
           have hnb41 := b4.out
           have hnc41 := b5.out
           obtain ⟨z0, z1, z2, z3, z4, y0, y1, y2, y3, y4⟩ := blk5 a2.out
           try go_wp2
           have n0_ := sd (Kd.R_drew a3.out)
           have n1_ := sd (blk_drew a2.out)
           have n2_ := sd (blk_drew a5.out)
           have n3_ := sd (blk_drew a1.out)
           have n4_ := sd (below_drew1 HB.out)
           clear a3
           clear a2
           clear a5
           clear a1
           clear HB
           have a3 := n0_
           have a2 := n1_
           have a5 := n2_
           have a1 := n3_
           have HB := n4_
           clear n0_ n1_ n2_ n3_ n4_
           have g1 : 0 ≤ (x6_2 : Int) := of_decide_eq_true (by first | (with_reducible assumption) | assumption)
           have g2 : x6_2 < (l1_3.length : Int) := of_decide_eq_true (by first | (with_reducible assumption) | assumption)
           obtain ⟨ad356, e356, c8, c9⟩ := at_T90 HR1_3.out x6_2 g1 g2
           have hw356_1 := c9
           have hw356_0 := c8
           cases e356
           replace c8 := (HB.out.cell (World.block_lt_of_cell? w _ c8)).trans c8
           replace c9 := (HB.out.cell (World.block_lt_of_cell? w _ c9)).trans c9
           replace g1 := eq_true g1
           replace g2 := eq_true g2
           have g3 : 0 ≤ (x6_2 : Int) := of_decide_eq_true (by first | (with_reducible assumption) | assumption)
           have g4 : x6_2 < (l1_3.length : Int) := of_decide_eq_true (by first | (with_reducible assumption) | assumption)
           obtain ⟨ad357, e357, d0, d1⟩ := at_T90 HR1_3.out x6_2 g3 g4
           have hw357_1 := d1
           have hw357_0 := d0
           obtain rfl : ad356 = ad357 := (by injection e357)
           replace d0 := (HB.out.cell (World.block_lt_of_cell? w _ d0)).trans d0
           replace d1 := (HB.out.cell (World.block_lt_of_cell? w _ d1)).trans d1
           replace g3 := eq_true g3
           replace g4 := eq_true g4
           refine start_ (n := 21) (S := fun w' => w'.cell? ⟨a4, 0, none⟩ = some (.int .i64 a1_0) ∧ w'.cell? ⟨a4, 1, none⟩ = some (.string a7) ∧ w'.cell? ⟨a4, 2, none⟩ = some (b2) ∧ w'.cell? ⟨a4, 3, none⟩ = some (.slice none 0 0) ∧ w'.cell? ⟨a8, 0, none⟩ = some (.int .i64 a1_0) ∧ w'.cell? ⟨a8, 1, none⟩ = some (.int .i64 a1_1) ∧ w'.cell? ⟨a8, 2, none⟩ = some (.int .i64 a1_2) ∧ w'.cell? ⟨a8, 3, none⟩ = some (.slice (some ad356) l1_3.length c1_3) ∧ w'.cell? ⟨a8, 4, none⟩ = some (.slice A1_4 l1_4.length c1_4) ∧ w'.cell? (ad356.add ((x6_2).toNat * 2)) = some (.int .i64 ((rd_T90 l1_3 x6_2).f0)) ∧ w'.cell? ⟨(ad356.add ((x6_2).toNat * 2)).block, (ad356.add ((x6_2).toNat * 2)).off + 1, none⟩ = some (.int .i64 ((rd_T90 l1_3 x6_2).f1)) ∧ w'.cell? (ad356.add ((x6_2).toNat * 2)) = some (.int .i64 ((rd_T90 l1_3 x6_2).f0)) ∧ w'.cell? ⟨(ad356.add ((x6_2).toNat * 2)).block, (ad356.add ((x6_2).toNat * 2)).off + 1, none⟩ = some (.int .i64 ((rd_T90 l1_3 x6_2).f1))) (ds := [20]) #[false, false, false, false, false, false, false, false, false, false, false, false, false, false, false, false, false, false, false, false, false] (by kernel_rfl) rfl rfl ⟨(blk_cell a1.out 0).trans rfl, (blk_cell a1.out 1).trans rfl, (blk_cell a1.out 2).trans rfl, (blk_cell a1.out 3).trans rfl, (blk_cell a2.out 0).trans rfl, (blk_cell a2.out 1).trans rfl, (blk_cell a2.out 2).trans rfl, (blk_cell a2.out 3).trans rfl, (blk_cell a2.out 4).trans rfl, ((HB.out.cell (World.block_lt_of_cell? w _ hw356_0)).trans hw356_0), ((HB.out.cell (World.block_lt_of_cell? w _ hw356_1)).trans hw356_1), ((HB.out.cell (World.block_lt_of_cell? w _ hw357_0)).trans hw357_0), ((HB.out.cell (World.block_lt_of_cell? w _ hw357_1)).trans hw357_1)⟩ (fun hHeld => ?_); refine with_tabW spec_Tree.tab10 spec_Tree.bits10 (fun HT_ HW_ => ?_)
           generalize wr.drew = w43 at a3 a2 a5 a1 HB c8 c9 d0 d1 hHeld ⊢
           refine pure_ (i := 0) (N := some 39) (v := ?_) (a' := ?_) #[true, false, false, false, false, false, false, false, false, false, false, false, false, false, false, false, false, false, false, false, false] rfl rfl (any_of HT_.out (by kernel_rfl)) (fun _ _ _ h => h) (Or.inl ⟨by rfl, ?_⟩) ?_ ?_
           rotate_left
           ·intro w'
            go_simp
            with_reducible rfl
           rotate_left
           ·simp only [Act.put, List.setIfInBounds_toArray, List.set_cons_zero, List.set_cons_succ, i64_w, i32_w]
            rfl
           refine pure_ (i := 2) (N := some 41) (v := ?_) (a' := ?_) #[true, false, true, false, false, false, false, false, false, false, false, false, false, false, false, false, false, false, false, false, false] rfl rfl (any_of HT_.out (by kernel_rfl)) (fun _ _ _ h => h) (Or.inl ⟨by rfl, ?_⟩) ?_ ?_
           rotate_left
           ·intro w'
            go_simp
            with_reducible rfl
           rotate_left
           ·simp only [Act.put, List.setIfInBounds_toArray, List.set_cons_zero, List.set_cons_succ, i64_w, i32_w]
            rfl
           refine pure_ (i := 3) (N := some 42) (v := ?_) (a' := ?_) #[true, false, true, true, false, false, false, false, false, false, false, false, false, false, false, false, false, false, false, false, false] rfl rfl (any_of HT_.out (by kernel_rfl)) (fun _ _ _ h => h) (Or.inl ⟨by rfl, ?_⟩) ?_ ?_
           rotate_left
           ·intro w'
            go_simp
            with_reducible rfl
           rotate_left
           ·simp only [Act.put, List.setIfInBounds_toArray, List.set_cons_zero, List.set_cons_succ, i64_w, i32_w]
            rfl
           refine pure_ (i := 5) (N := some 44) (v := ?_) (a' := ?_) #[true, false, true, true, false, true, false, false, false, false, false, false, false, false, false, false, false, false, false, false, false] rfl rfl (any_of HT_.out (by kernel_rfl)) (fun _ _ _ h => h) (Or.inl ⟨by rfl, ?_⟩) ?_ ?_
           rotate_left
           ·intro w'
            go_simp
            with_reducible rfl
           rotate_left
           ·simp only [Act.put, List.setIfInBounds_toArray, List.set_cons_zero, List.set_cons_succ, i64_w, i32_w]
            rfl
           refine pure_ (i := 9) (N := some 48) (v := ?_) (a' := ?_) #[true, false, true, true, false, true, false, false, false, true, false, false, false, false, false, false, false, false, false, false, false] rfl rfl (any_of HT_.out (by kernel_rfl)) (fun _ _ _ h => h) (Or.inl ⟨by rfl, ?_⟩) ?_ ?_
           rotate_left
           ·intro w'
            go_simp
            with_reducible rfl
           rotate_left
           ·simp only [Act.put, List.setIfInBounds_toArray, List.set_cons_zero, List.set_cons_succ, i64_w, i32_w]
            rfl
           refine pure_ (i := 11) (N := some 50) (v := ?_) (a' := ?_) #[true, false, true, true, false, true, false, false, false, true, false, true, false, false, false, false, false, false, false, false, false] rfl rfl (any_of HT_.out (by kernel_rfl)) (fun _ _ _ h => h) (Or.inl ⟨by rfl, ?_⟩) ?_ ?_
           rotate_left
           ·intro w'
            go_simp
            with_reducible rfl
           rotate_left
           ·simp only [Act.put, List.setIfInBounds_toArray, List.set_cons_zero, List.set_cons_succ, i64_w, i32_w]
            rfl
           refine take_ (i := 1) (N := some 40) (v := ?_) (a' := ?_) #[true, true, true, true, false, true, false, false, false, true, false, true, false, false, false, false, false, false, false, false, false] rfl rfl (take_ofW HT_.out HW_.out (by kernel_rfl)) (fun _ _ _ h => h) (Or.inl ⟨by rfl, ?_⟩) hHeld ?_ ?_
           rotate_left
           ·rintro w' ⟨s0, s1, s2, s3, s4, s5, s6, s7, s8, s9, s10, s11, s12⟩
            go_simp
            with_reducible rfl
           rotate_left
           ·simp only [Act.put, List.setIfInBounds_toArray, List.set_cons_zero, List.set_cons_succ, i64_w, i32_w]
            rfl
           refine take_ (i := 4) (N := some 43) (v := ?_) (a' := ?_) #[true, true, true, true, true, true, false, false, false, true, false, true, false, false, false, false, false, false, false, false, false] rfl rfl (take_ofW HT_.out HW_.out (by kernel_rfl)) (fun _ _ _ h => h) (Or.inl ⟨by rfl, ?_⟩) hHeld ?_ ?_
           rotate_left
           ·rintro w' ⟨s0, s1, s2, s3, s4, s5, s6, s7, s8, s9, s10, s11, s12⟩
            go_simp
            with_reducible rfl
           rotate_left
           ·simp only [Act.put, List.setIfInBounds_toArray, List.set_cons_zero, List.set_cons_succ, i64_w, i32_w]
            rfl
           refine pure_ (i := 6) (N := some 45) (v := ?_) (a' := ?_) #[true, true, true, true, true, true, true, false, false, true, false, true, false, false, false, false, false, false, false, false, false] rfl rfl (any_of HT_.out (by kernel_rfl)) (fun _ _ _ h => h) (Or.inl ⟨by rfl, ?_⟩) ?_ ?_
           rotate_left
           ·intro w'
            go_simp
            with_reducible rfl
           rotate_left
           ·simp only [Act.put, List.setIfInBounds_toArray, List.set_cons_zero, List.set_cons_succ, i64_w, i32_w]
            rfl
           refine pure_ (i := 7) (N := some 46) (v := ?_) (a' := ?_) #[true, true, true, true, true, true, true, true, false, true, false, true, false, false, false, false, false, false, false, false, false] rfl rfl (any_of HT_.out (by kernel_rfl)) (fun _ _ _ h => h) (Or.inl ⟨by rfl, ?_⟩) ?_ ?_
           rotate_left
           ·intro w'
            go_simp
            with_reducible rfl
           rotate_left
           ·simp only [Act.put, List.setIfInBounds_toArray, List.set_cons_zero, List.set_cons_succ, i64_w, i32_w]
            rfl
           refine take_ (i := 8) (N := some 47) (v := ?_) (a' := ?_) #[true, true, true, true, true, true, true, true, true, true, false, true, false, false, false, false, false, false, false, false, false] rfl rfl (take_ofW HT_.out HW_.out (by kernel_rfl)) (fun _ _ _ h => h) (Or.inl ⟨by rfl, ?_⟩) hHeld ?_ ?_
           rotate_left
           ·rintro w' ⟨s0, s1, s2, s3, s4, s5, s6, s7, s8, s9, s10, s11, s12⟩
            go_simp
            with_reducible rfl
           rotate_left
           ·simp only [Act.put, List.setIfInBounds_toArray, List.set_cons_zero, List.set_cons_succ, i64_w, i32_w]
            rfl
           refine take_ (i := 10) (N := some 49) (v := ?_) (a' := ?_) #[true, true, true, true, true, true, true, true, true, true, true, true, false, false, false, false, false, false, false, false, false] rfl rfl (take_ofW HT_.out HW_.out (by kernel_rfl)) (fun _ _ _ h => h) (Or.inl ⟨by rfl, ?_⟩) hHeld ?_ ?_
           rotate_left
           ·rintro w' ⟨s0, s1, s2, s3, s4, s5, s6, s7, s8, s9, s10, s11, s12⟩
            go_simp
            with_reducible rfl
           rotate_left
           ·simp only [Act.put, List.setIfInBounds_toArray, List.set_cons_zero, List.set_cons_succ, i64_w, i32_w]
            rfl
           refine pure_ (i := 12) (N := some 51) (v := ?_) (a' := ?_) #[true, true, true, true, true, true, true, true, true, true, true, true, true, false, false, false, false, false, false, false, false] rfl rfl (any_of HT_.out (by kernel_rfl)) (fun _ _ _ h => h) (Or.inl ⟨by rfl, ?_⟩) ?_ ?_
           rotate_left
           ·intro w'
            go_simp
            with_reducible rfl
           rotate_left
           ·simp only [Act.put, List.setIfInBounds_toArray, List.set_cons_zero, List.set_cons_succ, i64_w, i32_w]
            rfl
           refine pure_ (i := 13) (N := some 52) (v := ?_) (a' := ?_) #[true, true, true, true, true, true, true, true, true, true, true, true, true, true, false, false, false, false, false, false, false] rfl rfl (any_of HT_.out (by kernel_rfl)) (fun _ _ _ h => h) (Or.inl ⟨by rfl, ?_⟩) ?_ ?_
           rotate_left
           ·intro w'
            go_simp
            with_reducible rfl
           rotate_left
           ·simp only [Act.put, List.setIfInBounds_toArray, List.set_cons_zero, List.set_cons_succ, i64_w, i32_w]
            rfl
           refine take_ (i := 14) (N := some 53) (v := ?_) (a' := ?_) #[true, true, true, true, true, true, true, true, true, true, true, true, true, true, true, false, false, false, false, false, false] rfl rfl (take_ofW HT_.out HW_.out (by kernel_rfl)) (fun _ _ _ h => h) (Or.inl ⟨by rfl, ?_⟩) hHeld ?_ ?_
           rotate_left
           ·rintro w' ⟨s0, s1, s2, s3, s4, s5, s6, s7, s8, s9, s10, s11, s12⟩
            go_simp
            with_reducible rfl
           rotate_left
           ·simp only [Act.put, List.setIfInBounds_toArray, List.set_cons_zero, List.set_cons_succ, i64_w, i32_w]
            rfl
           refine pure_ (i := 15) (N := some 54) (v := ?_) (a' := ?_) #[true, true, true, true, true, true, true, true, true, true, true, true, true, true, true, true, false, false, false, false, false] rfl rfl (any_of HT_.out (by kernel_rfl)) (fun _ _ _ h => h) (Or.inl ⟨by rfl, ?_⟩) ?_ ?_
           rotate_left
           ·intro w'
            go_simp
            with_reducible rfl
           rotate_left
           ·simp only [Act.put, List.setIfInBounds_toArray, List.set_cons_zero, List.set_cons_succ, i64_w, i32_w]
            rfl
           refine one_ (i := 16) (N := some 55) #[true, true, true, true, true, true, true, true, true, true, true, true, true, true, true, true, true, false, false, false, false] rfl rfl (one_of HT_.out (by kernel_rfl)) (by decide) (fun K hK => ?_)
           refine goes_ Tryz.func38 (by kernel_rfl) rfl #[.string (a0.extract (((rd_T90 l1_3 x6_2).f0) : Int).toNat (((rd_T90 l1_3 x6_2).f1) : Int).toNat)] (by rfl) rfl rfl tM ?_
           with_reducible refine (spec_Unquote.calls k2 (a0.extract (((rd_T90 l1_3 x6_2).f0) : Int).toNat (((rd_T90 l1_3 x6_2).f1) : Int).toNat) d9 _ A38.out).mono ?_
           rintro e w44 ⟨rfl, hb⟩
           refine ⟨_, rfl, ?_⟩
           have n0_ := sd (Kd.R_below (uR a3.out) hb)
           have n1_ := sd (blk_below (g := a8) tL hb)
           have n2_ := sd (blk_below (g := a9) (o := .cells #[.int .i64 0, .string (⟨#[]⟩ : ByteArray), .slice none 0 0, .slice none 0 0] 25 (0, 0)) tL hb)
           have n3_ := sd (blk_below (g := a4) tL hb)
           have n4_ := sd (below_step tB hb)
           clear a3
           clear a2
           clear a5
           clear a1
           clear HB
           have a3 := n0_
           have a2 := n1_
           have a5 := n2_
           have a1 := n3_
           have HB := n4_
           clear n0_ n1_ n2_ n3_ n4_
           (try clear hb)
           (try clear hb2)
           (try clear hk)
           (try clear hi)
           refine hK.out _ _ ⟨(blk_cell a1.out 0).trans rfl, (blk_cell a1.out 1).trans rfl, (blk_cell a1.out 2).trans rfl, (blk_cell a1.out 3).trans rfl, (blk_cell a2.out 0).trans rfl, (blk_cell a2.out 1).trans rfl, (blk_cell a2.out 2).trans rfl, (blk_cell a2.out 3).trans rfl, (blk_cell a2.out 4).trans rfl, ((HB.out.cell (World.block_lt_of_cell? w _ hw356_0)).trans hw356_0), ((HB.out.cell (World.block_lt_of_cell? w _ hw356_1)).trans hw356_1), ((HB.out.cell (World.block_lt_of_cell? w _ hw357_0)).trans hw357_0), ((HB.out.cell (World.block_lt_of_cell? w _ hw357_1)).trans hw357_1)⟩ (fun hHeld => ?_)
           clear hK K
           refine norm_ (a' := ?_) ?_ ?_
           rotate_left
           ·show Act.put _ (some 55) _ = _
            simp only [Act.put, List.setIfInBounds_toArray, List.set_cons_zero, List.set_cons_succ, i64_w, i32_w]
            rfl
           refine one_ (i := 17) (N := some 56) #[true, true, true, true, true, true, true, true, true, true, true, true, true, true, true, true, true, true, false, false, false] rfl rfl (one_of HT_.out (by kernel_rfl)) (by decide) (fun K hK => ?_)
           refine value_ (w1 := ?_) (v := ?_) (by rfl) rfl ?_ ?_
           rotate_left 2
           ·go_simp
            constructor
            ·rfl
            ·rfl
           refine hK.out _ _ ⟨(blk_cell (blk_alloc a1.out _) 0).trans rfl, (blk_cell (blk_alloc a1.out _) 1).trans rfl, (blk_cell (blk_alloc a1.out _) 2).trans rfl, (blk_cell (blk_alloc a1.out _) 3).trans rfl, (blk_cell (blk_alloc a2.out _) 0).trans rfl, (blk_cell (blk_alloc a2.out _) 1).trans rfl, (blk_cell (blk_alloc a2.out _) 2).trans rfl, (blk_cell (blk_alloc a2.out _) 3).trans rfl, (blk_cell (blk_alloc a2.out _) 4).trans rfl, (World.cell?_alloc_lt _ _ _ (World.block_lt_of_cell? _ _ (((HB.out.cell (World.block_lt_of_cell? w _ hw356_0)).trans hw356_0)))).trans (((HB.out.cell (World.block_lt_of_cell? w _ hw356_0)).trans hw356_0)), (World.cell?_alloc_lt _ _ _ (World.block_lt_of_cell? _ _ (((HB.out.cell (World.block_lt_of_cell? w _ hw356_1)).trans hw356_1)))).trans (((HB.out.cell (World.block_lt_of_cell? w _ hw356_1)).trans hw356_1)), (World.cell?_alloc_lt _ _ _ (World.block_lt_of_cell? _ _ (((HB.out.cell (World.block_lt_of_cell? w _ hw357_0)).trans hw357_0)))).trans (((HB.out.cell (World.block_lt_of_cell? w _ hw357_0)).trans hw357_0)), (World.cell?_alloc_lt _ _ _ (World.block_lt_of_cell? _ _ (((HB.out.cell (World.block_lt_of_cell? w _ hw357_1)).trans hw357_1)))).trans (((HB.out.cell (World.block_lt_of_cell? w _ hw357_1)).trans hw357_1))⟩ (fun hHeld => ?_)
           clear hK K
           refine norm_ (a' := ?_) ?_ ?_
           rotate_left
           ·show Act.put _ (some 56) _ = _
            simp only [Act.put, List.setIfInBounds_toArray, List.set_cons_zero, List.set_cons_succ, i64_w, i32_w]
            rfl
           refine one_ (i := 18) (N := some 57) #[true, true, true, true, true, true, true, true, true, true, true, true, true, true, true, true, true, true, true, false, false] rfl rfl (one_of HT_.out (by kernel_rfl)) (by decide) (fun K hK => ?_)
           refine Kd.R_append_step Kd.string (w0 := w) w.heap.size (by rfl) (.tmp 40) (.tmp 56) 22 9 (.string ⟨#[]⟩) 16 rfl Tryz.underlying22 info9 rfl (by decide) (by omega) b2 b0 d9 [.string d9] (fun _ => True) (fun _ => False) rfl rfl ?aP (fun _ hk => hk.elim) ?aF ?aO ?aB ?aS ?aL ?_
           (case aP => exact rfl)
           (case aB => exact tB)
           (case aF => exact (fun _ _ => trivial))
           (case aO => exact (uR a3.out))
           (case aS => exact (below_size tB))
           (case aL => have := LMc39.out; omega)
           intro j4 w45 ho hb hg hat
           rw [← i5.out] at ho
           have n0_ := sd (blk_grown (g := a8) tL hg (Kd.R_ne a3.out a2.out (by decide)))
           have n1_ := sd (blk_grown (g := a9) (o := .cells #[.int .i64 0, .string (⟨#[]⟩ : ByteArray), .slice none 0 0, .slice none 0 0] 25 (0, 0)) tL hg (Kd.R_ne a3.out a5.out (by decide)))
           have n2_ := sd (blk_grown (g := a4) tL hg (Kd.R_ne a3.out a1.out (by decide)))
           have n3_ := sd (hb)
           have n4_ := sd (ho)
           clear a2
           clear a5
           clear a1
           clear HB
           clear a3
           have a2 := n0_
           have a5 := n1_
           have a1 := n2_
           have HB := n3_
           have g8 := n4_
           clear n0_ n1_ n2_ n3_ n4_
           clear ho hb hg hat
           obtain ⟨Ao46, co46, eo46⟩ := Kd.R_slice g8.out
           (first | subst eo46 | (injection eo46 with f1_ f2_ f3_; have f4_ := f1_.symm; have f5_ := f3_.symm; clear f1_ f2_ f3_; subst f4_; subst f5_))
           refine hK.out _ _ ⟨(blk_cell a1.out 0).trans rfl, (blk_cell a1.out 1).trans rfl, (blk_cell a1.out 2).trans rfl, (blk_cell a1.out 3).trans rfl, (blk_cell a2.out 0).trans rfl, (blk_cell a2.out 1).trans rfl, (blk_cell a2.out 2).trans rfl, (blk_cell a2.out 3).trans rfl, (blk_cell a2.out 4).trans rfl, ((HB.out.cell (World.block_lt_of_cell? w _ hw356_0)).trans hw356_0), ((HB.out.cell (World.block_lt_of_cell? w _ hw356_1)).trans hw356_1), ((HB.out.cell (World.block_lt_of_cell? w _ hw357_0)).trans hw357_0), ((HB.out.cell (World.block_lt_of_cell? w _ hw357_1)).trans hw357_1)⟩ (fun hHeld => ?_)
           clear hK K
           refine norm_ (a' := ?_) ?_ ?_
           rotate_left
           ·show Act.put _ (some 57) _ = _
            simp only [Act.put, List.setIfInBounds_toArray, List.set_cons_zero, List.set_cons_succ, i64_w, i32_w]
            rfl
           refine pure_ (i := 19) (N := some 58) (v := ?_) (a' := ?_) #[true, true, true, true, true, true, true, true, true, true, true, true, true, true, true, true, true, true, true, true, false] rfl rfl (any_of HT_.out (by kernel_rfl)) (fun _ _ _ h => h) (Or.inl ⟨by rfl, ?_⟩) ?_ ?_
           rotate_left
           ·intro w'
            go_simp
            with_reducible rfl
           rotate_left
           ·simp only [Act.put, List.setIfInBounds_toArray, List.set_cons_zero, List.set_cons_succ, i64_w, i32_w]
            rfl
           refine last_ (i := 20) (N := none) #[true, true, true, true, true, true, true, true, true, true, true, true, true, true, true, true, true, true, true, true, true] rfl rfl (one_of HT_.out (by kernel_rfl)) (by decide) (fun K hK => ?_)
           have hs47 : w45.cell? ⟨a4, 2, none⟩ = some (b2) := (blk_cell a1.out 2).trans rfl
           have hfs47 := blk_frozen a1.out 2
           have hns47_0 := b4.out
           have hns47_1 := b9.out
           have hms47_0 := b5.out
           have hms47_1 := c0.out
           refine skip_ (w1 := ?_) (by rfl) rfl ?_ ?_
           rotate_left
           ·go_simp
            rfl
           refine hK.out _ _ ?_
           clear hK K
           refine done_ (done_of HT_.out (by kernel_rfl)) ?_
           try go_wp2
           go_roundg k2
           case measure => have := HJ2.out; have := HK2.out; omega
           case rel => exact ⟨(wrap64 (x6_2 + 1)), (g0), (.slice Ao46 g0.length co46), tF, H', ⟨by have := HJ2.out; have := HK2.out; omega⟩, ⟨Kd.R_mono (uR (Kd.R_types g8.out a1.out (by decide))) (fun _ hk => trivial)⟩, ⟨tC⟩, ⟨tC⟩, ⟨tC⟩, ⟨tB⟩⟩
          ·rw [if_neg c39] at H
           exact absurd H (by simp)
         ·rw [if_neg c37] at H
          exact absurd H (by simp)
        ·rw [if_neg c36] at H
         exact absurd H (by simp)
       ·rw [if_neg c35] at H
        exact absurd H (by simp)
      ·rw [if_neg c34] at H
       exact absurd H (by simp)
     ·rw [if_neg c33] at H
      have c33b0 : decide (x6_2 < (l1_3.length : Int)) = false := decide_eq_false c33
      clear c33
      have H' := sd H
      clear H
      have hnb48 := b6.out
      have hnc48 := b7.out
      have hnb49 := b4.out
      have hnc49 := b5.out
      obtain ⟨z0, z1, z2, z3, z4, y0, y1, y2, y3, y4⟩ := blk5 a2.out
      go_wp2
      (try simp only [Act.put, List.setIfInBounds_toArray, List.set_cons_zero, List.set_cons_succ])
      go_loopg [7] k2 (fun kq v7 w' => ∃ (x7_3 : Int) (b8 : List (S25)) (c1 : Value), v7 = .int .i64 x7_3 ∧ Aside0 (spec_Tree.l1 kq a0 x7_3 a1_0 a1_1 a1_2 l1_3 l1_4 a1_0 a7 b0 b8 = some (r1, r2, r3, r4)) ∧ Aside0 (kq ≤ k2) ∧ Aside0 (Kd.R Kd.string 9 w' w.heap.size (fun _ => True) b2 b0) ∧ Aside0 (Kd.R k25 25 w' w.heap.size (fun k_ => some k_ ≠ (b2 : Value).ownBlock ∧ k_ ≠ a9 ∧ k_ ≠ a4) c1 b8) ∧ Aside0 (w'.heap[a8]? = some (.cells #[.int .i64 a1_0, .int .i64 a1_1, .int .i64 a1_2, (.slice A1_3 l1_3.length c1_3), (.slice A1_4 l1_4.length c1_4)] 60 (0, 0))) ∧ Aside0 (w'.heap[a9]? = some (.cells #[.int .i64 0, .string (⟨#[]⟩ : ByteArray), (.slice none 0 0), (.slice none 0 0)] 25 (0, 0))) ∧ Aside0 (w'.heap[a4]? = some (.cells #[.int .i64 a1_0, .string a7, b2, c1] 25 (0, 0))) ∧ Aside0 (Below w.heap.size w w'))
      case atStart => exact ⟨(0), (([] : List (S25))), (.slice none 0 0), tF, H', ⟨Nat.le_refl _⟩, ⟨uR a3.out⟩, ⟨tN⟩, ⟨tL⟩, ⟨tL⟩, ⟨tL⟩, ⟨tB⟩⟩
      case round =>
       clear H'
       obtain ⟨x7_3, b8, c1, rfl, HA, HK3, a3, a6, a2, a5, a1, HB⟩ := hrel
       cases gk with
       | zero => exact absurd HA.out (by simp [spec_Tree.l1])
       | succ k3 =>
        have H := HA.out
        clear HA
        simp only [spec_Tree.l1] at H
        by_cases c51 : x7_3 < (l1_4.length : Int)
        ·rw [if_pos c51] at H
         have c51b0 : decide (x7_3 < (l1_4.length : Int)) = true := decide_eq_true c51
         clear c51
         by_cases c52 : 0 ≤ x7_3
         ·rw [if_pos c52] at H
          have c52b0 : decide (0 ≤ x7_3) = true := decide_eq_true c52
          clear c52
          replace H := Option.bind_eq_some_iff.mp H
          obtain ⟨⟨e3, e4, e5, e6⟩, i4, H⟩ := H
          try dsimp only at H
          have A53 := sd i4
          clear i4
          by_cases c54 : b8.length < 1954687338268
          ·rw [if_pos c54] at H
           have LMc54 := sd c54
           clear c54
           obtain ⟨g5, d8⟩ : ∃ y_ : List (S25), y_ = (b8 ++ [(⟨e3, e4, e5, e6⟩ : S25)]) := ⟨_, rfl⟩
           replace H : (spec_Tree.l1 k3 a0 (wrap64 (x7_3 + 1)) a1_0 a1_1 a1_2 l1_3 l1_4 a1_0 a7 b0 g5) = some (r1, r2, r3, r4) := by first | (rw [d8]; with_reducible exact H) | (have H2_ := (Option.bind_some _ _).symm.trans H; rw [d8]; with_reducible exact H2_) | (have H2_ := (Option.bind_some _ _).symm.trans H; with_reducible exact H2_) | with_reducible exact H | (rw [d8]; exact H) | exact H
           have i6 := sd d8
           clear d8
           have H' := sd H
           clear H
           have hnb55 := b6.out
           have hnc55 := b7.out
           have hnb56 := b4.out
           have hnc56 := b5.out
           obtain ⟨z0, z1, z2, z3, z4, y0, y1, y2, y3, y4⟩ := blk5 a2.out
           try go_wp2
           have n0_ := sd (Kd.R_drew a3.out)
           have n1_ := sd (Kd.R_drew a6.out)
           have n2_ := sd (blk_drew a2.out)
           have n3_ := sd (blk_drew a5.out)
           have n4_ := sd (blk_drew a1.out)
           have n5_ := sd (below_drew1 HB.out)
           clear a3
           clear a6
           clear a2
           clear a5
           clear a1
           clear HB
           have a3 := n0_
           have a6 := n1_
           have a2 := n2_
           have a5 := n3_
           have a1 := n4_
           have HB := n5_
           clear n0_ n1_ n2_ n3_ n4_ n5_
           have g6 : 0 ≤ (x7_3 : Int) := of_decide_eq_true (by first | (with_reducible assumption) | assumption)
           have g7 : x7_3 < (l1_4.length : Int) := of_decide_eq_true (by first | (with_reducible assumption) | assumption)
           obtain ⟨ad362, f6, f7, f8, f9, e362, d2, d3, d4, d5, d6, hl362_3, hi362_3, hl362_4, hi362_4⟩ := at_T60 HR1_4.out x7_3 g6 g7
           have hw362_4 := d6
           have hw362_3 := d5
           have hw362_2 := d4
           have hw362_1 := d3
           have hw362_0 := d2
           cases e362
           replace d2 := (HB.out.cell (World.block_lt_of_cell? w _ d2)).trans d2
           replace d3 := (HB.out.cell (World.block_lt_of_cell? w _ d3)).trans d3
           replace d4 := (HB.out.cell (World.block_lt_of_cell? w _ d4)).trans d4
           replace d5 := (HB.out.cell (World.block_lt_of_cell? w _ d5)).trans d5
           replace d6 := (HB.out.cell (World.block_lt_of_cell? w _ d6)).trans d6
           have e7 := sd hi362_3
           have i0 := sd hl362_3
           clear hi362_3 hl362_3
           have e8 := sd hi362_4
           have i1 := sd hl362_4
           clear hi362_4 hl362_4
           replace g6 := eq_true g6
           replace g7 := eq_true g7
           refine start_ (n := 13) (S := fun w' => w'.cell? ⟨a4, 0, none⟩ = some (.int .i64 a1_0) ∧ w'.cell? ⟨a4, 1, none⟩ = some (.string a7) ∧ w'.cell? ⟨a4, 2, none⟩ = some (b2) ∧ w'.cell? ⟨a4, 3, none⟩ = some (c1) ∧ w'.cell? ⟨a8, 0, none⟩ = some (.int .i64 a1_0) ∧ w'.cell? ⟨a8, 1, none⟩ = some (.int .i64 a1_1) ∧ w'.cell? ⟨a8, 2, none⟩ = some (.int .i64 a1_2) ∧ w'.cell? ⟨a8, 3, none⟩ = some (.slice A1_3 l1_3.length c1_3) ∧ w'.cell? ⟨a8, 4, none⟩ = some (.slice (some ad362) l1_4.length c1_4) ∧ w'.cell? (ad362.add ((x7_3).toNat * 5)) = some (.int .i64 ((rd_T60 l1_4 x7_3).f0)) ∧ w'.cell? ⟨(ad362.add ((x7_3).toNat * 5)).block, (ad362.add ((x7_3).toNat * 5)).off + 1, none⟩ = some (.int .i64 ((rd_T60 l1_4 x7_3).f1)) ∧ w'.cell? ⟨(ad362.add ((x7_3).toNat * 5)).block, (ad362.add ((x7_3).toNat * 5)).off + 2, none⟩ = some (.int .i64 ((rd_T60 l1_4 x7_3).f2)) ∧ w'.cell? ⟨(ad362.add ((x7_3).toNat * 5)).block, (ad362.add ((x7_3).toNat * 5)).off + 3, none⟩ = some (.slice f6 ((rd_T60 l1_4 x7_3).f3).length f7) ∧ w'.cell? ⟨(ad362.add ((x7_3).toNat * 5)).block, (ad362.add ((x7_3).toNat * 5)).off + 4, none⟩ = some (.slice f8 ((rd_T60 l1_4 x7_3).f4).length f9)) (ds := [12]) #[false, false, false, false, false, false, false, false, false, false, false, false, false] (by kernel_rfl) rfl rfl ⟨(blk_cell a1.out 0).trans rfl, (blk_cell a1.out 1).trans rfl, (blk_cell a1.out 2).trans rfl, (blk_cell a1.out 3).trans rfl, (blk_cell a2.out 0).trans rfl, (blk_cell a2.out 1).trans rfl, (blk_cell a2.out 2).trans rfl, (blk_cell a2.out 3).trans rfl, (blk_cell a2.out 4).trans rfl, ((HB.out.cell (World.block_lt_of_cell? w _ hw362_0)).trans hw362_0), ((HB.out.cell (World.block_lt_of_cell? w _ hw362_1)).trans hw362_1), ((HB.out.cell (World.block_lt_of_cell? w _ hw362_2)).trans hw362_2), ((HB.out.cell (World.block_lt_of_cell? w _ hw362_3)).trans hw362_3), ((HB.out.cell (World.block_lt_of_cell? w _ hw362_4)).trans hw362_4)⟩ (fun hHeld => ?_); refine with_tabW spec_Tree.tab14 spec_Tree.bits14 (fun HT_ HW_ => ?_)
           generalize wr.drew = w58 at a3 a6 a2 a5 a1 HB e7 e8 d2 d3 d4 d5 d6 hHeld ⊢
           refine pure_ (i := 0) (N := some 66) (v := ?_) (a' := ?_) #[true, false, false, false, false, false, false, false, false, false, false, false, false] rfl rfl (any_of HT_.out (by kernel_rfl)) (fun _ _ _ h => h) (Or.inl ⟨by rfl, ?_⟩) ?_ ?_
           rotate_left
           ·intro w'
            go_simp
            with_reducible rfl
           rotate_left
           ·simp only [Act.put, List.setIfInBounds_toArray, List.set_cons_zero, List.set_cons_succ, i64_w, i32_w]
            rfl
           refine pure_ (i := 2) (N := some 68) (v := ?_) (a' := ?_) #[true, false, true, false, false, false, false, false, false, false, false, false, false] rfl rfl (any_of HT_.out (by kernel_rfl)) (fun _ _ _ h => h) (Or.inl ⟨by rfl, ?_⟩) ?_ ?_
           rotate_left
           ·intro w'
            go_simp
            with_reducible rfl
           rotate_left
           ·simp only [Act.put, List.setIfInBounds_toArray, List.set_cons_zero, List.set_cons_succ, i64_w, i32_w]
            rfl
           refine pure_ (i := 3) (N := some 69) (v := ?_) (a' := ?_) #[true, false, true, true, false, false, false, false, false, false, false, false, false] rfl rfl (any_of HT_.out (by kernel_rfl)) (fun _ _ _ h => h) (Or.inl ⟨by rfl, ?_⟩) ?_ ?_
           rotate_left
           ·intro w'
            go_simp
            with_reducible rfl
           rotate_left
           ·simp only [Act.put, List.setIfInBounds_toArray, List.set_cons_zero, List.set_cons_succ, i64_w, i32_w]
            rfl
           refine pure_ (i := 5) (N := some 71) (v := ?_) (a' := ?_) #[true, false, true, true, false, true, false, false, false, false, false, false, false] rfl rfl (any_of HT_.out (by kernel_rfl)) (fun _ _ _ h => h) (Or.inl ⟨by rfl, ?_⟩) ?_ ?_
           rotate_left
           ·intro w'
            go_simp
            with_reducible rfl
           rotate_left
           ·simp only [Act.put, List.setIfInBounds_toArray, List.set_cons_zero, List.set_cons_succ, i64_w, i32_w]
            rfl
           refine take_ (i := 1) (N := some 67) (v := ?_) (a' := ?_) #[true, true, true, true, false, true, false, false, false, false, false, false, false] rfl rfl (take_ofW HT_.out HW_.out (by kernel_rfl)) (fun _ _ _ h => h) (Or.inl ⟨by rfl, ?_⟩) hHeld ?_ ?_
           rotate_left
           ·rintro w' ⟨s0, s1, s2, s3, s4, s5, s6, s7, s8, s9, s10, s11, s12, s13⟩
            go_simp
            with_reducible rfl
           rotate_left
           ·simp only [Act.put, List.setIfInBounds_toArray, List.set_cons_zero, List.set_cons_succ, i64_w, i32_w]
            rfl
           refine take_ (i := 4) (N := some 70) (v := ?_) (a' := ?_) #[true, true, true, true, true, true, false, false, false, false, false, false, false] rfl rfl (take_ofW HT_.out HW_.out (by kernel_rfl)) (fun _ _ _ h => h) (Or.inl ⟨by rfl, ?_⟩) hHeld ?_ ?_
           rotate_left
           ·rintro w' ⟨s0, s1, s2, s3, s4, s5, s6, s7, s8, s9, s10, s11, s12, s13⟩
            go_simp
            with_reducible rfl
           rotate_left
           ·simp only [Act.put, List.setIfInBounds_toArray, List.set_cons_zero, List.set_cons_succ, i64_w, i32_w]
            rfl
           refine pure_ (i := 6) (N := some 72) (v := ?_) (a' := ?_) #[true, true, true, true, true, true, true, false, false, false, false, false, false] rfl rfl (any_of HT_.out (by kernel_rfl)) (fun _ _ _ h => h) (Or.inl ⟨by rfl, ?_⟩) ?_ ?_
           rotate_left
           ·intro w'
            go_simp
            with_reducible rfl
           rotate_left
           ·simp only [Act.put, List.setIfInBounds_toArray, List.set_cons_zero, List.set_cons_succ, i64_w, i32_w]
            rfl
           refine take_ (i := 7) (N := some 73) (v := ?_) (a' := ?_) #[true, true, true, true, true, true, true, true, false, false, false, false, false] rfl rfl (take_ofW HT_.out HW_.out (by kernel_rfl)) (fun _ _ _ h => h) (Or.inl ⟨by rfl, ?_⟩) hHeld ?_ ?_
           rotate_left
           ·rintro w' ⟨s0, s1, s2, s3, s4, s5, s6, s7, s8, s9, s10, s11, s12, s13⟩
            go_simp
            with_reducible rfl
           rotate_left
           ·simp only [Act.put, List.setIfInBounds_toArray, List.set_cons_zero, List.set_cons_succ, i64_w, i32_w]
            rfl
           refine one_ (i := 8) (N := some 74) #[true, true, true, true, true, true, true, true, true, false, false, false, false] rfl rfl (one_of HT_.out (by kernel_rfl)) (by decide) (fun K hK => ?_)
           refine goes_ Tryz.func23 (by kernel_rfl) rfl #[.string a0, .agg #[.int .i64 ((rd_T60 l1_4 x7_3).f0), .int .i64 ((rd_T60 l1_4 x7_3).f1), .int .i64 ((rd_T60 l1_4 x7_3).f2), .slice f6 ((rd_T60 l1_4 x7_3).f3).length f7, .slice f8 ((rd_T60 l1_4 x7_3).f4).length f9]] (by rfl) rfl rfl tM ?_
           with_reducible refine (ih k3 (by have := HJ2.out; have := HK2.out; have := HK3.out; omega) a0 ((rd_T60 l1_4 x7_3).f0) ((rd_T60 l1_4 x7_3).f1) ((rd_T60 l1_4 x7_3).f2) _ _ ((rd_T60 l1_4 x7_3).f3) _ _ ((rd_T60 l1_4 x7_3).f4) e3 e4 e5 e6 _ ?side1 ?side2 ?side3 ?side4 A53.out).mono ?_
           (case side1 => repeat (first | exact (Kd.C_below e7.out HB.out) | (with_reducible refine Kd.C_alloc ?_ _) | (with_reducible refine Kd.C_drewN ?_ _) | (with_reducible refine Kd.C_drew ?_)))
           (case side2 => exact i0.out)
           (case side3 => repeat (first | exact (Kd.C_below e8.out HB.out) | (with_reducible refine Kd.C_alloc ?_ _) | (with_reducible refine Kd.C_drewN ?_ _) | (with_reducible refine Kd.C_drew ?_)))
           (case side4 => exact i1.out)
           rintro e w59 ⟨j5, j6, rfl, ho0, ho1, hb⟩
           refine ⟨_, rfl, ?_⟩
           have n0_ := sd (Kd.R_elder' (uR a3.out) (Kd.R_base ho0) hb)
           have n1_ := sd (Kd.R_mono (Kd.R_told (Kd.R_told (Kd.R_old (uR a6.out) hb) (Kd.R_base ho0)) (Kd.R_base ho1)) (fun _ h_ => h_.1))
           have n2_ := sd (Kd.R_lower (Kd.R_new' ho0 (Kd.R_lt (uR a3.out))) (below_size tB))
           have n3_ := sd (Kd.R_lower (Kd.R_newB (Kd.R_newB (Kd.R_new' (Kd.R_new' ho1 (Kd.R_lt (uR a3.out))) (Kd.R_lt (uR a6.out))) (g := a9) (o := .cells #[.int .i64 0, .string (⟨#[]⟩ : ByteArray), .slice none 0 0, .slice none 0 0] 25 (0, 0)) tL) (g := a4) tL) (below_size tB))
           have n4_ := sd (blk_below (g := a8) tL hb)
           have n5_ := sd (blk_below (g := a9) (o := .cells #[.int .i64 0, .string (⟨#[]⟩ : ByteArray), .slice none 0 0, .slice none 0 0] 25 (0, 0)) tL hb)
           have n6_ := sd (blk_below (g := a4) tL hb)
           have n7_ := sd (below_step tB hb)
           clear a3
           clear a6
           clear a2
           clear a5
           clear a1
           clear HB
           have a3 := n0_
           have a6 := n1_
           have e9 := n2_
           have f5 := n3_
           have a2 := n4_
           have a5 := n5_
           have a1 := n6_
           have HB := n7_
           clear n0_ n1_ n2_ n3_ n4_ n5_ n6_ n7_
           (try clear hb)
           (try clear hb2)
           (try clear hk)
           (try clear hi)
           (try clear ho0)
           (try clear ho1)
           obtain ⟨Ao61, co61, eo61⟩ := Kd.R_slice e9.out
           (first | subst eo61 | (injection eo61 with f1_ f2_ f3_; have f4_ := f1_.symm; have f5_ := f3_.symm; clear f1_ f2_ f3_; subst f4_; subst f5_))
           obtain ⟨Ao62, co62, eo62⟩ := Kd.R_slice f5.out
           (first | subst eo62 | (injection eo62 with f1_ f2_ f3_; have f4_ := f1_.symm; have f5_ := f3_.symm; clear f1_ f2_ f3_; subst f4_; subst f5_))
           refine hK.out _ _ ⟨(blk_cell a1.out 0).trans rfl, (blk_cell a1.out 1).trans rfl, (blk_cell a1.out 2).trans rfl, (blk_cell a1.out 3).trans rfl, (blk_cell a2.out 0).trans rfl, (blk_cell a2.out 1).trans rfl, (blk_cell a2.out 2).trans rfl, (blk_cell a2.out 3).trans rfl, (blk_cell a2.out 4).trans rfl, ((HB.out.cell (World.block_lt_of_cell? w _ hw362_0)).trans hw362_0), ((HB.out.cell (World.block_lt_of_cell? w _ hw362_1)).trans hw362_1), ((HB.out.cell (World.block_lt_of_cell? w _ hw362_2)).trans hw362_2), ((HB.out.cell (World.block_lt_of_cell? w _ hw362_3)).trans hw362_3), ((HB.out.cell (World.block_lt_of_cell? w _ hw362_4)).trans hw362_4)⟩ (fun hHeld => ?_)
           clear hK K
           refine norm_ (a' := ?_) ?_ ?_
           rotate_left
           ·show Act.put _ (some 74) _ = _
            simp only [Act.put, List.setIfInBounds_toArray, List.set_cons_zero, List.set_cons_succ, i64_w, i32_w]
            rfl
           refine one_ (i := 9) (N := some 75) #[true, true, true, true, true, true, true, true, true, true, false, false, false] rfl rfl (one_of HT_.out (by kernel_rfl)) (by decide) (fun K hK => ?_)
           refine value_ (w1 := ?_) (v := ?_) (by rfl) rfl ?_ ?_
           rotate_left 2
           ·go_simp
            constructor
            ·rfl
            ·rfl
           refine hK.out _ _ ⟨(blk_cell (blk_alloc a1.out _) 0).trans rfl, (blk_cell (blk_alloc a1.out _) 1).trans rfl, (blk_cell (blk_alloc a1.out _) 2).trans rfl, (blk_cell (blk_alloc a1.out _) 3).trans rfl, (blk_cell (blk_alloc a2.out _) 0).trans rfl, (blk_cell (blk_alloc a2.out _) 1).trans rfl, (blk_cell (blk_alloc a2.out _) 2).trans rfl, (blk_cell (blk_alloc a2.out _) 3).trans rfl, (blk_cell (blk_alloc a2.out _) 4).trans rfl, (World.cell?_alloc_lt _ _ _ (World.block_lt_of_cell? _ _ (((HB.out.cell (World.block_lt_of_cell? w _ hw362_0)).trans hw362_0)))).trans (((HB.out.cell (World.block_lt_of_cell? w _ hw362_0)).trans hw362_0)), (World.cell?_alloc_lt _ _ _ (World.block_lt_of_cell? _ _ (((HB.out.cell (World.block_lt_of_cell? w _ hw362_1)).trans hw362_1)))).trans (((HB.out.cell (World.block_lt_of_cell? w _ hw362_1)).trans hw362_1)), (World.cell?_alloc_lt _ _ _ (World.block_lt_of_cell? _ _ (((HB.out.cell (World.block_lt_of_cell? w _ hw362_2)).trans hw362_2)))).trans (((HB.out.cell (World.block_lt_of_cell? w _ hw362_2)).trans hw362_2)), (World.cell?_alloc_lt _ _ _ (World.block_lt_of_cell? _ _ (((HB.out.cell (World.block_lt_of_cell? w _ hw362_3)).trans hw362_3)))).trans (((HB.out.cell (World.block_lt_of_cell? w _ hw362_3)).trans hw362_3)), (World.cell?_alloc_lt _ _ _ (World.block_lt_of_cell? _ _ (((HB.out.cell (World.block_lt_of_cell? w _ hw362_4)).trans hw362_4)))).trans (((HB.out.cell (World.block_lt_of_cell? w _ hw362_4)).trans hw362_4))⟩ (fun hHeld => ?_)
           clear hK K
           refine norm_ (a' := ?_) ?_ ?_
           rotate_left
           ·show Act.put _ (some 75) _ = _
            simp only [Act.put, List.setIfInBounds_toArray, List.set_cons_zero, List.set_cons_succ, i64_w, i32_w]
            rfl
           refine one_ (i := 10) (N := some 76) #[true, true, true, true, true, true, true, true, true, true, true, false, false] rfl rfl (one_of HT_.out (by kernel_rfl)) (by decide) (fun K hK => ?_)
           refine Kd.R_append_step k25 (w0 := w) w.heap.size (by rfl) (.tmp 67) (.tmp 75) 23 25 (.agg #[(.int .i64 0), (.string ⟨#[]⟩), (.slice none 0 0), (.slice none 0 0)]) 72 rfl Tryz.underlying23 info25 rfl (by decide) (by omega) c1 b8 (⟨e3, e4, e5, e6⟩ : S25) [.int .i64 e3, .string e4, .slice Ao61 e5.length co61, .slice Ao62 e6.length co62] (fun k_ => some k_ ≠ (b2 : Value).ownBlock ∧ k_ ≠ a9 ∧ k_ ≠ a4) (fun k_ => ((fun k_ => some k_ ≠ (b2 : Value).ownBlock ∧ k_ ≠ a9 ∧ k_ ≠ a4)) k_ ∧ some k_ ≠ (c1 : Value).ownBlock) rfl rfl ?aP (fun _ hk => hk) ?aF ?aO ?aB ?aS ?aL ?_
           (case aP => exact k25_mkM _ _ _ (⟨e3, e4, e5, e6⟩ : S25) (Kd.R_mono (Kd.R_types (Kd.R_types (Kd.R_apart' (e9.out) (Kd.R_typed a6.out) (by decide)) a5.out (by decide)) a1.out (by decide)) (fun k_ hk => ⟨⟨hk.1.1.1.2, ⟨hk.1.2, hk.2⟩⟩, hk.1.1.2⟩)) (Kd.R_mono (f5.out) (fun k_ hk => ⟨⟨hk.1.1.1.2, ⟨hk.1.2, hk.2⟩⟩, hk.1.1.2⟩)))
           (case aB => exact tB)
           (case aF => exact (fun k_ hk => ⟨Kd.fresh' (Kd.R_lt (uR a3.out)) k_ hk, Kd.freshB (g := a9) (o := .cells #[.int .i64 0, .string (⟨#[]⟩ : ByteArray), .slice none 0 0, .slice none 0 0] 25 (0, 0)) tL k_ hk, Kd.freshB (g := a4) tL k_ hk⟩))
           (case aO => exact (Kd.R_mono (uR a6.out) (fun _ hk => ⟨hk.1.1.1, ⟨hk.1.1.2.1, hk.1.1.2.2⟩⟩)))
           (case aS => exact (below_size tB))
           (case aL => have := LMc54.out; omega)
           intro j7 w60 ho hb hg hat
           rw [← i6.out] at ho
           have n0_ := sd (Kd.R_over' (uR a3.out) (Kd.R_typed (uR a6.out)) (by decide) hg)
           have n1_ := sd (blk_grown (g := a8) tL hg (Kd.R_ne a6.out a2.out (by decide)))
           have n2_ := sd (blk_grown (g := a9) (o := .cells #[.int .i64 0, .string (⟨#[]⟩ : ByteArray), .slice none 0 0, .slice none 0 0] 25 (0, 0)) tL hg (Kd.R_away a6.out (fun _ hk => hk.1.1.2.1)))
           have n3_ := sd (blk_grown (g := a4) tL hg (Kd.R_away a6.out (fun _ hk => hk.1.1.2.2)))
           have n4_ := sd (hb)
           have n5_ := sd (ho)
           clear a3
           clear a2
           clear a5
           clear a1
           clear HB
           clear a6
           clear e9
           clear f5
           have a3 := n0_
           have a2 := n1_
           have a5 := n2_
           have a1 := n3_
           have HB := n4_
           have g9 := n5_
           clear n0_ n1_ n2_ n3_ n4_ n5_
           clear ho hb hg hat
           obtain ⟨Ao63, co63, eo63⟩ := Kd.R_slice g9.out
           (first | subst eo63 | (injection eo63 with f1_ f2_ f3_; have f4_ := f1_.symm; have f5_ := f3_.symm; clear f1_ f2_ f3_; subst f4_; subst f5_))
           refine hK.out _ _ ⟨(blk_cell a1.out 0).trans rfl, (blk_cell a1.out 1).trans rfl, (blk_cell a1.out 2).trans rfl, (blk_cell a1.out 3).trans rfl, (blk_cell a2.out 0).trans rfl, (blk_cell a2.out 1).trans rfl, (blk_cell a2.out 2).trans rfl, (blk_cell a2.out 3).trans rfl, (blk_cell a2.out 4).trans rfl, ((HB.out.cell (World.block_lt_of_cell? w _ hw362_0)).trans hw362_0), ((HB.out.cell (World.block_lt_of_cell? w _ hw362_1)).trans hw362_1), ((HB.out.cell (World.block_lt_of_cell? w _ hw362_2)).trans hw362_2), ((HB.out.cell (World.block_lt_of_cell? w _ hw362_3)).trans hw362_3), ((HB.out.cell (World.block_lt_of_cell? w _ hw362_4)).trans hw362_4)⟩ (fun hHeld => ?_)
           clear hK K
           refine norm_ (a' := ?_) ?_ ?_
           rotate_left
           ·show Act.put _ (some 76) _ = _
            simp only [Act.put, List.setIfInBounds_toArray, List.set_cons_zero, List.set_cons_succ, i64_w, i32_w]
            rfl
           refine pure_ (i := 11) (N := some 77) (v := ?_) (a' := ?_) #[true, true, true, true, true, true, true, true, true, true, true, true, false] rfl rfl (any_of HT_.out (by kernel_rfl)) (fun _ _ _ h => h) (Or.inl ⟨by rfl, ?_⟩) ?_ ?_
           rotate_left
           ·intro w'
            go_simp
            with_reducible rfl
           rotate_left
           ·simp only [Act.put, List.setIfInBounds_toArray, List.set_cons_zero, List.set_cons_succ, i64_w, i32_w]
            rfl
           refine last_ (i := 12) (N := none) #[true, true, true, true, true, true, true, true, true, true, true, true, true] rfl rfl (one_of HT_.out (by kernel_rfl)) (by decide) (fun K hK => ?_)
           have hs64 : w60.cell? ⟨a4, 3, none⟩ = some (c1) := (blk_cell a1.out 3).trans rfl
           have hfs64 := blk_frozen a1.out 3
           have hns64_0 := b4.out
           have hns64_1 := b9.out
           have hms64_0 := b5.out
           have hms64_1 := c0.out
           refine skip_ (w1 := ?_) (by rfl) rfl ?_ ?_
           rotate_left
           ·go_simp
            rfl
           refine hK.out _ _ ?_
           clear hK K
           refine done_ (done_of HT_.out (by kernel_rfl)) ?_
           try go_wp2
           go_roundg k3
           case measure => have := HJ2.out; have := HK2.out; have := HK3.out; omega
           case rel => exact ⟨(wrap64 (x7_3 + 1)), (g5), (.slice Ao63 g5.length co63), tF, H', ⟨by have := HJ2.out; have := HK2.out; have := HK3.out; omega⟩, ⟨Kd.R_mono (uR (Kd.R_types a3.out a1.out (by decide))) (fun _ hk => trivial)⟩, ⟨Kd.R_mono (uR (Kd.R_mono g9.out (fun k_ hk => (⟨hk, hk.2.2⟩ : _ ∧ k_ ≠ a4)))) (fun _ hk => ⟨hk.1.1, ⟨hk.1.2.1, hk.1.2.2⟩⟩)⟩, ⟨tC⟩, ⟨tC⟩, ⟨tC⟩, ⟨tB⟩⟩
          ·rw [if_neg c54] at H
           exact absurd H (by simp)
         ·rw [if_neg c52] at H
          exact absurd H (by simp)
        ·rw [if_neg c51] at H
         have c51b0 : decide (x7_3 < (l1_4.length : Int)) = false := decide_eq_false c51
         clear c51
         simp only [Option.some.injEq, Prod.mk.injEq] at H
         obtain ⟨rfl, rfl, rfl, rfl⟩ := H
         have hnb65 := b6.out
         have hnc65 := b7.out
         have hnb66 := b4.out
         have hnc66 := b5.out
         obtain ⟨z0, z1, z2, z3, z4, y0, y1, y2, y3, y4⟩ := blk5 a2.out
         have hnb68 := c0.out
         have hnc68 := b9.out
         have hcz69_0 : wr.cell? ⟨a4, 0, none⟩ = some (.int .i64 a1_0) := (blk_cell a1.out 0).trans rfl
         have hcz69_1 : wr.cell? ⟨a4, 1, none⟩ = some (.string a7) := (blk_cell a1.out 1).trans rfl
         have hcz69_2 : wr.cell? ⟨a4, 2, none⟩ = some (b2) := (blk_cell a1.out 2).trans rfl
         have hcz69_3 : wr.cell? ⟨a4, 3, none⟩ = some (c1) := (blk_cell a1.out 3).trans rfl
         have hfz69_0 := blk_frozen a1.out 0
         have hfz69_1 := blk_frozen a1.out 1
         have hfz69_2 := blk_frozen a1.out 2
         have hfz69_3 := blk_frozen a1.out 3
         have hcz70_0 : wr.cell? ⟨a9, 0, none⟩ = some (.int .i64 0) := (blk_cell a5.out 0).trans rfl
         have hcz70_1 : wr.cell? ⟨a9, 1, none⟩ = some (.string (⟨#[]⟩ : ByteArray)) := (blk_cell a5.out 1).trans rfl
         have hcz70_2 : wr.cell? ⟨a9, 2, none⟩ = some (.slice none 0 0) := (blk_cell a5.out 2).trans rfl
         have hcz70_3 : wr.cell? ⟨a9, 3, none⟩ = some (.slice none 0 0) := (blk_cell a5.out 3).trans rfl
         have hfz70_0 := blk_frozen a5.out 0
         have hfz70_1 := blk_frozen a5.out 1
         have hfz70_2 := blk_frozen a5.out 2
         have hfz70_3 := blk_frozen a5.out 3
         obtain ⟨Ao71, co71, eo71⟩ := Kd.R_slice a3.out
         subst eo71
         obtain ⟨Ao72, co72, eo72⟩ := Kd.R_slice a6.out
         subst eo72
         go_wp2
         refine bodyPost_ret (results_cell_row rfl _ _ a9 25 #[.int .i64 a1_0, .string a7, .slice Ao71 b0.length co71, .slice Ao72 b8.length co72] (0, 0) _ rfl tC Tryz.underlying25 rfl (by kernel_rfl)) rfl ?_
         exact ⟨_, _, tE, Kd.R_mono (uR (Kd.R_types a3.out a5.out (by decide))) (fun _ hk => trivial), Kd.R_mono (uR (Kd.R_mono a6.out (fun k_ hk => (⟨hk, hk.2.1⟩ : _ ∧ k_ ≠ a9)))) (fun _ hk => hk.1.1), tB⟩
end Go.Proofs.YtaihmpdhaikfkaaGreatDoor.PFnFjFloat
