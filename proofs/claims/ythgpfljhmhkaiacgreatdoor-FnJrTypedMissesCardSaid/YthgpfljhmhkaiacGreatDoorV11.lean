/- Walks of the functions that the law calls, printed by program and rewritten. -/
import Derived.Test.YthgpfljhmhkaiacGreatDoorV0
import Derived.Test.YthgpfljhmhkaiacGreatDoorV5
import Derived.Test.YthgpfljhmhkaiacGreatDoorV6
import Derived.Test.YthgpfljhmhkaiacGreatDoorV9
import Derived.Test.YthgpfljhmhkaiacGreatDoorV10
set_option linter.all false
namespace Go.Proofs.YthgpfljhmhkaiacGreatDoor.PFnJrTypedMisses
open Go.RowKit Go.Proofs.YthgpfljhmhkaiacGreatDoorW.PrintWords Go.Proofs.YthgpfljhmhkaiacGreatDoorW.PrintLast Go.Proofs.YthgpfljhmhkaiacGreatDoorW.PrintMore
attribute [local go_sem] max2_int min2_int max_two min_two max_three min_three max_four min_four
/-! ### laws_jpMisses: function 5 -/
mutual
def laws_jpMisses.j0 : Nat → ByteArray → List ByteArray → Bool → Int → Int → Int → List (S64) → List (S31) → Option (Int × Bool)
 | 0, _, _, _, _, _, _, _, _ => none
 | k + 1, x0, x1, x29, j6, j7, j8, j9, l2 => if x29 = true then (some (0, false)) else ((spec_Reach.f k x0 j6 j7 j8 j9 l2 x1).bind fun d9 => (if d9.2.2.2.2.2 = (x1.length : Int) then (some (0, false)) else (if 0 ≤ d9.2.2.2.2.2 then (if d9.2.2.2.2.2 ≤ (x1.length : Int) then ((laws_jpFound.f k x0 (x1.take (d9.2.2.2.2.2 : Int).toNat)).bind fun m5 => (if m5.2.2.2.2.2 = true then (if 0 ≤ (wrap64 (d9.2.2.2.2.2 + 1)) then (if (wrap64 (d9.2.2.2.2.2 + 1)) ≤ (x1.length : Int) then (laws_jpMisses.l0 k x1 d9.2.2.2.2.2 (x1.drop ((wrap64 (d9.2.2.2.2.2 + 1)) : Int).toNat) ((x1.drop ((wrap64 (d9.2.2.2.2.2 + 1)) : Int).toNat).length : Int) 0 d9.1 d9.2.1 d9.2.2.1 d9.2.2.2.1 d9.2.2.2.2.1) else (none)) else (none)) else (some (0, false)))) else (none)) else (none))))
def laws_jpMisses.l0 : Nat → List ByteArray → Int → List ByteArray → Int → Int → Int → Int → Int → List (S64) → List (S31) → Option (Int × Bool)
 | 0, _, _, _, _, _, _, _, _, _, _ => none
 | k + 1, x1, x9, x54, x55, x56, i0, l3, l4, l5, l6 => if x56 < x55 then (if 0 ≤ x56 then (if x56 < (x54.length : Int) then ((laws_jpIndex.f (rdOf ByteArray.empty x54 x56)).bind fun i9 => (if i9 = true then (some (0, false)) else (laws_jpMisses.l0 k x1 x9 x54 x55 (wrap64 (x56 + 1)) i0 l3 l4 l5 l6))) else (none)) else (none)) else (if 0 ≤ x9 then (if x9 < (x1.length : Int) then ((spec_Bracket.f k (rdOf ByteArray.empty x1 x9)).bind fun m6 => ((laws_jpIndex.f (rdOf ByteArray.empty x1 x9)).bind fun j1 => (if j1 = true then (if i0 = 5 then (if m6.2 = true then (some (x9, decide (((rdOf ByteArray.empty x1 x9).size : Int) ≤ 20))) else (some (x9, false))) else (some (x9, false))) else (some (x9, true))))) else (none)) else (none))
end
def laws_jpMisses.f (k : Nat) (a0 : ByteArray) (l1 : List ByteArray) : Option (Int × Bool) := (laws_jpPlaces.f k a0).bind fun b5 => (if b5.2.2.2.2.2 = true then ((spec_Once.f k a0 b5.1 b5.2.1 b5.2.2.1 b5.2.2.2.1 b5.2.2.2.2.1 l1).bind fun f5 => (laws_jpMisses.j0 k a0 l1 (!f5) b5.1 b5.2.1 b5.2.2.1 b5.2.2.2.1 b5.2.2.2.2.1)) else (laws_jpMisses.j0 k a0 l1 true b5.1 b5.2.1 b5.2.2.1 b5.2.2.2.1 b5.2.2.2.2.1))
set_option maxHeartbeats 8000000 in
set_option maxRecDepth 100000 in
theorem laws_jpMisses.calls (k : Nat) (a0 : ByteArray) (A1 : Option Addr) (c1 : Nat) (l1 : List ByteArray) (r1 : Int) (r2 : Bool) (w : World) (hr1 : Kd.C Kd.string w A1 l1.length l1) (hc1 : l1.length ≤ c1) (h : laws_jpMisses.f k a0 l1 = some (r1, r2)) :
  Calls Tryz.prog 5 #[.string a0, .slice A1 l1.length c1] w fun e w' => e = .returned (.tuple #[.int .i64 r1, .bool r2]) ∧ Below w.heap.size w w' := by
 have hu31 := Tryz.underlying31
 have HR1 := sd hr1
 have HC1 := sd hc1
 clear hr1 hc1
 have HB := sd (Below.refl w.heap.size w)
 have H : ((laws_jpPlaces.f k a0).bind fun b5 => (if b5.2.2.2.2.2 = true then ((spec_Once.f k a0 b5.1 b5.2.1 b5.2.2.1 b5.2.2.2.1 b5.2.2.2.2.1 l1).bind fun f5 => (laws_jpMisses.j0 k a0 l1 (!f5) b5.1 b5.2.1 b5.2.2.1 b5.2.2.2.1 b5.2.2.2.2.1)) else (laws_jpMisses.j0 k a0 l1 true b5.1 b5.2.1 b5.2.2.1 b5.2.2.2.1 b5.2.2.2.2.1))) = some (r1, r2) := h
 clear h
 replace H := Option.bind_eq_some_iff.mp H
 obtain ⟨⟨d6, d7, d8, b1, b9, i1⟩, A30, H⟩ := H
 try dsimp only at H
 have A3 := sd A30
 clear A30
 have HC4 := sd H
 clear H
 go_enter Tryz.func5, Tryz.ntmps5
 go_upto_region 2 with (first | (go_at_call 13; (with_reducible refine (laws_jpPlaces.calls k a0 d6 d7 d8 b1 b9 i1 _ A3.out).mono ?_); rintro e w5 ⟨l7, l8, rfl, ho0, ho1, hb⟩; have d1 := sd (Kd.R_lower ho0 (below_size tB)); have d0 := sd (Kd.R_lower ho1 (below_size tB)); have HB := sd (below_step tB hb); clear hb ho0 ho1) | ((with_reducible refine gate_dst (N := 6) rfl ?_); (try (refine gate_guard (by rfl) ?_; dsimp only)); refine box_event (by rfl) (N := 6) (by rfl) (cs := #[.int .i64 0, .int .i64 0, .int .i64 0, .slice none 0 0, .slice none 0 0]) (t := 31) tS ?_; intro a2 hg w6 hbox hb; have d1 := sd (Kd.R_below (uR d1.out) hb); have d0 := sd (Kd.R_below (Kd.R_elderB (uR d0.out) a2 (Nat.le_of_eq hg.symm)) hb); have a6 := sd (hbox); have j4 := sd (leB hg tB); have j5 := sd (leB hg tB); have HB := sd (below_step tB hb); clear hb hbox hg; obtain ⟨z0, z1, z2, z3, z4, y0, y1, y2, y3, y4⟩ := blk5 a6.out; obtain ⟨Ao8, co8, eo8⟩ := Kd.R_slice d1.out; subst eo8; obtain ⟨Ao9, co9, eo9⟩ := Kd.R_slice d0.out; subst eo9))
 repeat (go_quiet (first | (go_at_call 13; (with_reducible refine (laws_jpPlaces.calls k a0 d6 d7 d8 b1 b9 i1 _ A3.out).mono ?_); rintro e w5 ⟨l7, l8, rfl, ho0, ho1, hb⟩; have d1 := sd (Kd.R_lower ho0 (below_size tB)); have d0 := sd (Kd.R_lower ho1 (below_size tB)); have HB := sd (below_step tB hb); clear hb ho0 ho1) | ((with_reducible refine gate_dst (N := 6) rfl ?_); (try (refine gate_guard (by rfl) ?_; dsimp only)); refine box_event (by rfl) (N := 6) (by rfl) (cs := #[.int .i64 0, .int .i64 0, .int .i64 0, .slice none 0 0, .slice none 0 0]) (t := 31) tS ?_; intro a2 hg w6 hbox hb; have d1 := sd (Kd.R_below (uR d1.out) hb); have d0 := sd (Kd.R_below (Kd.R_elderB (uR d0.out) a2 (Nat.le_of_eq hg.symm)) hb); have a6 := sd (hbox); have j4 := sd (leB hg tB); have j5 := sd (leB hg tB); have HB := sd (below_step tB hb); clear hb hbox hg; obtain ⟨z0, z1, z2, z3, z4, y0, y1, y2, y3, y4⟩ := blk5 a6.out; obtain ⟨Ao8, co8, eo8⟩ := Kd.R_slice d1.out; subst eo8; obtain ⟨Ao9, co9, eo9⟩ := Kd.R_slice d0.out; subst eo9)); go_upto_region 2 with (first | (go_at_call 13; (with_reducible refine (laws_jpPlaces.calls k a0 d6 d7 d8 b1 b9 i1 _ A3.out).mono ?_); rintro e w5 ⟨l7, l8, rfl, ho0, ho1, hb⟩; have d1 := sd (Kd.R_lower ho0 (below_size tB)); have d0 := sd (Kd.R_lower ho1 (below_size tB)); have HB := sd (below_step tB hb); clear hb ho0 ho1) | ((with_reducible refine gate_dst (N := 6) rfl ?_); (try (refine gate_guard (by rfl) ?_; dsimp only)); refine box_event (by rfl) (N := 6) (by rfl) (cs := #[.int .i64 0, .int .i64 0, .int .i64 0, .slice none 0 0, .slice none 0 0]) (t := 31) tS ?_; intro a2 hg w6 hbox hb; have d1 := sd (Kd.R_below (uR d1.out) hb); have d0 := sd (Kd.R_below (Kd.R_elderB (uR d0.out) a2 (Nat.le_of_eq hg.symm)) hb); have a6 := sd (hbox); have j4 := sd (leB hg tB); have j5 := sd (leB hg tB); have HB := sd (below_step tB hb); clear hb hbox hg; obtain ⟨z0, z1, z2, z3, z4, y0, y1, y2, y3, y4⟩ := blk5 a6.out; obtain ⟨Ao8, co8, eo8⟩ := Kd.R_slice d1.out; subst eo8; obtain ⟨Ao9, co9, eo9⟩ := Kd.R_slice d0.out; subst eo9)))
 (try simp only [Act.put, List.setIfInBounds_toArray, List.set_cons_zero, List.set_cons_succ])
 go_cut [29] (fun v29 wc => ∃ (kq : Nat) (x29_3 : Bool), v29 = .bool x29_3 ∧ Aside0 (laws_jpMisses.j0 kq a0 l1 x29_3 d6 d7 d8 b1 b9 = some (r1, r2)) ∧ Aside0 (kq ≤ k) ∧ Aside0 (Kd.R k64 64 wc w.heap.size (fun _ => True) (.slice Ao8 b1.length co8) b1) ∧ Aside0 (Kd.R k31 31 wc w.heap.size (fun k_ => some k_ ≠ ((.slice Ao8 b1.length co8) : Value).ownBlock ∧ k_ ≠ a2) (.slice Ao9 b9.length co9) b9) ∧ Aside0 (wc.heap[a2]? = some (.cells #[.int .i64 d6, .int .i64 d7, .int .i64 d8, (.slice Ao8 b1.length co8), (.slice Ao9 b9.length co9)] 31 (0, 0))) ∧ Aside0 (Below w.heap.size w wc))
 case first =>
  have H := HC4.out
  clear HC4
  by_cases c10 : i1 = true
  ·subst c10
   rw [if_pos rfl] at H
   replace H := Option.bind_eq_some_iff.mp H
   obtain ⟨f5, l9, H⟩ := H
   try dsimp only at H
   have A11 := sd l9
   clear l9
   have H' := sd H
   clear H
   obtain ⟨z0, z1, z2, z3, z4, y0, y1, y2, y3, y4⟩ := blk5 a6.out
   go_wp2_with (first | (go_at_call 14; (with_reducible refine (spec_Once.calls k a0 d6 d7 d8 (fun k_ => some k_ = (.slice Ao8 b1.length co8 : Value).ownBlock) _ _ b1 (fun k_ => (some k_ ≠ (.slice Ao8 b1.length co8 : Value).ownBlock ∧ k_ ≠ a2)) _ _ b9 _ _ l1 f5 _ ?side1 ?side2 ?side3 ?side4 A11.out).mono ?_); (case side1 => exact Kd.R_V (Kd.R_tight rfl ((Kd.R_mono (Kd.R_far (p := ⟨a2, 4, none⟩) (Kd.R_far (p := ⟨a2, 3, none⟩) (Kd.R_far (p := ⟨a2, 2, none⟩) (Kd.R_far (p := ⟨a2, 1, none⟩) (Kd.R_far (p := ⟨a2, 0, none⟩) (Kd.R_mono (Kd.R_types (Kd.R_apart' (d1.out) (Kd.R_typed d0.out) (by decide)) a6.out (by decide)) (fun k_ hk => (⟨hk, hk.2⟩ : _ ∧ k_ ≠ a2))) (fun _ hk => hk.2) (.int .i64 d6)) (fun _ hk => hk.2) (.int .i64 d7)) (fun _ hk => hk.2) (.int .i64 d8)) (fun _ hk => hk.2) (.slice Ao8 b1.length co8)) (fun _ hk => hk.2) (.slice Ao9 b9.length co9)) (fun _ h_ => h_.1))))); (case side2 => exact Kd.R_V ((Kd.R_mono (Kd.R_far (p := ⟨a2, 4, none⟩) (Kd.R_far (p := ⟨a2, 3, none⟩) (Kd.R_far (p := ⟨a2, 2, none⟩) (Kd.R_far (p := ⟨a2, 1, none⟩) (Kd.R_far (p := ⟨a2, 0, none⟩) (Kd.R_mono (d0.out) (fun k_ hk => (⟨hk, hk.2⟩ : _ ∧ k_ ≠ a2))) (fun _ hk => hk.2) (.int .i64 d6)) (fun _ hk => hk.2) (.int .i64 d7)) (fun _ hk => hk.2) (.int .i64 d8)) (fun _ hk => hk.2) (.slice Ao8 b1.length co8)) (fun _ hk => hk.2) (.slice Ao9 b9.length co9)) (fun _ h_ => h_.1)))); (case side3 => exact Kd.C_below HR1.out tB); (case side4 => exact HC1.out); rintro e w13 ⟨rfl, hb⟩; have d1 := sd (Kd.R_below (Kd.R_mono (uR (Kd.R_types d1.out a6.out (by decide))) (fun _ h_ => h_.1)) hb); have d0 := sd (Kd.R_below (Kd.R_mono (uR (Kd.R_mono d0.out (fun k_ hk => (⟨hk, hk.2⟩ : _ ∧ k_ ≠ a2)))) (fun _ h_ => h_.1)) hb); have a6 := sd (blk_below (g := a2) tC hb); have HB := sd (below_step tB hb); clear hb))
   repeat (go_quiet (first | (go_at_call 14; (with_reducible refine (spec_Once.calls k a0 d6 d7 d8 (fun k_ => some k_ = (.slice Ao8 b1.length co8 : Value).ownBlock) _ _ b1 (fun k_ => (some k_ ≠ (.slice Ao8 b1.length co8 : Value).ownBlock ∧ k_ ≠ a2)) _ _ b9 _ _ l1 f5 _ ?side1 ?side2 ?side3 ?side4 A11.out).mono ?_); (case side1 => exact Kd.R_V (Kd.R_tight rfl ((Kd.R_mono (Kd.R_far (p := ⟨a2, 4, none⟩) (Kd.R_far (p := ⟨a2, 3, none⟩) (Kd.R_far (p := ⟨a2, 2, none⟩) (Kd.R_far (p := ⟨a2, 1, none⟩) (Kd.R_far (p := ⟨a2, 0, none⟩) (Kd.R_mono (Kd.R_types (Kd.R_apart' (d1.out) (Kd.R_typed d0.out) (by decide)) a6.out (by decide)) (fun k_ hk => (⟨hk, hk.2⟩ : _ ∧ k_ ≠ a2))) (fun _ hk => hk.2) (.int .i64 d6)) (fun _ hk => hk.2) (.int .i64 d7)) (fun _ hk => hk.2) (.int .i64 d8)) (fun _ hk => hk.2) (.slice Ao8 b1.length co8)) (fun _ hk => hk.2) (.slice Ao9 b9.length co9)) (fun _ h_ => h_.1))))); (case side2 => exact Kd.R_V ((Kd.R_mono (Kd.R_far (p := ⟨a2, 4, none⟩) (Kd.R_far (p := ⟨a2, 3, none⟩) (Kd.R_far (p := ⟨a2, 2, none⟩) (Kd.R_far (p := ⟨a2, 1, none⟩) (Kd.R_far (p := ⟨a2, 0, none⟩) (Kd.R_mono (d0.out) (fun k_ hk => (⟨hk, hk.2⟩ : _ ∧ k_ ≠ a2))) (fun _ hk => hk.2) (.int .i64 d6)) (fun _ hk => hk.2) (.int .i64 d7)) (fun _ hk => hk.2) (.int .i64 d8)) (fun _ hk => hk.2) (.slice Ao8 b1.length co8)) (fun _ hk => hk.2) (.slice Ao9 b9.length co9)) (fun _ h_ => h_.1)))); (case side3 => exact Kd.C_below HR1.out tB); (case side4 => exact HC1.out); rintro e w13 ⟨rfl, hb⟩; have d1 := sd (Kd.R_below (Kd.R_mono (uR (Kd.R_types d1.out a6.out (by decide))) (fun _ h_ => h_.1)) hb); have d0 := sd (Kd.R_below (Kd.R_mono (uR (Kd.R_mono d0.out (fun k_ hk => (⟨hk, hk.2⟩ : _ ∧ k_ ≠ a2)))) (fun _ h_ => h_.1)) hb); have a6 := sd (blk_below (g := a2) tC hb); have HB := sd (below_step tB hb); clear hb)); try go_wp2)
   go_meet
   case rel => exact ⟨_, (!f5), tF, H', ⟨by first | omega | exact Nat.le_refl _⟩, ⟨uR d1.out⟩, ⟨uR d0.out⟩, ⟨tL⟩, ⟨tB⟩⟩
  ·replace c10 := Bool.eq_false_iff.mpr c10
   subst c10
   rw [if_neg (show ¬ (false = true) by decide)] at H
   have H' := sd H
   clear H
   go_wp2
   repeat (go_quiet (fail); try go_wp2)
   go_meet
   case rel => exact ⟨_, (true), tF, H', ⟨by first | omega | exact Nat.le_refl _⟩, ⟨Kd.R_mono (uR (Kd.R_types d1.out a6.out (by decide))) (fun _ hk => trivial)⟩, ⟨Kd.R_mono (uR (Kd.R_mono d0.out (fun k_ hk => (⟨hk, hk.2⟩ : _ ∧ k_ ≠ a2)))) (fun _ hk => ⟨hk.1.1, hk.1.2⟩)⟩, ⟨tC⟩, ⟨tB⟩⟩
 case rest =>
  clear HC4
  obtain ⟨kq, x29_3, rfl, HA, HJ3, a3, a1, a6, HB⟩ := hcut
  cases kq with
  | zero => exact absurd HA.out (by simp [laws_jpMisses.j0])
  | succ kj3 =>
   have H := HA.out
   clear HA
   simp only [laws_jpMisses.j0] at H
   by_cases c14 : x29_3 = true
   ·subst c14
    rw [if_pos rfl] at H
    simp only [Option.some.injEq, Prod.mk.injEq] at H
    obtain ⟨rfl, rfl⟩ := H
    go_wp2
    repeat (go_quiet (fail); try go_wp2)
    go_ret2
    exact ⟨tE, tB⟩
   ·replace c14 := Bool.eq_false_iff.mpr c14
    subst c14
    rw [if_neg (show ¬ (false = true) by decide)] at H
    replace H := Option.bind_eq_some_iff.mp H
    obtain ⟨⟨e4, f1, f2, e9, f0, a5⟩, m0, H⟩ := H
    try dsimp only at H
    have A15 := sd m0
    clear m0
    by_cases c16 : a5 = (l1.length : Int)
    ·rw [if_pos c16] at H
     have c16b0 : (a5 == (l1.length : Int)) = true := beq_iff_eq.mpr c16
     have c16b1 : (a5 != (l1.length : Int)) = false := bne_eq_false_iff_eq.mpr c16
     clear c16
     simp only [Option.some.injEq, Prod.mk.injEq] at H
     obtain ⟨rfl, rfl⟩ := H
     obtain ⟨z0, z1, z2, z3, z4, y0, y1, y2, y3, y4⟩ := blk5 a6.out
     go_wp2_with (first | (go_at_call 15; (with_reducible refine (spec_Reach.calls kj3 a0 d6 d7 d8 (fun k_ => some k_ = (.slice Ao8 b1.length co8 : Value).ownBlock) _ _ b1 (fun k_ => (some k_ ≠ (.slice Ao8 b1.length co8 : Value).ownBlock ∧ k_ ≠ a2)) _ _ b9 _ _ l1 e4 f1 f2 e9 f0 a5 _ ?side1 ?side2 ?side3 ?side4 A15.out).mono ?_); (case side1 => exact Kd.R_V (Kd.R_tight rfl (Kd.R_types (Kd.R_apart' (a3.out) (Kd.R_typed a1.out) (by decide)) a6.out (by decide)))); (case side2 => exact Kd.R_V (a1.out)); (case side3 => repeat (first | exact (Kd.C_below HR1.out HB.out) | (with_reducible refine Kd.C_alloc ?_ _) | (with_reducible refine Kd.C_drewN ?_ _) | (with_reducible refine Kd.C_drew ?_))); (case side4 => exact HC1.out); rintro e w18 ⟨g5, g6, rfl, ho0, ho1, hb⟩; have a9 := sd (Kd.V_lower (Kd.V_mono (ok' := fun k_ => k_ ≠ a2) ho0 (fun k_ hk_ => Or.elim hk_ (fun hs_ => Or.elim hs_ (fun hs_ => ((Kd.R_types (Kd.R_apart' (a3.out) (Kd.R_typed a1.out) (by decide)) a6.out (by decide)).1 k_ hs_.symm).2) (fun hs_ => hs_.2)) (fun hn_ => (Kd.freshB (g := a2) tL k_ hn_)))) (below_size tB)); have b0 := sd (Kd.V_lower (Kd.V_mono (ok' := fun k_ => k_ ≠ a2) ho1 (fun k_ hk_ => Or.elim hk_ (fun hs_ => Or.elim hs_ (fun hs_ => ((Kd.R_types (Kd.R_apart' (a3.out) (Kd.R_typed a1.out) (by decide)) a6.out (by decide)).1 k_ hs_.symm).2) (fun hs_ => hs_.2)) (fun hn_ => (Kd.freshB (g := a2) tL k_ hn_)))) (below_size tB)); have a3 := sd (Kd.R_below (uR a3.out) hb); have a1 := sd (Kd.R_below (uR a1.out) hb); have a6 := sd (blk_below (g := a2) tL hb); have HB := sd (below_step tB hb); clear hb ho0 ho1) | ((with_reducible refine gate_dst (N := 8) rfl ?_); (try (refine gate_guard (by rfl) ?_; dsimp only)); refine box_event (by rfl) (N := 8) (by rfl) (cs := #[.int .i64 0, .int .i64 0, .int .i64 0, .slice none 0 0, .slice none 0 0]) (t := 31) tS ?_; intro a4 hg w19 hbox hb; have a3 := sd (Kd.R_below (uR a3.out) hb); have a1 := sd (Kd.R_below (Kd.R_elderB (uR a1.out) a4 (Nat.le_of_eq hg.symm)) hb); have a9 := sd (Kd.V_below (Kd.V_elderB (uV a9.out) a4 (Nat.le_of_eq hg.symm)) hb); have b0 := sd (Kd.V_below (Kd.V_elderB (uV b0.out) a4 (Nat.le_of_eq hg.symm)) hb); have a6 := sd (blk_below (g := a2) tL hb); have a8 := sd (hbox); have g3 := sd (leB hg tB); have g4 := sd (leB hg tB); have HB := sd (below_step tB hb); have b2 := sd (neL hg (blk_lt (g := a2) tL)); have b3 := sd (neR hg (blk_lt (g := a2) tL)); clear hb hbox hg; have hnb20 := b3.out; have hnc20 := b2.out; obtain ⟨z0, z1, z2, z3, z4, y0, y1, y2, y3, y4⟩ := blk5 a8.out; obtain ⟨Ao22, co22, eo22⟩ := Kd.V_slice a9.out; subst eo22; obtain ⟨Ao23, co23, eo23⟩ := Kd.V_slice b0.out; subst eo23))
     repeat (go_quiet (first | (go_at_call 15; (with_reducible refine (spec_Reach.calls kj3 a0 d6 d7 d8 (fun k_ => some k_ = (.slice Ao8 b1.length co8 : Value).ownBlock) _ _ b1 (fun k_ => (some k_ ≠ (.slice Ao8 b1.length co8 : Value).ownBlock ∧ k_ ≠ a2)) _ _ b9 _ _ l1 e4 f1 f2 e9 f0 a5 _ ?side1 ?side2 ?side3 ?side4 A15.out).mono ?_); (case side1 => exact Kd.R_V (Kd.R_tight rfl (Kd.R_types (Kd.R_apart' (a3.out) (Kd.R_typed a1.out) (by decide)) a6.out (by decide)))); (case side2 => exact Kd.R_V (a1.out)); (case side3 => repeat (first | exact (Kd.C_below HR1.out HB.out) | (with_reducible refine Kd.C_alloc ?_ _) | (with_reducible refine Kd.C_drewN ?_ _) | (with_reducible refine Kd.C_drew ?_))); (case side4 => exact HC1.out); rintro e w18 ⟨g5, g6, rfl, ho0, ho1, hb⟩; have a9 := sd (Kd.V_lower (Kd.V_mono (ok' := fun k_ => k_ ≠ a2) ho0 (fun k_ hk_ => Or.elim hk_ (fun hs_ => Or.elim hs_ (fun hs_ => ((Kd.R_types (Kd.R_apart' (a3.out) (Kd.R_typed a1.out) (by decide)) a6.out (by decide)).1 k_ hs_.symm).2) (fun hs_ => hs_.2)) (fun hn_ => (Kd.freshB (g := a2) tL k_ hn_)))) (below_size tB)); have b0 := sd (Kd.V_lower (Kd.V_mono (ok' := fun k_ => k_ ≠ a2) ho1 (fun k_ hk_ => Or.elim hk_ (fun hs_ => Or.elim hs_ (fun hs_ => ((Kd.R_types (Kd.R_apart' (a3.out) (Kd.R_typed a1.out) (by decide)) a6.out (by decide)).1 k_ hs_.symm).2) (fun hs_ => hs_.2)) (fun hn_ => (Kd.freshB (g := a2) tL k_ hn_)))) (below_size tB)); have a3 := sd (Kd.R_below (uR a3.out) hb); have a1 := sd (Kd.R_below (uR a1.out) hb); have a6 := sd (blk_below (g := a2) tL hb); have HB := sd (below_step tB hb); clear hb ho0 ho1) | ((with_reducible refine gate_dst (N := 8) rfl ?_); (try (refine gate_guard (by rfl) ?_; dsimp only)); refine box_event (by rfl) (N := 8) (by rfl) (cs := #[.int .i64 0, .int .i64 0, .int .i64 0, .slice none 0 0, .slice none 0 0]) (t := 31) tS ?_; intro a4 hg w19 hbox hb; have a3 := sd (Kd.R_below (uR a3.out) hb); have a1 := sd (Kd.R_below (Kd.R_elderB (uR a1.out) a4 (Nat.le_of_eq hg.symm)) hb); have a9 := sd (Kd.V_below (Kd.V_elderB (uV a9.out) a4 (Nat.le_of_eq hg.symm)) hb); have b0 := sd (Kd.V_below (Kd.V_elderB (uV b0.out) a4 (Nat.le_of_eq hg.symm)) hb); have a6 := sd (blk_below (g := a2) tL hb); have a8 := sd (hbox); have g3 := sd (leB hg tB); have g4 := sd (leB hg tB); have HB := sd (below_step tB hb); have b2 := sd (neL hg (blk_lt (g := a2) tL)); have b3 := sd (neR hg (blk_lt (g := a2) tL)); clear hb hbox hg; have hnb20 := b3.out; have hnc20 := b2.out; obtain ⟨z0, z1, z2, z3, z4, y0, y1, y2, y3, y4⟩ := blk5 a8.out; obtain ⟨Ao22, co22, eo22⟩ := Kd.V_slice a9.out; subst eo22; obtain ⟨Ao23, co23, eo23⟩ := Kd.V_slice b0.out; subst eo23)); try go_wp2)
     go_ret2
     exact ⟨tE, tB⟩
    ·rw [if_neg c16] at H
     have c16b0 : (a5 == (l1.length : Int)) = false := beq_eq_false_iff_ne.mpr c16
     have c16b1 : (a5 != (l1.length : Int)) = true := bne_iff_ne.mpr c16
     by_cases c24 : 0 ≤ a5
     ·rw [if_pos c24] at H
      have c24b1 : decide (0 ≤ a5) = true := decide_eq_true c24
      clear c24
      by_cases c25 : a5 ≤ (l1.length : Int)
      ·rw [if_pos c25] at H
       have c25b1 : decide (a5 ≤ (l1.length : Int)) = true := decide_eq_true c25
       clear c25
       replace H := Option.bind_eq_some_iff.mp H
       obtain ⟨⟨g7, g8, g9, f6, f7, n0⟩, m1, H⟩ := H
       try dsimp only at H
       have A26 := sd m1
       clear m1
       by_cases c27 : n0 = true
       ·subst c27
        rw [if_pos rfl] at H
        obtain ⟨ji28, hji28⟩ : ∃ j_ : Int, (wrap64 (a5 + 1)) = j_ := ⟨_, rfl⟩
        replace H : (if 0 ≤ (ji28) then (if (ji28) ≤ (l1.length : Int) then (laws_jpMisses.l0 kj3 l1 a5 (l1.drop ((ji28) : Int).toNat) ((l1.drop ((ji28) : Int).toNat).length : Int) 0 e4 f1 f2 e9 f0) else (none)) else (none)) = some (r1, r2) := by first | (rw [hji28] at H; exact H) | (simp only [hji28] at H ⊢; exact H)
        (try rw [hji28] at A15)
        (try rw [hji28] at A26)
        have hji28w : (IntKind.i64.wrap (a5 + 1)) = ji28 := (i64_w _).trans hji28
        by_cases c29 : 0 ≤ (ji28)
        ·rw [if_pos c29] at H
         have c29b1 : decide (0 ≤ (ji28)) = true := decide_eq_true c29
         clear c29
         by_cases c30 : (ji28) ≤ (l1.length : Int)
         ·rw [if_pos c30] at H
          have c30b1 : decide ((ji28) ≤ (l1.length : Int)) = true := decide_eq_true c30
          clear c30
          have H' := sd H
          clear H
          obtain ⟨z0, z1, z2, z3, z4, y0, y1, y2, y3, y4⟩ := blk5 a6.out
          go_wp2_with (first | (go_at_call 15; (with_reducible refine (spec_Reach.calls kj3 a0 d6 d7 d8 (fun k_ => some k_ = (.slice Ao8 b1.length co8 : Value).ownBlock) _ _ b1 (fun k_ => (some k_ ≠ (.slice Ao8 b1.length co8 : Value).ownBlock ∧ k_ ≠ a2)) _ _ b9 _ _ l1 e4 f1 f2 e9 f0 a5 _ ?side1 ?side2 ?side3 ?side4 A15.out).mono ?_); (case side1 => exact Kd.R_V (Kd.R_tight rfl (Kd.R_types (Kd.R_apart' (a3.out) (Kd.R_typed a1.out) (by decide)) a6.out (by decide)))); (case side2 => exact Kd.R_V (a1.out)); (case side3 => repeat (first | exact (Kd.C_below HR1.out HB.out) | (with_reducible refine Kd.C_alloc ?_ _) | (with_reducible refine Kd.C_drewN ?_ _) | (with_reducible refine Kd.C_drew ?_))); (case side4 => exact HC1.out); rintro e w32 ⟨g5, g6, rfl, ho0, ho1, hb⟩; have a9 := sd (Kd.V_lower (Kd.V_mono (ok' := fun k_ => k_ ≠ a2) ho0 (fun k_ hk_ => Or.elim hk_ (fun hs_ => Or.elim hs_ (fun hs_ => ((Kd.R_types (Kd.R_apart' (a3.out) (Kd.R_typed a1.out) (by decide)) a6.out (by decide)).1 k_ hs_.symm).2) (fun hs_ => hs_.2)) (fun hn_ => (Kd.freshB (g := a2) tL k_ hn_)))) (below_size tB)); have b0 := sd (Kd.V_lower (Kd.V_mono (ok' := fun k_ => k_ ≠ a2) ho1 (fun k_ hk_ => Or.elim hk_ (fun hs_ => Or.elim hs_ (fun hs_ => ((Kd.R_types (Kd.R_apart' (a3.out) (Kd.R_typed a1.out) (by decide)) a6.out (by decide)).1 k_ hs_.symm).2) (fun hs_ => hs_.2)) (fun hn_ => (Kd.freshB (g := a2) tL k_ hn_)))) (below_size tB)); have a3 := sd (Kd.R_below (uR a3.out) hb); have a1 := sd (Kd.R_below (uR a1.out) hb); have a6 := sd (blk_below (g := a2) tL hb); have HB := sd (below_step tB hb); clear hb ho0 ho1) | ((with_reducible refine gate_dst (N := 8) rfl ?_); (try (refine gate_guard (by rfl) ?_; dsimp only)); refine box_event (by rfl) (N := 8) (by rfl) (cs := #[.int .i64 0, .int .i64 0, .int .i64 0, .slice none 0 0, .slice none 0 0]) (t := 31) tS ?_; intro a4 hg w33 hbox hb; have a3 := sd (Kd.R_below (uR a3.out) hb); have a1 := sd (Kd.R_below (Kd.R_elderB (uR a1.out) a4 (Nat.le_of_eq hg.symm)) hb); have a9 := sd (Kd.V_below (Kd.V_elderB (uV a9.out) a4 (Nat.le_of_eq hg.symm)) hb); have b0 := sd (Kd.V_below (Kd.V_elderB (uV b0.out) a4 (Nat.le_of_eq hg.symm)) hb); have a6 := sd (blk_below (g := a2) tL hb); have a8 := sd (hbox); have g3 := sd (leB hg tB); have g4 := sd (leB hg tB); have HB := sd (below_step tB hb); have b2 := sd (neL hg (blk_lt (g := a2) tL)); have b3 := sd (neR hg (blk_lt (g := a2) tL)); clear hb hbox hg; have hnb34 := b3.out; have hnc34 := b2.out; obtain ⟨z0, z1, z2, z3, z4, y0, y1, y2, y3, y4⟩ := blk5 a8.out; obtain ⟨Ao36, co36, eo36⟩ := Kd.V_slice a9.out; subst eo36; obtain ⟨Ao37, co37, eo37⟩ := Kd.V_slice b0.out; subst eo37; obtain ⟨i038, hi038, _, hsz38, _⟩ := info_parts info9; obtain ⟨hcut38, hA38, hC38⟩ := print_take_of (P := Tryz.prog) Value.string (⟨#[]⟩ : ByteArray) 22 9 .i64 Tryz.underlying22 hi038 hsz38 A1 c1 l1 a5 tX tX HC1.out; have f3 := sd (Kd.C_of_reads (h1 := fun _ => rfl) (hA38 _ (Kd.reads_of_C HR1.out))); have f4 := sd hC38; clear hA38 hC38 hi038 hsz38; generalize hlt_ : (l1.take (a5 : Int).toNat) = lt_ at *) | (go_at_call 16; (with_reducible refine (laws_jpFound.calls kj3 a0 _ _ lt_ g7 g8 g9 f6 f7 true _ ?_ ?_ A26.out).mono ?_); exact Kd.C_below f3.out tB; exact f4.out; rintro e w39 ⟨j2, j3, rfl, ho0, ho1, hb⟩; have a9 := sd (Kd.V_below (Kd.V_mono (uV (Kd.V_mono a9.out (fun k_ hk => (⟨hk, hk.2⟩ : _ ∧ k_ ≠ a4)))) (fun _ h_ => h_.1)) hb); have b0 := sd (Kd.V_below (Kd.V_mono (uV (Kd.V_mono b0.out (fun k_ hk => (⟨hk, hk.2⟩ : _ ∧ k_ ≠ a4)))) (fun _ h_ => h_.1)) hb); have d2 := sd (Kd.V_lower (Kd.V_mono (ok' := fun k_ => some k_ ≠ (.slice Ao8 b1.length co8 : Value).ownBlock ∧ some k_ ≠ (.slice Ao9 b9.length co9 : Value).ownBlock ∧ k_ ≠ a2 ∧ k_ ≠ a4) ho0 (fun k_ hk_ => ⟨(Kd.fresh' (Kd.R_lt (Kd.R_mono (uR (Kd.R_types a3.out a8.out (by decide))) (fun _ h_ => h_.1))) k_ hk_), (Kd.fresh' (Kd.R_lt (Kd.R_mono (uR (Kd.R_mono a1.out (fun k_ hk => (⟨hk, hk.2⟩ : _ ∧ k_ ≠ a4)))) (fun _ h_ => h_.1))) k_ hk_), (Kd.freshB (g := a2) tC k_ hk_), (Kd.freshB (g := a4) tC k_ hk_)⟩)) (below_size tB)); have d3 := sd (Kd.V_lower (Kd.V_mono (ok' := fun k_ => some k_ ≠ (.slice Ao8 b1.length co8 : Value).ownBlock ∧ some k_ ≠ (.slice Ao9 b9.length co9 : Value).ownBlock ∧ k_ ≠ a2 ∧ k_ ≠ a4) ho1 (fun k_ hk_ => ⟨(Kd.fresh' (Kd.R_lt (Kd.R_mono (uR (Kd.R_types a3.out a8.out (by decide))) (fun _ h_ => h_.1))) k_ hk_), (Kd.fresh' (Kd.R_lt (Kd.R_mono (uR (Kd.R_mono a1.out (fun k_ hk => (⟨hk, hk.2⟩ : _ ∧ k_ ≠ a4)))) (fun _ h_ => h_.1))) k_ hk_), (Kd.freshB (g := a2) tC k_ hk_), (Kd.freshB (g := a4) tC k_ hk_)⟩)) (below_size tB)); have a3 := sd (Kd.R_below (Kd.R_mono (uR (Kd.R_types a3.out a8.out (by decide))) (fun _ h_ => h_.1)) hb); have a1 := sd (Kd.R_below (Kd.R_mono (uR (Kd.R_mono a1.out (fun k_ hk => (⟨hk, hk.2⟩ : _ ∧ k_ ≠ a4)))) (fun _ h_ => h_.1)) hb); have a6 := sd (blk_below (g := a2) tC hb); have a8 := sd (blk_below (g := a4) tC hb); have HB := sd (below_step tB hb); clear hb ho0 ho1) | ((with_reducible refine gate_dst (N := 10) rfl ?_); (try (refine gate_guard (by rfl) ?_; dsimp only)); refine box_event (by rfl) (N := 10) (by rfl) (cs := #[.int .i64 0, .int .i64 0, .int .i64 0, .slice none 0 0, .slice none 0 0]) (t := 31) tS ?_; intro b4 hg w40 hbox hb; have a3 := sd (Kd.R_below (uR a3.out) hb); have a1 := sd (Kd.R_below (Kd.R_elderB (uR a1.out) b4 (Nat.le_of_eq hg.symm)) hb); have a9 := sd (Kd.V_below (Kd.V_elderB (uV a9.out) b4 (Nat.le_of_eq hg.symm)) hb); have b0 := sd (Kd.V_below (Kd.V_elderB (uV b0.out) b4 (Nat.le_of_eq hg.symm)) hb); have d2 := sd (Kd.V_below (Kd.V_elderB (uV d2.out) b4 (Nat.le_of_eq hg.symm)) hb); have d3 := sd (Kd.V_below (Kd.V_elderB (uV d3.out) b4 (Nat.le_of_eq hg.symm)) hb); have a6 := sd (blk_below (g := a2) tL hb); have a8 := sd (blk_below (g := a4) tL hb); have e8 := sd (hbox); have i2 := sd (leB hg tB); have i3 := sd (leB hg tB); have HB := sd (below_step tB hb); have e0 := sd (neL hg (blk_lt (g := a2) tL)); have e1 := sd (neR hg (blk_lt (g := a2) tL)); have b6 := sd (neL hg (blk_lt (g := a4) tL)); have b7 := sd (neR hg (blk_lt (g := a4) tL)); clear hb hbox hg; have hnb41 := e1.out; have hnc41 := e0.out; have hnb42 := b7.out; have hnc42 := b6.out; obtain ⟨z0, z1, z2, z3, z4, y0, y1, y2, y3, y4⟩ := blk5 e8.out; obtain ⟨Ao44, co44, eo44⟩ := Kd.V_slice d2.out; subst eo44; obtain ⟨Ao45, co45, eo45⟩ := Kd.V_slice d3.out; subst eo45; obtain ⟨i046, hi046, _, hsz46, _⟩ := info_parts info9; obtain ⟨A46, hcut46, hA46, hC46⟩ := print_drop_of (P := Tryz.prog) Value.string (⟨#[]⟩ : ByteArray) 22 9 .i64 Tryz.underlying22 hi046 hsz46 A1 c1 l1 (ji28) tX tX HC1.out; have i4 := sd (Kd.C_of_reads (h1 := fun _ => rfl) (hA46 _ (Kd.reads_of_C HR1.out))); have m7 := sd hC46; clear hA46 hC46 hi046 hsz46; generalize hld : (l1.drop ((ji28) : Int).toNat) = ld at *))
          repeat (go_quiet (first | (go_at_call 15; (with_reducible refine (spec_Reach.calls kj3 a0 d6 d7 d8 (fun k_ => some k_ = (.slice Ao8 b1.length co8 : Value).ownBlock) _ _ b1 (fun k_ => (some k_ ≠ (.slice Ao8 b1.length co8 : Value).ownBlock ∧ k_ ≠ a2)) _ _ b9 _ _ l1 e4 f1 f2 e9 f0 a5 _ ?side1 ?side2 ?side3 ?side4 A15.out).mono ?_); (case side1 => exact Kd.R_V (Kd.R_tight rfl (Kd.R_types (Kd.R_apart' (a3.out) (Kd.R_typed a1.out) (by decide)) a6.out (by decide)))); (case side2 => exact Kd.R_V (a1.out)); (case side3 => repeat (first | exact (Kd.C_below HR1.out HB.out) | (with_reducible refine Kd.C_alloc ?_ _) | (with_reducible refine Kd.C_drewN ?_ _) | (with_reducible refine Kd.C_drew ?_))); (case side4 => exact HC1.out); rintro e w32 ⟨g5, g6, rfl, ho0, ho1, hb⟩; have a9 := sd (Kd.V_lower (Kd.V_mono (ok' := fun k_ => k_ ≠ a2) ho0 (fun k_ hk_ => Or.elim hk_ (fun hs_ => Or.elim hs_ (fun hs_ => ((Kd.R_types (Kd.R_apart' (a3.out) (Kd.R_typed a1.out) (by decide)) a6.out (by decide)).1 k_ hs_.symm).2) (fun hs_ => hs_.2)) (fun hn_ => (Kd.freshB (g := a2) tL k_ hn_)))) (below_size tB)); have b0 := sd (Kd.V_lower (Kd.V_mono (ok' := fun k_ => k_ ≠ a2) ho1 (fun k_ hk_ => Or.elim hk_ (fun hs_ => Or.elim hs_ (fun hs_ => ((Kd.R_types (Kd.R_apart' (a3.out) (Kd.R_typed a1.out) (by decide)) a6.out (by decide)).1 k_ hs_.symm).2) (fun hs_ => hs_.2)) (fun hn_ => (Kd.freshB (g := a2) tL k_ hn_)))) (below_size tB)); have a3 := sd (Kd.R_below (uR a3.out) hb); have a1 := sd (Kd.R_below (uR a1.out) hb); have a6 := sd (blk_below (g := a2) tL hb); have HB := sd (below_step tB hb); clear hb ho0 ho1) | ((with_reducible refine gate_dst (N := 8) rfl ?_); (try (refine gate_guard (by rfl) ?_; dsimp only)); refine box_event (by rfl) (N := 8) (by rfl) (cs := #[.int .i64 0, .int .i64 0, .int .i64 0, .slice none 0 0, .slice none 0 0]) (t := 31) tS ?_; intro a4 hg w33 hbox hb; have a3 := sd (Kd.R_below (uR a3.out) hb); have a1 := sd (Kd.R_below (Kd.R_elderB (uR a1.out) a4 (Nat.le_of_eq hg.symm)) hb); have a9 := sd (Kd.V_below (Kd.V_elderB (uV a9.out) a4 (Nat.le_of_eq hg.symm)) hb); have b0 := sd (Kd.V_below (Kd.V_elderB (uV b0.out) a4 (Nat.le_of_eq hg.symm)) hb); have a6 := sd (blk_below (g := a2) tL hb); have a8 := sd (hbox); have g3 := sd (leB hg tB); have g4 := sd (leB hg tB); have HB := sd (below_step tB hb); have b2 := sd (neL hg (blk_lt (g := a2) tL)); have b3 := sd (neR hg (blk_lt (g := a2) tL)); clear hb hbox hg; have hnb34 := b3.out; have hnc34 := b2.out; obtain ⟨z0, z1, z2, z3, z4, y0, y1, y2, y3, y4⟩ := blk5 a8.out; obtain ⟨Ao36, co36, eo36⟩ := Kd.V_slice a9.out; subst eo36; obtain ⟨Ao37, co37, eo37⟩ := Kd.V_slice b0.out; subst eo37; obtain ⟨i038, hi038, _, hsz38, _⟩ := info_parts info9; obtain ⟨hcut38, hA38, hC38⟩ := print_take_of (P := Tryz.prog) Value.string (⟨#[]⟩ : ByteArray) 22 9 .i64 Tryz.underlying22 hi038 hsz38 A1 c1 l1 a5 tX tX HC1.out; have f3 := sd (Kd.C_of_reads (h1 := fun _ => rfl) (hA38 _ (Kd.reads_of_C HR1.out))); have f4 := sd hC38; clear hA38 hC38 hi038 hsz38; generalize hlt_ : (l1.take (a5 : Int).toNat) = lt_ at *) | (go_at_call 16; (with_reducible refine (laws_jpFound.calls kj3 a0 _ _ lt_ g7 g8 g9 f6 f7 true _ ?_ ?_ A26.out).mono ?_); exact Kd.C_below f3.out tB; exact f4.out; rintro e w39 ⟨j2, j3, rfl, ho0, ho1, hb⟩; have a9 := sd (Kd.V_below (Kd.V_mono (uV (Kd.V_mono a9.out (fun k_ hk => (⟨hk, hk.2⟩ : _ ∧ k_ ≠ a4)))) (fun _ h_ => h_.1)) hb); have b0 := sd (Kd.V_below (Kd.V_mono (uV (Kd.V_mono b0.out (fun k_ hk => (⟨hk, hk.2⟩ : _ ∧ k_ ≠ a4)))) (fun _ h_ => h_.1)) hb); have d2 := sd (Kd.V_lower (Kd.V_mono (ok' := fun k_ => some k_ ≠ (.slice Ao8 b1.length co8 : Value).ownBlock ∧ some k_ ≠ (.slice Ao9 b9.length co9 : Value).ownBlock ∧ k_ ≠ a2 ∧ k_ ≠ a4) ho0 (fun k_ hk_ => ⟨(Kd.fresh' (Kd.R_lt (Kd.R_mono (uR (Kd.R_types a3.out a8.out (by decide))) (fun _ h_ => h_.1))) k_ hk_), (Kd.fresh' (Kd.R_lt (Kd.R_mono (uR (Kd.R_mono a1.out (fun k_ hk => (⟨hk, hk.2⟩ : _ ∧ k_ ≠ a4)))) (fun _ h_ => h_.1))) k_ hk_), (Kd.freshB (g := a2) tC k_ hk_), (Kd.freshB (g := a4) tC k_ hk_)⟩)) (below_size tB)); have d3 := sd (Kd.V_lower (Kd.V_mono (ok' := fun k_ => some k_ ≠ (.slice Ao8 b1.length co8 : Value).ownBlock ∧ some k_ ≠ (.slice Ao9 b9.length co9 : Value).ownBlock ∧ k_ ≠ a2 ∧ k_ ≠ a4) ho1 (fun k_ hk_ => ⟨(Kd.fresh' (Kd.R_lt (Kd.R_mono (uR (Kd.R_types a3.out a8.out (by decide))) (fun _ h_ => h_.1))) k_ hk_), (Kd.fresh' (Kd.R_lt (Kd.R_mono (uR (Kd.R_mono a1.out (fun k_ hk => (⟨hk, hk.2⟩ : _ ∧ k_ ≠ a4)))) (fun _ h_ => h_.1))) k_ hk_), (Kd.freshB (g := a2) tC k_ hk_), (Kd.freshB (g := a4) tC k_ hk_)⟩)) (below_size tB)); have a3 := sd (Kd.R_below (Kd.R_mono (uR (Kd.R_types a3.out a8.out (by decide))) (fun _ h_ => h_.1)) hb); have a1 := sd (Kd.R_below (Kd.R_mono (uR (Kd.R_mono a1.out (fun k_ hk => (⟨hk, hk.2⟩ : _ ∧ k_ ≠ a4)))) (fun _ h_ => h_.1)) hb); have a6 := sd (blk_below (g := a2) tC hb); have a8 := sd (blk_below (g := a4) tC hb); have HB := sd (below_step tB hb); clear hb ho0 ho1) | ((with_reducible refine gate_dst (N := 10) rfl ?_); (try (refine gate_guard (by rfl) ?_; dsimp only)); refine box_event (by rfl) (N := 10) (by rfl) (cs := #[.int .i64 0, .int .i64 0, .int .i64 0, .slice none 0 0, .slice none 0 0]) (t := 31) tS ?_; intro b4 hg w40 hbox hb; have a3 := sd (Kd.R_below (uR a3.out) hb); have a1 := sd (Kd.R_below (Kd.R_elderB (uR a1.out) b4 (Nat.le_of_eq hg.symm)) hb); have a9 := sd (Kd.V_below (Kd.V_elderB (uV a9.out) b4 (Nat.le_of_eq hg.symm)) hb); have b0 := sd (Kd.V_below (Kd.V_elderB (uV b0.out) b4 (Nat.le_of_eq hg.symm)) hb); have d2 := sd (Kd.V_below (Kd.V_elderB (uV d2.out) b4 (Nat.le_of_eq hg.symm)) hb); have d3 := sd (Kd.V_below (Kd.V_elderB (uV d3.out) b4 (Nat.le_of_eq hg.symm)) hb); have a6 := sd (blk_below (g := a2) tL hb); have a8 := sd (blk_below (g := a4) tL hb); have e8 := sd (hbox); have i2 := sd (leB hg tB); have i3 := sd (leB hg tB); have HB := sd (below_step tB hb); have e0 := sd (neL hg (blk_lt (g := a2) tL)); have e1 := sd (neR hg (blk_lt (g := a2) tL)); have b6 := sd (neL hg (blk_lt (g := a4) tL)); have b7 := sd (neR hg (blk_lt (g := a4) tL)); clear hb hbox hg; have hnb41 := e1.out; have hnc41 := e0.out; have hnb42 := b7.out; have hnc42 := b6.out; obtain ⟨z0, z1, z2, z3, z4, y0, y1, y2, y3, y4⟩ := blk5 e8.out; obtain ⟨Ao44, co44, eo44⟩ := Kd.V_slice d2.out; subst eo44; obtain ⟨Ao45, co45, eo45⟩ := Kd.V_slice d3.out; subst eo45; obtain ⟨i046, hi046, _, hsz46, _⟩ := info_parts info9; obtain ⟨A46, hcut46, hA46, hC46⟩ := print_drop_of (P := Tryz.prog) Value.string (⟨#[]⟩ : ByteArray) 22 9 .i64 Tryz.underlying22 hi046 hsz46 A1 c1 l1 (ji28) tX tX HC1.out; have i4 := sd (Kd.C_of_reads (h1 := fun _ => rfl) (hA46 _ (Kd.reads_of_C HR1.out))); have m7 := sd hC46; clear hA46 hC46 hi046 hsz46; generalize hld : (l1.drop ((ji28) : Int).toNat) = ld at *)); try go_wp2)
          (try simp only [Act.put, List.setIfInBounds_toArray, List.set_cons_zero, List.set_cons_succ])
          go_loopg [56] kj3 (fun kq v56 w' => ∃ (x56_2 : Int), v56 = .int .i64 x56_2 ∧ Aside0 (laws_jpMisses.l0 kq l1 a5 ld (ld.length : Int) x56_2 e4 f1 f2 e9 f0 = some (r1, r2)) ∧ Aside0 (kq ≤ kj3) ∧ Aside0 (Kd.R k64 64 w' w.heap.size (fun _ => True) (.slice Ao8 b1.length co8) b1) ∧ Aside0 (Kd.R k31 31 w' w.heap.size (fun k_ => some k_ ≠ ((.slice Ao8 b1.length co8) : Value).ownBlock ∧ k_ ≠ a2 ∧ k_ ≠ a4 ∧ k_ ≠ b4) (.slice Ao9 b9.length co9) b9) ∧ Aside0 (Kd.V k64 64 w' w.heap.size (fun k_ => k_ ≠ a2 ∧ k_ ≠ a4 ∧ k_ ≠ b4) (.slice Ao36 e9.length co36) e9) ∧ Aside0 (Kd.V k31 31 w' w.heap.size (fun k_ => k_ ≠ a2 ∧ k_ ≠ a4 ∧ k_ ≠ b4) (.slice Ao37 f0.length co37) f0) ∧ Aside0 (Kd.V k64 64 w' w.heap.size (fun k_ => some k_ ≠ ((.slice Ao8 b1.length co8) : Value).ownBlock ∧ some k_ ≠ ((.slice Ao9 b9.length co9) : Value).ownBlock ∧ k_ ≠ a2 ∧ k_ ≠ a4 ∧ k_ ≠ b4) (.slice Ao44 f6.length co44) f6) ∧ Aside0 (Kd.V k31 31 w' w.heap.size (fun k_ => some k_ ≠ ((.slice Ao8 b1.length co8) : Value).ownBlock ∧ some k_ ≠ ((.slice Ao9 b9.length co9) : Value).ownBlock ∧ k_ ≠ a2 ∧ k_ ≠ a4 ∧ k_ ≠ b4) (.slice Ao45 f7.length co45) f7) ∧ Aside0 (w'.heap[a2]? = some (.cells #[.int .i64 d6, .int .i64 d7, .int .i64 d8, (.slice Ao8 b1.length co8), (.slice Ao9 b9.length co9)] 31 (0, 0))) ∧ Aside0 (w'.heap[a4]? = some (.cells #[.int .i64 e4, .int .i64 f1, .int .i64 f2, (.slice Ao36 e9.length co36), (.slice Ao37 f0.length co37)] 31 (0, 0))) ∧ Aside0 (w'.heap[b4]? = some (.cells #[.int .i64 g7, .int .i64 g8, .int .i64 g9, (.slice Ao44 f6.length co44), (.slice Ao45 f7.length co45)] 31 (0, 0))) ∧ Aside0 (Below w.heap.size w w'))
          case atStart => exact ⟨(0), tF, H', ⟨Nat.le_refl _⟩, ⟨Kd.R_mono (uR (Kd.R_types a3.out e8.out (by decide))) (fun _ hk => trivial)⟩, ⟨Kd.R_mono (uR (Kd.R_mono a1.out (fun k_ hk => (⟨hk, hk.2⟩ : _ ∧ k_ ≠ b4)))) (fun _ hk => ⟨hk.1.1.1.1, ⟨hk.1.1.1.2, ⟨hk.1.1.2, hk.1.2⟩⟩⟩)⟩, ⟨Kd.V_mono (uV (Kd.V_mono a9.out (fun k_ hk => (⟨hk, hk.2⟩ : _ ∧ k_ ≠ b4)))) (fun _ hk => ⟨hk.1.1.1, ⟨hk.1.1.2, hk.1.2⟩⟩)⟩, ⟨Kd.V_mono (uV (Kd.V_mono b0.out (fun k_ hk => (⟨hk, hk.2⟩ : _ ∧ k_ ≠ b4)))) (fun _ hk => ⟨hk.1.1.1, ⟨hk.1.1.2, hk.1.2⟩⟩)⟩, ⟨Kd.V_mono (uV (Kd.V_mono d2.out (fun k_ hk => (⟨hk, hk.2⟩ : _ ∧ k_ ≠ b4)))) (fun _ hk => ⟨hk.1.1.1, ⟨hk.1.1.2.1, ⟨hk.1.1.2.2.1, ⟨hk.1.1.2.2.2, hk.1.2⟩⟩⟩⟩)⟩, ⟨Kd.V_mono (uV (Kd.V_mono d3.out (fun k_ hk => (⟨hk, hk.2⟩ : _ ∧ k_ ≠ b4)))) (fun _ hk => ⟨hk.1.1.1, ⟨hk.1.1.2.1, ⟨hk.1.1.2.2.1, ⟨hk.1.1.2.2.2, hk.1.2⟩⟩⟩⟩)⟩, ⟨tC⟩, ⟨tC⟩, ⟨tC⟩, ⟨tB⟩⟩
          case round =>
           clear H'
           obtain ⟨x56_2, rfl, HA, HK2, a3, a1, i5, i6, i7, i8, a6, a8, e8, HB⟩ := hrel
           cases gk with
           | zero => exact absurd HA.out (by simp [laws_jpMisses.l0])
           | succ k2 =>
            have H := HA.out
            clear HA
            simp only [laws_jpMisses.l0] at H
            by_cases c47 : x56_2 < (ld.length : Int)
            ·rw [if_pos c47] at H
             have c47b0 : decide (x56_2 < (ld.length : Int)) = true := decide_eq_true c47
             clear c47
             by_cases c48 : 0 ≤ x56_2
             ·rw [if_pos c48] at H
              have c48b0 : decide (0 ≤ x56_2) = true := decide_eq_true c48
              clear c48
              by_cases c49 : x56_2 < (ld.length : Int)
              ·rw [if_pos c49] at H
               have c49b0 : decide (x56_2 < (ld.length : Int)) = true := decide_eq_true c49
               clear c49
               replace H := Option.bind_eq_some_iff.mp H
               obtain ⟨i9, m2, H⟩ := H
               try dsimp only at H
               have A50 := sd m2
               clear m2
               by_cases c51 : i9 = true
               ·subst c51
                rw [if_pos rfl] at H
                simp only [Option.some.injEq, Prod.mk.injEq] at H
                obtain ⟨rfl, rfl⟩ := H
                have f8 : 0 ≤ (x56_2 : Int) := of_decide_eq_true (by first | (with_reducible assumption) | assumption)
                have f9 : x56_2 < (ld.length : Int) := of_decide_eq_true (by first | (with_reducible assumption) | assumption)
                obtain ⟨ad468, e468, e5⟩ := Kd.at_string i4.out x56_2 f8 f9
                cases e468
                replace e5 := (HB.out.cell (World.block_lt_of_cell? w _ e5)).trans e5
                replace f8 := eq_true f8
                replace f9 := eq_true f9
                go_wp2_with (first | (go_at_call 17; (with_reducible refine (laws_jpIndex.calls (rdOf ByteArray.empty ld x56_2) true _ A50.out).mono ?_); rintro e w' ⟨rfl, ⟨nd, rfl⟩⟩; (try first | exact ⟨rfl, _, World.drewN_drewN _ _ _⟩ | exact ⟨rfl, _, Eq.trans (World.drewN_drewN _ _ _) (congrArg (World.drewN _) (Nat.add_assoc _ _ _))⟩)))
                repeat (go_quiet (first | (go_at_call 17; (with_reducible refine (laws_jpIndex.calls (rdOf ByteArray.empty ld x56_2) true _ A50.out).mono ?_); rintro e w' ⟨rfl, ⟨nd, rfl⟩⟩; (try first | exact ⟨rfl, _, World.drewN_drewN _ _ _⟩ | exact ⟨rfl, _, Eq.trans (World.drewN_drewN _ _ _) (congrArg (World.drewN _) (Nat.add_assoc _ _ _))⟩))); try go_wp2)
                go_ret2
                exact ⟨by first | rfl | (simp [errW_none, errW_some] <;> rfl) | (simp only [← hji28]; first | rfl | (simp [errW_none, errW_some] <;> rfl)) | (simp [*, errW_none, errW_some] <;> rfl), tB⟩
               ·replace c51 := Bool.eq_false_iff.mpr c51
                subst c51
                rw [if_neg (show ¬ (false = true) by decide)] at H
                have H' := sd H
                clear H
                have f8 : 0 ≤ (x56_2 : Int) := of_decide_eq_true (by first | (with_reducible assumption) | assumption)
                have f9 : x56_2 < (ld.length : Int) := of_decide_eq_true (by first | (with_reducible assumption) | assumption)
                obtain ⟨ad468, e468, e5⟩ := Kd.at_string i4.out x56_2 f8 f9
                cases e468
                replace e5 := (HB.out.cell (World.block_lt_of_cell? w _ e5)).trans e5
                replace f8 := eq_true f8
                replace f9 := eq_true f9
                go_wp2_with (first | (go_at_call 17; (with_reducible refine (laws_jpIndex.calls (rdOf ByteArray.empty ld x56_2) false _ A50.out).mono ?_); rintro e w' ⟨rfl, ⟨nd, rfl⟩⟩; (try first | exact ⟨rfl, _, World.drewN_drewN _ _ _⟩ | exact ⟨rfl, _, Eq.trans (World.drewN_drewN _ _ _) (congrArg (World.drewN _) (Nat.add_assoc _ _ _))⟩)))
                repeat (go_quiet (first | (go_at_call 17; (with_reducible refine (laws_jpIndex.calls (rdOf ByteArray.empty ld x56_2) false _ A50.out).mono ?_); rintro e w' ⟨rfl, ⟨nd, rfl⟩⟩; (try first | exact ⟨rfl, _, World.drewN_drewN _ _ _⟩ | exact ⟨rfl, _, Eq.trans (World.drewN_drewN _ _ _) (congrArg (World.drewN _) (Nat.add_assoc _ _ _))⟩))); try go_wp2)
                go_roundg k2
                case measure => have := HJ3.out; have := HK2.out; omega
                case rel => exact ⟨(wrap64 (x56_2 + 1)), tF, H', ⟨by have := HJ3.out; have := HK2.out; omega⟩, ⟨uR a3.out⟩, ⟨uR a1.out⟩, ⟨uV i5.out⟩, ⟨uV i6.out⟩, ⟨uV i7.out⟩, ⟨uV i8.out⟩, ⟨tL⟩, ⟨tL⟩, ⟨tL⟩, ⟨tB⟩⟩
              ·rw [if_neg c49] at H
               exact absurd H (by simp)
             ·rw [if_neg c48] at H
              exact absurd H (by simp)
            ·rw [if_neg c47] at H
             have c47b0 : decide (x56_2 < (ld.length : Int)) = false := decide_eq_false c47
             clear c47
             by_cases c52 : 0 ≤ a5
             ·rw [if_pos c52] at H
              have c52b0 : decide (0 ≤ a5) = true := decide_eq_true c52
              clear c52
              by_cases c53 : a5 < (l1.length : Int)
              ·rw [if_pos c53] at H
               have c53b0 : decide (a5 < (l1.length : Int)) = true := decide_eq_true c53
               clear c53
               replace H := Option.bind_eq_some_iff.mp H
               obtain ⟨⟨e7, g0⟩, m3, H⟩ := H
               try dsimp only at H
               have A54 := sd m3
               clear m3
               replace H := Option.bind_eq_some_iff.mp H
               obtain ⟨j1, m4, H⟩ := H
               try dsimp only at H
               have A55 := sd m4
               clear m4
               by_cases c56 : j1 = true
               ·subst c56
                rw [if_pos rfl] at H
                by_cases c57 : e4 = 5
                ·rw [if_pos c57] at H
                 have c57b0 : (e4 == 5) = true := beq_iff_eq.mpr c57
                 have c57b1 : (e4 != 5) = false := bne_eq_false_iff_eq.mpr c57
                 clear c57
                 by_cases c58 : g0 = true
                 ·subst c58
                  rw [if_pos rfl] at H
                  simp only [Option.some.injEq, Prod.mk.injEq] at H
                  obtain ⟨rfl, rfl⟩ := H
                  have e2 : 0 ≤ (a5 : Int) := of_decide_eq_true (by first | (with_reducible assumption) | assumption)
                  have e3 : a5 < (l1.length : Int) := of_decide_eq_true (by first | (with_reducible assumption) | assumption)
                  obtain ⟨ad470, e470, c3⟩ := Kd.at_string HR1.out a5 e2 e3
                  cases e470
                  replace c3 := (HB.out.cell (World.block_lt_of_cell? w _ c3)).trans c3
                  replace e2 := eq_true e2
                  replace e3 := eq_true e3
                  go_wp2_with (first | (go_at_call 18; (with_reducible refine (spec_Bracket.calls k2 (rdOf ByteArray.empty l1 a5) e7 true _ A54.out).mono ?_); rintro e w' ⟨rfl, ⟨nd, rfl⟩⟩; (try first | exact ⟨rfl, _, World.drewN_drewN _ _ _⟩ | exact ⟨rfl, _, Eq.trans (World.drewN_drewN _ _ _) (congrArg (World.drewN _) (Nat.add_assoc _ _ _))⟩); have c0 : 0 ≤ (a5 : Int) := of_decide_eq_true (by first | (with_reducible assumption) | assumption); have c2 : a5 < (l1.length : Int) := of_decide_eq_true (by first | (with_reducible assumption) | assumption); obtain ⟨ad473, e473, a7⟩ := Kd.at_string HR1.out a5 c0 c2; obtain rfl : ad470 = ad473 := (by injection e473); replace a7 := (HB.out.cell (World.block_lt_of_cell? w _ a7)).trans a7; replace c0 := eq_true c0; replace c2 := eq_true c2) | (go_at_call 17; (with_reducible refine (laws_jpIndex.calls (rdOf ByteArray.empty l1 a5) true _ A55.out).mono ?_); rintro e w' ⟨rfl, ⟨nd, rfl⟩⟩; (try first | exact ⟨rfl, _, World.drewN_drewN _ _ _⟩ | exact ⟨rfl, _, Eq.trans (World.drewN_drewN _ _ _) (congrArg (World.drewN _) (Nat.add_assoc _ _ _))⟩); have hnb59 := b3.out; have hnc59 := b2.out; have hnb60 := b6.out; have hnc60 := b7.out; obtain ⟨z0, z1, z2, z3, z4, y0, y1, y2, y3, y4⟩ := blk5 a8.out; have g1 : 0 ≤ (a5 : Int) := of_decide_eq_true (by first | (with_reducible assumption) | assumption); have g2 : a5 < (l1.length : Int) := of_decide_eq_true (by first | (with_reducible assumption) | assumption); obtain ⟨ad475, e475, e6⟩ := Kd.at_string HR1.out a5 g1 g2; obtain rfl : ad470 = ad475 := (by injection e475); replace e6 := (HB.out.cell (World.block_lt_of_cell? w _ e6)).trans e6; replace g1 := eq_true g1; replace g2 := eq_true g2))
                  have hnb59 := b3.out
                  have hnc59 := b2.out
                  have hnb60 := b6.out
                  have hnc60 := b7.out
                  obtain ⟨z0, z1, z2, z3, z4, y0, y1, y2, y3, y4⟩ := blk5 a8.out
                  repeat (go_quiet (first | (go_at_call 18; (with_reducible refine (spec_Bracket.calls k2 (rdOf ByteArray.empty l1 a5) e7 true _ A54.out).mono ?_); rintro e w' ⟨rfl, ⟨nd, rfl⟩⟩; (try first | exact ⟨rfl, _, World.drewN_drewN _ _ _⟩ | exact ⟨rfl, _, Eq.trans (World.drewN_drewN _ _ _) (congrArg (World.drewN _) (Nat.add_assoc _ _ _))⟩)) | (go_at_call 17; (with_reducible refine (laws_jpIndex.calls (rdOf ByteArray.empty l1 a5) true _ A55.out).mono ?_); rintro e w' ⟨rfl, ⟨nd, rfl⟩⟩; (try first | exact ⟨rfl, _, World.drewN_drewN _ _ _⟩ | exact ⟨rfl, _, Eq.trans (World.drewN_drewN _ _ _) (congrArg (World.drewN _) (Nat.add_assoc _ _ _))⟩))); try go_wp2_with (first | (go_at_call 18; (with_reducible refine (spec_Bracket.calls k2 (rdOf ByteArray.empty l1 a5) e7 true _ A54.out).mono ?_); rintro e w' ⟨rfl, ⟨nd, rfl⟩⟩; (try first | exact ⟨rfl, _, World.drewN_drewN _ _ _⟩ | exact ⟨rfl, _, Eq.trans (World.drewN_drewN _ _ _) (congrArg (World.drewN _) (Nat.add_assoc _ _ _))⟩); have c0 : 0 ≤ (a5 : Int) := of_decide_eq_true (by first | (with_reducible assumption) | assumption); have c2 : a5 < (l1.length : Int) := of_decide_eq_true (by first | (with_reducible assumption) | assumption); obtain ⟨ad473, e473, a7⟩ := Kd.at_string HR1.out a5 c0 c2; obtain rfl : ad470 = ad473 := (by injection e473); replace a7 := (HB.out.cell (World.block_lt_of_cell? w _ a7)).trans a7; replace c0 := eq_true c0; replace c2 := eq_true c2) | (go_at_call 17; (with_reducible refine (laws_jpIndex.calls (rdOf ByteArray.empty l1 a5) true _ A55.out).mono ?_); rintro e w' ⟨rfl, ⟨nd, rfl⟩⟩; (try first | exact ⟨rfl, _, World.drewN_drewN _ _ _⟩ | exact ⟨rfl, _, Eq.trans (World.drewN_drewN _ _ _) (congrArg (World.drewN _) (Nat.add_assoc _ _ _))⟩); have hnb59 := b3.out; have hnc59 := b2.out; have hnb60 := b6.out; have hnc60 := b7.out; obtain ⟨z0, z1, z2, z3, z4, y0, y1, y2, y3, y4⟩ := blk5 a8.out; have g1 : 0 ≤ (a5 : Int) := of_decide_eq_true (by first | (with_reducible assumption) | assumption); have g2 : a5 < (l1.length : Int) := of_decide_eq_true (by first | (with_reducible assumption) | assumption); obtain ⟨ad475, e475, e6⟩ := Kd.at_string HR1.out a5 g1 g2; obtain rfl : ad470 = ad475 := (by injection e475); replace e6 := (HB.out.cell (World.block_lt_of_cell? w _ e6)).trans e6; replace g1 := eq_true g1; replace g2 := eq_true g2)))
                  go_ret2
                  exact ⟨by first | rfl | (simp [errW_none, errW_some] <;> rfl) | (simp only [← hji28]; first | rfl | (simp [errW_none, errW_some] <;> rfl)) | (simp [*, errW_none, errW_some] <;> rfl), tB⟩
                 ·replace c58 := Bool.eq_false_iff.mpr c58
                  subst c58
                  rw [if_neg (show ¬ (false = true) by decide)] at H
                  simp only [Option.some.injEq, Prod.mk.injEq] at H
                  obtain ⟨rfl, rfl⟩ := H
                  have e2 : 0 ≤ (a5 : Int) := of_decide_eq_true (by first | (with_reducible assumption) | assumption)
                  have e3 : a5 < (l1.length : Int) := of_decide_eq_true (by first | (with_reducible assumption) | assumption)
                  obtain ⟨ad470, e470, c3⟩ := Kd.at_string HR1.out a5 e2 e3
                  cases e470
                  replace c3 := (HB.out.cell (World.block_lt_of_cell? w _ c3)).trans c3
                  replace e2 := eq_true e2
                  replace e3 := eq_true e3
                  go_wp2_with (first | (go_at_call 18; (with_reducible refine (spec_Bracket.calls k2 (rdOf ByteArray.empty l1 a5) e7 false _ A54.out).mono ?_); rintro e w' ⟨rfl, ⟨nd, rfl⟩⟩; (try first | exact ⟨rfl, _, World.drewN_drewN _ _ _⟩ | exact ⟨rfl, _, Eq.trans (World.drewN_drewN _ _ _) (congrArg (World.drewN _) (Nat.add_assoc _ _ _))⟩); have c0 : 0 ≤ (a5 : Int) := of_decide_eq_true (by first | (with_reducible assumption) | assumption); have c2 : a5 < (l1.length : Int) := of_decide_eq_true (by first | (with_reducible assumption) | assumption); obtain ⟨ad473, e473, a7⟩ := Kd.at_string HR1.out a5 c0 c2; obtain rfl : ad470 = ad473 := (by injection e473); replace a7 := (HB.out.cell (World.block_lt_of_cell? w _ a7)).trans a7; replace c0 := eq_true c0; replace c2 := eq_true c2) | (go_at_call 17; (with_reducible refine (laws_jpIndex.calls (rdOf ByteArray.empty l1 a5) true _ A55.out).mono ?_); rintro e w' ⟨rfl, ⟨nd, rfl⟩⟩; (try first | exact ⟨rfl, _, World.drewN_drewN _ _ _⟩ | exact ⟨rfl, _, Eq.trans (World.drewN_drewN _ _ _) (congrArg (World.drewN _) (Nat.add_assoc _ _ _))⟩); have hnb62 := b3.out; have hnc62 := b2.out; have hnb63 := b6.out; have hnc63 := b7.out; obtain ⟨z0, z1, z2, z3, z4, y0, y1, y2, y3, y4⟩ := blk5 a8.out))
                  have hnb62 := b3.out
                  have hnc62 := b2.out
                  have hnb63 := b6.out
                  have hnc63 := b7.out
                  obtain ⟨z0, z1, z2, z3, z4, y0, y1, y2, y3, y4⟩ := blk5 a8.out
                  repeat (go_quiet (first | (go_at_call 18; (with_reducible refine (spec_Bracket.calls k2 (rdOf ByteArray.empty l1 a5) e7 false _ A54.out).mono ?_); rintro e w' ⟨rfl, ⟨nd, rfl⟩⟩; (try first | exact ⟨rfl, _, World.drewN_drewN _ _ _⟩ | exact ⟨rfl, _, Eq.trans (World.drewN_drewN _ _ _) (congrArg (World.drewN _) (Nat.add_assoc _ _ _))⟩)) | (go_at_call 17; (with_reducible refine (laws_jpIndex.calls (rdOf ByteArray.empty l1 a5) true _ A55.out).mono ?_); rintro e w' ⟨rfl, ⟨nd, rfl⟩⟩; (try first | exact ⟨rfl, _, World.drewN_drewN _ _ _⟩ | exact ⟨rfl, _, Eq.trans (World.drewN_drewN _ _ _) (congrArg (World.drewN _) (Nat.add_assoc _ _ _))⟩))); try go_wp2_with (first | (go_at_call 18; (with_reducible refine (spec_Bracket.calls k2 (rdOf ByteArray.empty l1 a5) e7 false _ A54.out).mono ?_); rintro e w' ⟨rfl, ⟨nd, rfl⟩⟩; (try first | exact ⟨rfl, _, World.drewN_drewN _ _ _⟩ | exact ⟨rfl, _, Eq.trans (World.drewN_drewN _ _ _) (congrArg (World.drewN _) (Nat.add_assoc _ _ _))⟩); have c0 : 0 ≤ (a5 : Int) := of_decide_eq_true (by first | (with_reducible assumption) | assumption); have c2 : a5 < (l1.length : Int) := of_decide_eq_true (by first | (with_reducible assumption) | assumption); obtain ⟨ad473, e473, a7⟩ := Kd.at_string HR1.out a5 c0 c2; obtain rfl : ad470 = ad473 := (by injection e473); replace a7 := (HB.out.cell (World.block_lt_of_cell? w _ a7)).trans a7; replace c0 := eq_true c0; replace c2 := eq_true c2) | (go_at_call 17; (with_reducible refine (laws_jpIndex.calls (rdOf ByteArray.empty l1 a5) true _ A55.out).mono ?_); rintro e w' ⟨rfl, ⟨nd, rfl⟩⟩; (try first | exact ⟨rfl, _, World.drewN_drewN _ _ _⟩ | exact ⟨rfl, _, Eq.trans (World.drewN_drewN _ _ _) (congrArg (World.drewN _) (Nat.add_assoc _ _ _))⟩); have hnb62 := b3.out; have hnc62 := b2.out; have hnb63 := b6.out; have hnc63 := b7.out; obtain ⟨z0, z1, z2, z3, z4, y0, y1, y2, y3, y4⟩ := blk5 a8.out)))
                  go_ret2
                  exact ⟨by first | rfl | (simp [errW_none, errW_some] <;> rfl) | (simp only [← hji28]; first | rfl | (simp [errW_none, errW_some] <;> rfl)) | (simp [*, errW_none, errW_some] <;> rfl), tB⟩
                ·rw [if_neg c57] at H
                 have c57b0 : (e4 == 5) = false := beq_eq_false_iff_ne.mpr c57
                 have c57b1 : (e4 != 5) = true := bne_iff_ne.mpr c57
                 simp only [Option.some.injEq, Prod.mk.injEq] at H
                 obtain ⟨rfl, rfl⟩ := H
                 have e2 : 0 ≤ (a5 : Int) := of_decide_eq_true (by first | (with_reducible assumption) | assumption)
                 have e3 : a5 < (l1.length : Int) := of_decide_eq_true (by first | (with_reducible assumption) | assumption)
                 obtain ⟨ad470, e470, c3⟩ := Kd.at_string HR1.out a5 e2 e3
                 cases e470
                 replace c3 := (HB.out.cell (World.block_lt_of_cell? w _ c3)).trans c3
                 replace e2 := eq_true e2
                 replace e3 := eq_true e3
                 go_wp2_with (first | (go_at_call 18; (with_reducible refine (spec_Bracket.calls k2 (rdOf ByteArray.empty l1 a5) e7 g0 _ A54.out).mono ?_); rintro e w' ⟨rfl, ⟨nd, rfl⟩⟩; (try first | exact ⟨rfl, _, World.drewN_drewN _ _ _⟩ | exact ⟨rfl, _, Eq.trans (World.drewN_drewN _ _ _) (congrArg (World.drewN _) (Nat.add_assoc _ _ _))⟩); have c0 : 0 ≤ (a5 : Int) := of_decide_eq_true (by first | (with_reducible assumption) | assumption); have c2 : a5 < (l1.length : Int) := of_decide_eq_true (by first | (with_reducible assumption) | assumption); obtain ⟨ad473, e473, a7⟩ := Kd.at_string HR1.out a5 c0 c2; obtain rfl : ad470 = ad473 := (by injection e473); replace a7 := (HB.out.cell (World.block_lt_of_cell? w _ a7)).trans a7; replace c0 := eq_true c0; replace c2 := eq_true c2) | (go_at_call 17; (with_reducible refine (laws_jpIndex.calls (rdOf ByteArray.empty l1 a5) true _ A55.out).mono ?_); rintro e w' ⟨rfl, ⟨nd, rfl⟩⟩; (try first | exact ⟨rfl, _, World.drewN_drewN _ _ _⟩ | exact ⟨rfl, _, Eq.trans (World.drewN_drewN _ _ _) (congrArg (World.drewN _) (Nat.add_assoc _ _ _))⟩); have hnb65 := b3.out; have hnc65 := b2.out; have hnb66 := b6.out; have hnc66 := b7.out; obtain ⟨z0, z1, z2, z3, z4, y0, y1, y2, y3, y4⟩ := blk5 a8.out))
                 have hnb65 := b3.out
                 have hnc65 := b2.out
                 have hnb66 := b6.out
                 have hnc66 := b7.out
                 obtain ⟨z0, z1, z2, z3, z4, y0, y1, y2, y3, y4⟩ := blk5 a8.out
                 repeat (go_quiet (first | (go_at_call 18; (with_reducible refine (spec_Bracket.calls k2 (rdOf ByteArray.empty l1 a5) e7 g0 _ A54.out).mono ?_); rintro e w' ⟨rfl, ⟨nd, rfl⟩⟩; (try first | exact ⟨rfl, _, World.drewN_drewN _ _ _⟩ | exact ⟨rfl, _, Eq.trans (World.drewN_drewN _ _ _) (congrArg (World.drewN _) (Nat.add_assoc _ _ _))⟩)) | (go_at_call 17; (with_reducible refine (laws_jpIndex.calls (rdOf ByteArray.empty l1 a5) true _ A55.out).mono ?_); rintro e w' ⟨rfl, ⟨nd, rfl⟩⟩; (try first | exact ⟨rfl, _, World.drewN_drewN _ _ _⟩ | exact ⟨rfl, _, Eq.trans (World.drewN_drewN _ _ _) (congrArg (World.drewN _) (Nat.add_assoc _ _ _))⟩))); try go_wp2_with (first | (go_at_call 18; (with_reducible refine (spec_Bracket.calls k2 (rdOf ByteArray.empty l1 a5) e7 g0 _ A54.out).mono ?_); rintro e w' ⟨rfl, ⟨nd, rfl⟩⟩; (try first | exact ⟨rfl, _, World.drewN_drewN _ _ _⟩ | exact ⟨rfl, _, Eq.trans (World.drewN_drewN _ _ _) (congrArg (World.drewN _) (Nat.add_assoc _ _ _))⟩); have c0 : 0 ≤ (a5 : Int) := of_decide_eq_true (by first | (with_reducible assumption) | assumption); have c2 : a5 < (l1.length : Int) := of_decide_eq_true (by first | (with_reducible assumption) | assumption); obtain ⟨ad473, e473, a7⟩ := Kd.at_string HR1.out a5 c0 c2; obtain rfl : ad470 = ad473 := (by injection e473); replace a7 := (HB.out.cell (World.block_lt_of_cell? w _ a7)).trans a7; replace c0 := eq_true c0; replace c2 := eq_true c2) | (go_at_call 17; (with_reducible refine (laws_jpIndex.calls (rdOf ByteArray.empty l1 a5) true _ A55.out).mono ?_); rintro e w' ⟨rfl, ⟨nd, rfl⟩⟩; (try first | exact ⟨rfl, _, World.drewN_drewN _ _ _⟩ | exact ⟨rfl, _, Eq.trans (World.drewN_drewN _ _ _) (congrArg (World.drewN _) (Nat.add_assoc _ _ _))⟩); have hnb65 := b3.out; have hnc65 := b2.out; have hnb66 := b6.out; have hnc66 := b7.out; obtain ⟨z0, z1, z2, z3, z4, y0, y1, y2, y3, y4⟩ := blk5 a8.out)))
                 go_ret2
                 exact ⟨by first | rfl | (simp [errW_none, errW_some] <;> rfl) | (simp only [← hji28]; first | rfl | (simp [errW_none, errW_some] <;> rfl)) | (simp [*, errW_none, errW_some] <;> rfl), tB⟩
               ·replace c56 := Bool.eq_false_iff.mpr c56
                subst c56
                rw [if_neg (show ¬ (false = true) by decide)] at H
                simp only [Option.some.injEq, Prod.mk.injEq] at H
                obtain ⟨rfl, rfl⟩ := H
                have e2 : 0 ≤ (a5 : Int) := of_decide_eq_true (by first | (with_reducible assumption) | assumption)
                have e3 : a5 < (l1.length : Int) := of_decide_eq_true (by first | (with_reducible assumption) | assumption)
                obtain ⟨ad470, e470, c3⟩ := Kd.at_string HR1.out a5 e2 e3
                cases e470
                replace c3 := (HB.out.cell (World.block_lt_of_cell? w _ c3)).trans c3
                replace e2 := eq_true e2
                replace e3 := eq_true e3
                go_wp2_with (first | (go_at_call 18; (with_reducible refine (spec_Bracket.calls k2 (rdOf ByteArray.empty l1 a5) e7 g0 _ A54.out).mono ?_); rintro e w' ⟨rfl, ⟨nd, rfl⟩⟩; (try first | exact ⟨rfl, _, World.drewN_drewN _ _ _⟩ | exact ⟨rfl, _, Eq.trans (World.drewN_drewN _ _ _) (congrArg (World.drewN _) (Nat.add_assoc _ _ _))⟩); have c0 : 0 ≤ (a5 : Int) := of_decide_eq_true (by first | (with_reducible assumption) | assumption); have c2 : a5 < (l1.length : Int) := of_decide_eq_true (by first | (with_reducible assumption) | assumption); obtain ⟨ad473, e473, a7⟩ := Kd.at_string HR1.out a5 c0 c2; obtain rfl : ad470 = ad473 := (by injection e473); replace a7 := (HB.out.cell (World.block_lt_of_cell? w _ a7)).trans a7; replace c0 := eq_true c0; replace c2 := eq_true c2) | (go_at_call 17; (with_reducible refine (laws_jpIndex.calls (rdOf ByteArray.empty l1 a5) false _ A55.out).mono ?_); rintro e w' ⟨rfl, ⟨nd, rfl⟩⟩; (try first | exact ⟨rfl, _, World.drewN_drewN _ _ _⟩ | exact ⟨rfl, _, Eq.trans (World.drewN_drewN _ _ _) (congrArg (World.drewN _) (Nat.add_assoc _ _ _))⟩)))
                repeat (go_quiet (first | (go_at_call 18; (with_reducible refine (spec_Bracket.calls k2 (rdOf ByteArray.empty l1 a5) e7 g0 _ A54.out).mono ?_); rintro e w' ⟨rfl, ⟨nd, rfl⟩⟩; (try first | exact ⟨rfl, _, World.drewN_drewN _ _ _⟩ | exact ⟨rfl, _, Eq.trans (World.drewN_drewN _ _ _) (congrArg (World.drewN _) (Nat.add_assoc _ _ _))⟩)) | (go_at_call 17; (with_reducible refine (laws_jpIndex.calls (rdOf ByteArray.empty l1 a5) false _ A55.out).mono ?_); rintro e w' ⟨rfl, ⟨nd, rfl⟩⟩; (try first | exact ⟨rfl, _, World.drewN_drewN _ _ _⟩ | exact ⟨rfl, _, Eq.trans (World.drewN_drewN _ _ _) (congrArg (World.drewN _) (Nat.add_assoc _ _ _))⟩))); try go_wp2_with (first | (go_at_call 18; (with_reducible refine (spec_Bracket.calls k2 (rdOf ByteArray.empty l1 a5) e7 g0 _ A54.out).mono ?_); rintro e w' ⟨rfl, ⟨nd, rfl⟩⟩; (try first | exact ⟨rfl, _, World.drewN_drewN _ _ _⟩ | exact ⟨rfl, _, Eq.trans (World.drewN_drewN _ _ _) (congrArg (World.drewN _) (Nat.add_assoc _ _ _))⟩); have c0 : 0 ≤ (a5 : Int) := of_decide_eq_true (by first | (with_reducible assumption) | assumption); have c2 : a5 < (l1.length : Int) := of_decide_eq_true (by first | (with_reducible assumption) | assumption); obtain ⟨ad473, e473, a7⟩ := Kd.at_string HR1.out a5 c0 c2; obtain rfl : ad470 = ad473 := (by injection e473); replace a7 := (HB.out.cell (World.block_lt_of_cell? w _ a7)).trans a7; replace c0 := eq_true c0; replace c2 := eq_true c2) | (go_at_call 17; (with_reducible refine (laws_jpIndex.calls (rdOf ByteArray.empty l1 a5) false _ A55.out).mono ?_); rintro e w' ⟨rfl, ⟨nd, rfl⟩⟩; (try first | exact ⟨rfl, _, World.drewN_drewN _ _ _⟩ | exact ⟨rfl, _, Eq.trans (World.drewN_drewN _ _ _) (congrArg (World.drewN _) (Nat.add_assoc _ _ _))⟩))))
                go_ret2
                exact ⟨by first | rfl | (simp [errW_none, errW_some] <;> rfl) | (simp only [← hji28]; first | rfl | (simp [errW_none, errW_some] <;> rfl)) | (simp [*, errW_none, errW_some] <;> rfl), tB⟩
              ·rw [if_neg c53] at H
               exact absurd H (by simp)
             ·rw [if_neg c52] at H
              exact absurd H (by simp)
         ·rw [if_neg c30] at H
          exact absurd H (by simp)
        ·rw [if_neg c29] at H
         exact absurd H (by simp)
       ·replace c27 := Bool.eq_false_iff.mpr c27
        subst c27
        rw [if_neg (show ¬ (false = true) by decide)] at H
        simp only [Option.some.injEq, Prod.mk.injEq] at H
        obtain ⟨rfl, rfl⟩ := H
        obtain ⟨z0, z1, z2, z3, z4, y0, y1, y2, y3, y4⟩ := blk5 a6.out
        go_wp2_with (first | (go_at_call 15; (with_reducible refine (spec_Reach.calls kj3 a0 d6 d7 d8 (fun k_ => some k_ = (.slice Ao8 b1.length co8 : Value).ownBlock) _ _ b1 (fun k_ => (some k_ ≠ (.slice Ao8 b1.length co8 : Value).ownBlock ∧ k_ ≠ a2)) _ _ b9 _ _ l1 e4 f1 f2 e9 f0 a5 _ ?side1 ?side2 ?side3 ?side4 A15.out).mono ?_); (case side1 => exact Kd.R_V (Kd.R_tight rfl (Kd.R_types (Kd.R_apart' (a3.out) (Kd.R_typed a1.out) (by decide)) a6.out (by decide)))); (case side2 => exact Kd.R_V (a1.out)); (case side3 => repeat (first | exact (Kd.C_below HR1.out HB.out) | (with_reducible refine Kd.C_alloc ?_ _) | (with_reducible refine Kd.C_drewN ?_ _) | (with_reducible refine Kd.C_drew ?_))); (case side4 => exact HC1.out); rintro e w69 ⟨g5, g6, rfl, ho0, ho1, hb⟩; have a9 := sd (Kd.V_lower (Kd.V_mono (ok' := fun k_ => k_ ≠ a2) ho0 (fun k_ hk_ => Or.elim hk_ (fun hs_ => Or.elim hs_ (fun hs_ => ((Kd.R_types (Kd.R_apart' (a3.out) (Kd.R_typed a1.out) (by decide)) a6.out (by decide)).1 k_ hs_.symm).2) (fun hs_ => hs_.2)) (fun hn_ => (Kd.freshB (g := a2) tL k_ hn_)))) (below_size tB)); have b0 := sd (Kd.V_lower (Kd.V_mono (ok' := fun k_ => k_ ≠ a2) ho1 (fun k_ hk_ => Or.elim hk_ (fun hs_ => Or.elim hs_ (fun hs_ => ((Kd.R_types (Kd.R_apart' (a3.out) (Kd.R_typed a1.out) (by decide)) a6.out (by decide)).1 k_ hs_.symm).2) (fun hs_ => hs_.2)) (fun hn_ => (Kd.freshB (g := a2) tL k_ hn_)))) (below_size tB)); have a3 := sd (Kd.R_below (uR a3.out) hb); have a1 := sd (Kd.R_below (uR a1.out) hb); have a6 := sd (blk_below (g := a2) tL hb); have HB := sd (below_step tB hb); clear hb ho0 ho1) | ((with_reducible refine gate_dst (N := 8) rfl ?_); (try (refine gate_guard (by rfl) ?_; dsimp only)); refine box_event (by rfl) (N := 8) (by rfl) (cs := #[.int .i64 0, .int .i64 0, .int .i64 0, .slice none 0 0, .slice none 0 0]) (t := 31) tS ?_; intro a4 hg w70 hbox hb; have a3 := sd (Kd.R_below (uR a3.out) hb); have a1 := sd (Kd.R_below (Kd.R_elderB (uR a1.out) a4 (Nat.le_of_eq hg.symm)) hb); have a9 := sd (Kd.V_below (Kd.V_elderB (uV a9.out) a4 (Nat.le_of_eq hg.symm)) hb); have b0 := sd (Kd.V_below (Kd.V_elderB (uV b0.out) a4 (Nat.le_of_eq hg.symm)) hb); have a6 := sd (blk_below (g := a2) tL hb); have a8 := sd (hbox); have g3 := sd (leB hg tB); have g4 := sd (leB hg tB); have HB := sd (below_step tB hb); have b2 := sd (neL hg (blk_lt (g := a2) tL)); have b3 := sd (neR hg (blk_lt (g := a2) tL)); clear hb hbox hg; have hnb71 := b3.out; have hnc71 := b2.out; obtain ⟨z0, z1, z2, z3, z4, y0, y1, y2, y3, y4⟩ := blk5 a8.out; obtain ⟨Ao73, co73, eo73⟩ := Kd.V_slice a9.out; subst eo73; obtain ⟨Ao74, co74, eo74⟩ := Kd.V_slice b0.out; subst eo74; obtain ⟨i075, hi075, _, hsz75, _⟩ := info_parts info9; obtain ⟨hcut75, hA75, hC75⟩ := print_take_of (P := Tryz.prog) Value.string (⟨#[]⟩ : ByteArray) 22 9 .i64 Tryz.underlying22 hi075 hsz75 A1 c1 l1 a5 tX tX HC1.out; have f3 := sd (Kd.C_of_reads (h1 := fun _ => rfl) (hA75 _ (Kd.reads_of_C HR1.out))); have f4 := sd hC75; clear hA75 hC75 hi075 hsz75; generalize hlt_ : (l1.take (a5 : Int).toNat) = lt_ at *) | (go_at_call 16; (with_reducible refine (laws_jpFound.calls kj3 a0 _ _ lt_ g7 g8 g9 f6 f7 false _ ?_ ?_ A26.out).mono ?_); exact Kd.C_below f3.out tB; exact f4.out; rintro e w76 ⟨j2, j3, rfl, ho0, ho1, hb⟩; have a9 := sd (Kd.V_below (Kd.V_mono (uV (Kd.V_mono a9.out (fun k_ hk => (⟨hk, hk.2⟩ : _ ∧ k_ ≠ a4)))) (fun _ h_ => h_.1)) hb); have b0 := sd (Kd.V_below (Kd.V_mono (uV (Kd.V_mono b0.out (fun k_ hk => (⟨hk, hk.2⟩ : _ ∧ k_ ≠ a4)))) (fun _ h_ => h_.1)) hb); have d2 := sd (Kd.V_lower (Kd.V_mono (ok' := fun k_ => some k_ ≠ (.slice Ao8 b1.length co8 : Value).ownBlock ∧ some k_ ≠ (.slice Ao9 b9.length co9 : Value).ownBlock ∧ k_ ≠ a2 ∧ k_ ≠ a4) ho0 (fun k_ hk_ => ⟨(Kd.fresh' (Kd.R_lt (Kd.R_mono (uR (Kd.R_types a3.out a8.out (by decide))) (fun _ h_ => h_.1))) k_ hk_), (Kd.fresh' (Kd.R_lt (Kd.R_mono (uR (Kd.R_mono a1.out (fun k_ hk => (⟨hk, hk.2⟩ : _ ∧ k_ ≠ a4)))) (fun _ h_ => h_.1))) k_ hk_), (Kd.freshB (g := a2) tC k_ hk_), (Kd.freshB (g := a4) tC k_ hk_)⟩)) (below_size tB)); have d3 := sd (Kd.V_lower (Kd.V_mono (ok' := fun k_ => some k_ ≠ (.slice Ao8 b1.length co8 : Value).ownBlock ∧ some k_ ≠ (.slice Ao9 b9.length co9 : Value).ownBlock ∧ k_ ≠ a2 ∧ k_ ≠ a4) ho1 (fun k_ hk_ => ⟨(Kd.fresh' (Kd.R_lt (Kd.R_mono (uR (Kd.R_types a3.out a8.out (by decide))) (fun _ h_ => h_.1))) k_ hk_), (Kd.fresh' (Kd.R_lt (Kd.R_mono (uR (Kd.R_mono a1.out (fun k_ hk => (⟨hk, hk.2⟩ : _ ∧ k_ ≠ a4)))) (fun _ h_ => h_.1))) k_ hk_), (Kd.freshB (g := a2) tC k_ hk_), (Kd.freshB (g := a4) tC k_ hk_)⟩)) (below_size tB)); have a3 := sd (Kd.R_below (Kd.R_mono (uR (Kd.R_types a3.out a8.out (by decide))) (fun _ h_ => h_.1)) hb); have a1 := sd (Kd.R_below (Kd.R_mono (uR (Kd.R_mono a1.out (fun k_ hk => (⟨hk, hk.2⟩ : _ ∧ k_ ≠ a4)))) (fun _ h_ => h_.1)) hb); have a6 := sd (blk_below (g := a2) tC hb); have a8 := sd (blk_below (g := a4) tC hb); have HB := sd (below_step tB hb); clear hb ho0 ho1) | ((with_reducible refine gate_dst (N := 10) rfl ?_); (try (refine gate_guard (by rfl) ?_; dsimp only)); refine box_event (by rfl) (N := 10) (by rfl) (cs := #[.int .i64 0, .int .i64 0, .int .i64 0, .slice none 0 0, .slice none 0 0]) (t := 31) tS ?_; intro b4 hg w77 hbox hb; have a3 := sd (Kd.R_below (uR a3.out) hb); have a1 := sd (Kd.R_below (Kd.R_elderB (uR a1.out) b4 (Nat.le_of_eq hg.symm)) hb); have a9 := sd (Kd.V_below (Kd.V_elderB (uV a9.out) b4 (Nat.le_of_eq hg.symm)) hb); have b0 := sd (Kd.V_below (Kd.V_elderB (uV b0.out) b4 (Nat.le_of_eq hg.symm)) hb); have d2 := sd (Kd.V_below (Kd.V_elderB (uV d2.out) b4 (Nat.le_of_eq hg.symm)) hb); have d3 := sd (Kd.V_below (Kd.V_elderB (uV d3.out) b4 (Nat.le_of_eq hg.symm)) hb); have a6 := sd (blk_below (g := a2) tL hb); have a8 := sd (blk_below (g := a4) tL hb); have e8 := sd (hbox); have i2 := sd (leB hg tB); have i3 := sd (leB hg tB); have HB := sd (below_step tB hb); have e0 := sd (neL hg (blk_lt (g := a2) tL)); have e1 := sd (neR hg (blk_lt (g := a2) tL)); have b6 := sd (neL hg (blk_lt (g := a4) tL)); have b7 := sd (neR hg (blk_lt (g := a4) tL)); clear hb hbox hg; have hnb78 := e1.out; have hnc78 := e0.out; have hnb79 := b7.out; have hnc79 := b6.out; obtain ⟨z0, z1, z2, z3, z4, y0, y1, y2, y3, y4⟩ := blk5 e8.out; obtain ⟨Ao81, co81, eo81⟩ := Kd.V_slice d2.out; subst eo81; obtain ⟨Ao82, co82, eo82⟩ := Kd.V_slice d3.out; subst eo82))
        repeat (go_quiet (first | (go_at_call 15; (with_reducible refine (spec_Reach.calls kj3 a0 d6 d7 d8 (fun k_ => some k_ = (.slice Ao8 b1.length co8 : Value).ownBlock) _ _ b1 (fun k_ => (some k_ ≠ (.slice Ao8 b1.length co8 : Value).ownBlock ∧ k_ ≠ a2)) _ _ b9 _ _ l1 e4 f1 f2 e9 f0 a5 _ ?side1 ?side2 ?side3 ?side4 A15.out).mono ?_); (case side1 => exact Kd.R_V (Kd.R_tight rfl (Kd.R_types (Kd.R_apart' (a3.out) (Kd.R_typed a1.out) (by decide)) a6.out (by decide)))); (case side2 => exact Kd.R_V (a1.out)); (case side3 => repeat (first | exact (Kd.C_below HR1.out HB.out) | (with_reducible refine Kd.C_alloc ?_ _) | (with_reducible refine Kd.C_drewN ?_ _) | (with_reducible refine Kd.C_drew ?_))); (case side4 => exact HC1.out); rintro e w69 ⟨g5, g6, rfl, ho0, ho1, hb⟩; have a9 := sd (Kd.V_lower (Kd.V_mono (ok' := fun k_ => k_ ≠ a2) ho0 (fun k_ hk_ => Or.elim hk_ (fun hs_ => Or.elim hs_ (fun hs_ => ((Kd.R_types (Kd.R_apart' (a3.out) (Kd.R_typed a1.out) (by decide)) a6.out (by decide)).1 k_ hs_.symm).2) (fun hs_ => hs_.2)) (fun hn_ => (Kd.freshB (g := a2) tL k_ hn_)))) (below_size tB)); have b0 := sd (Kd.V_lower (Kd.V_mono (ok' := fun k_ => k_ ≠ a2) ho1 (fun k_ hk_ => Or.elim hk_ (fun hs_ => Or.elim hs_ (fun hs_ => ((Kd.R_types (Kd.R_apart' (a3.out) (Kd.R_typed a1.out) (by decide)) a6.out (by decide)).1 k_ hs_.symm).2) (fun hs_ => hs_.2)) (fun hn_ => (Kd.freshB (g := a2) tL k_ hn_)))) (below_size tB)); have a3 := sd (Kd.R_below (uR a3.out) hb); have a1 := sd (Kd.R_below (uR a1.out) hb); have a6 := sd (blk_below (g := a2) tL hb); have HB := sd (below_step tB hb); clear hb ho0 ho1) | ((with_reducible refine gate_dst (N := 8) rfl ?_); (try (refine gate_guard (by rfl) ?_; dsimp only)); refine box_event (by rfl) (N := 8) (by rfl) (cs := #[.int .i64 0, .int .i64 0, .int .i64 0, .slice none 0 0, .slice none 0 0]) (t := 31) tS ?_; intro a4 hg w70 hbox hb; have a3 := sd (Kd.R_below (uR a3.out) hb); have a1 := sd (Kd.R_below (Kd.R_elderB (uR a1.out) a4 (Nat.le_of_eq hg.symm)) hb); have a9 := sd (Kd.V_below (Kd.V_elderB (uV a9.out) a4 (Nat.le_of_eq hg.symm)) hb); have b0 := sd (Kd.V_below (Kd.V_elderB (uV b0.out) a4 (Nat.le_of_eq hg.symm)) hb); have a6 := sd (blk_below (g := a2) tL hb); have a8 := sd (hbox); have g3 := sd (leB hg tB); have g4 := sd (leB hg tB); have HB := sd (below_step tB hb); have b2 := sd (neL hg (blk_lt (g := a2) tL)); have b3 := sd (neR hg (blk_lt (g := a2) tL)); clear hb hbox hg; have hnb71 := b3.out; have hnc71 := b2.out; obtain ⟨z0, z1, z2, z3, z4, y0, y1, y2, y3, y4⟩ := blk5 a8.out; obtain ⟨Ao73, co73, eo73⟩ := Kd.V_slice a9.out; subst eo73; obtain ⟨Ao74, co74, eo74⟩ := Kd.V_slice b0.out; subst eo74; obtain ⟨i075, hi075, _, hsz75, _⟩ := info_parts info9; obtain ⟨hcut75, hA75, hC75⟩ := print_take_of (P := Tryz.prog) Value.string (⟨#[]⟩ : ByteArray) 22 9 .i64 Tryz.underlying22 hi075 hsz75 A1 c1 l1 a5 tX tX HC1.out; have f3 := sd (Kd.C_of_reads (h1 := fun _ => rfl) (hA75 _ (Kd.reads_of_C HR1.out))); have f4 := sd hC75; clear hA75 hC75 hi075 hsz75; generalize hlt_ : (l1.take (a5 : Int).toNat) = lt_ at *) | (go_at_call 16; (with_reducible refine (laws_jpFound.calls kj3 a0 _ _ lt_ g7 g8 g9 f6 f7 false _ ?_ ?_ A26.out).mono ?_); exact Kd.C_below f3.out tB; exact f4.out; rintro e w76 ⟨j2, j3, rfl, ho0, ho1, hb⟩; have a9 := sd (Kd.V_below (Kd.V_mono (uV (Kd.V_mono a9.out (fun k_ hk => (⟨hk, hk.2⟩ : _ ∧ k_ ≠ a4)))) (fun _ h_ => h_.1)) hb); have b0 := sd (Kd.V_below (Kd.V_mono (uV (Kd.V_mono b0.out (fun k_ hk => (⟨hk, hk.2⟩ : _ ∧ k_ ≠ a4)))) (fun _ h_ => h_.1)) hb); have d2 := sd (Kd.V_lower (Kd.V_mono (ok' := fun k_ => some k_ ≠ (.slice Ao8 b1.length co8 : Value).ownBlock ∧ some k_ ≠ (.slice Ao9 b9.length co9 : Value).ownBlock ∧ k_ ≠ a2 ∧ k_ ≠ a4) ho0 (fun k_ hk_ => ⟨(Kd.fresh' (Kd.R_lt (Kd.R_mono (uR (Kd.R_types a3.out a8.out (by decide))) (fun _ h_ => h_.1))) k_ hk_), (Kd.fresh' (Kd.R_lt (Kd.R_mono (uR (Kd.R_mono a1.out (fun k_ hk => (⟨hk, hk.2⟩ : _ ∧ k_ ≠ a4)))) (fun _ h_ => h_.1))) k_ hk_), (Kd.freshB (g := a2) tC k_ hk_), (Kd.freshB (g := a4) tC k_ hk_)⟩)) (below_size tB)); have d3 := sd (Kd.V_lower (Kd.V_mono (ok' := fun k_ => some k_ ≠ (.slice Ao8 b1.length co8 : Value).ownBlock ∧ some k_ ≠ (.slice Ao9 b9.length co9 : Value).ownBlock ∧ k_ ≠ a2 ∧ k_ ≠ a4) ho1 (fun k_ hk_ => ⟨(Kd.fresh' (Kd.R_lt (Kd.R_mono (uR (Kd.R_types a3.out a8.out (by decide))) (fun _ h_ => h_.1))) k_ hk_), (Kd.fresh' (Kd.R_lt (Kd.R_mono (uR (Kd.R_mono a1.out (fun k_ hk => (⟨hk, hk.2⟩ : _ ∧ k_ ≠ a4)))) (fun _ h_ => h_.1))) k_ hk_), (Kd.freshB (g := a2) tC k_ hk_), (Kd.freshB (g := a4) tC k_ hk_)⟩)) (below_size tB)); have a3 := sd (Kd.R_below (Kd.R_mono (uR (Kd.R_types a3.out a8.out (by decide))) (fun _ h_ => h_.1)) hb); have a1 := sd (Kd.R_below (Kd.R_mono (uR (Kd.R_mono a1.out (fun k_ hk => (⟨hk, hk.2⟩ : _ ∧ k_ ≠ a4)))) (fun _ h_ => h_.1)) hb); have a6 := sd (blk_below (g := a2) tC hb); have a8 := sd (blk_below (g := a4) tC hb); have HB := sd (below_step tB hb); clear hb ho0 ho1) | ((with_reducible refine gate_dst (N := 10) rfl ?_); (try (refine gate_guard (by rfl) ?_; dsimp only)); refine box_event (by rfl) (N := 10) (by rfl) (cs := #[.int .i64 0, .int .i64 0, .int .i64 0, .slice none 0 0, .slice none 0 0]) (t := 31) tS ?_; intro b4 hg w77 hbox hb; have a3 := sd (Kd.R_below (uR a3.out) hb); have a1 := sd (Kd.R_below (Kd.R_elderB (uR a1.out) b4 (Nat.le_of_eq hg.symm)) hb); have a9 := sd (Kd.V_below (Kd.V_elderB (uV a9.out) b4 (Nat.le_of_eq hg.symm)) hb); have b0 := sd (Kd.V_below (Kd.V_elderB (uV b0.out) b4 (Nat.le_of_eq hg.symm)) hb); have d2 := sd (Kd.V_below (Kd.V_elderB (uV d2.out) b4 (Nat.le_of_eq hg.symm)) hb); have d3 := sd (Kd.V_below (Kd.V_elderB (uV d3.out) b4 (Nat.le_of_eq hg.symm)) hb); have a6 := sd (blk_below (g := a2) tL hb); have a8 := sd (blk_below (g := a4) tL hb); have e8 := sd (hbox); have i2 := sd (leB hg tB); have i3 := sd (leB hg tB); have HB := sd (below_step tB hb); have e0 := sd (neL hg (blk_lt (g := a2) tL)); have e1 := sd (neR hg (blk_lt (g := a2) tL)); have b6 := sd (neL hg (blk_lt (g := a4) tL)); have b7 := sd (neR hg (blk_lt (g := a4) tL)); clear hb hbox hg; have hnb78 := e1.out; have hnc78 := e0.out; have hnb79 := b7.out; have hnc79 := b6.out; obtain ⟨z0, z1, z2, z3, z4, y0, y1, y2, y3, y4⟩ := blk5 e8.out; obtain ⟨Ao81, co81, eo81⟩ := Kd.V_slice d2.out; subst eo81; obtain ⟨Ao82, co82, eo82⟩ := Kd.V_slice d3.out; subst eo82)); try go_wp2)
        go_ret2
        exact ⟨tE, tB⟩
      ·rw [if_neg c25] at H
       exact absurd H (by simp)
     ·rw [if_neg c24] at H
      exact absurd H (by simp)
/-! ### jsonparser_nextTokenConfig: function 59 -/
def jsonparser_nextTokenConfig.l0 : Nat → List Int → Int → Int → Option (Int)
 | 0, _, _, _ => none
 | k + 1, x7, x8, x9 => if x9 < x8 then (if 0 ≤ x9 then (if x9 < (x7.length : Int) then (if (rd x7 x9) = 32 then (jsonparser_nextTokenConfig.l0 k x7 x8 (wrap64 (x9 + 1))) else (if (rd x7 x9) = 10 then (jsonparser_nextTokenConfig.l0 k x7 x8 (wrap64 (x9 + 1))) else (if (rd x7 x9) = 13 then (jsonparser_nextTokenConfig.l0 k x7 x8 (wrap64 (x9 + 1))) else (if (rd x7 x9) = 9 then (jsonparser_nextTokenConfig.l0 k x7 x8 (wrap64 (x9 + 1))) else (some x9))))) else (none)) else (none)) else (some (-1))
def jsonparser_nextTokenConfig.f (k : Nat) (a0_0 : Bool) (a0_1 : Bool) (a0_2 : Int) (l1 : List Int) : Option (Int) := jsonparser_nextTokenConfig.l0 k l1 (l1.length : Int) 0
set_option maxHeartbeats 8000000 in
set_option maxRecDepth 100000 in
theorem jsonparser_nextTokenConfig.calls (k : Nat) (a0_0 : Bool) (a0_1 : Bool) (a0_2 : Int) (A1 : Option Addr) (c1 : Nat) (l1 : List Int) (r : Int) (w : World) (hr1 : Kd.C (Kd.int .u8) w A1 l1.length l1) (hc1 : l1.length ≤ c1) (h : jsonparser_nextTokenConfig.f k a0_0 a0_1 a0_2 l1 = some r) :
  Calls Tryz.prog 59 #[.agg #[.bool a0_0, .bool a0_1, .int .i64 a0_2], .slice A1 l1.length c1] w fun e w' => e = .returned (.int .i64 r) ∧ Below w.heap.size w w' := by
 have hu85 := Tryz.underlying85
 have HR1 := sd hr1
 have HC1 := sd hc1
 clear hr1 hc1
 have HB := sd (Below.refl w.heap.size w)
 have H : (jsonparser_nextTokenConfig.l0 k l1 (l1.length : Int) 0) = some r := h
 clear h
 have H' := sd H
 clear H
 go_enter Tryz.func59, Tryz.ntmps59
 go_wp2_with (first | ((with_reducible refine gate_dst (N := 2) rfl ?_); refine box_event (by rfl) (N := 2) (by rfl) (cs := #[.bool a0_0, .bool a0_1, .int .i64 a0_2]) (t := 85) tS ?_; intro m8 hg w3 hbox hb; have m9 := sd (hbox); have n1 := sd (leB hg tB); have n2 := sd (leB hg tB); have HB := sd (below_step tB hb); clear hb hbox hg))
 (try simp only [Act.put, List.setIfInBounds_toArray, List.set_cons_zero, List.set_cons_succ])
 go_loopg [9] k (fun kq v9 w' => ∃ (x9_1 : Int), v9 = .int .i64 x9_1 ∧ Aside0 (jsonparser_nextTokenConfig.l0 kq l1 (l1.length : Int) x9_1 = some r) ∧ Aside0 (kq ≤ k) ∧ Aside0 (w'.heap[m8]? = some (.cells #[.bool a0_0, .bool a0_1, .int .i64 a0_2] 85 (0, 0))) ∧ Aside0 (Below w.heap.size w w'))
 case atStart => exact ⟨(0), tF, H', ⟨Nat.le_refl _⟩, ⟨tL⟩, ⟨tB⟩⟩
 case round =>
  clear H'
  obtain ⟨x9_1, rfl, HA, HK1, m9, HB⟩ := hrel
  cases gk with
  | zero => exact absurd HA.out (by simp [jsonparser_nextTokenConfig.l0])
  | succ k1 =>
   have H := HA.out
   clear HA
   simp only [jsonparser_nextTokenConfig.l0] at H
   by_cases c4 : x9_1 < (l1.length : Int)
   ·rw [if_pos c4] at H
    have c4b0 : decide (x9_1 < (l1.length : Int)) = true := decide_eq_true c4
    clear c4
    by_cases c5 : 0 ≤ x9_1
    ·rw [if_pos c5] at H
     have c5b0 : decide (0 ≤ x9_1) = true := decide_eq_true c5
     clear c5
     by_cases c6 : x9_1 < (l1.length : Int)
     ·rw [if_pos c6] at H
      have c6b0 : decide (x9_1 < (l1.length : Int)) = true := decide_eq_true c6
      clear c6
      by_cases c7 : (rd l1 x9_1) = 32
      ·rw [if_pos c7] at H
       have c7b0 : ((rd l1 x9_1) == 32) = true := beq_iff_eq.mpr c7
       have c7b1 : ((rd l1 x9_1) != 32) = false := bne_eq_false_iff_eq.mpr c7
       clear c7
       have H' := sd H
       clear H
       have d4 : 0 ≤ (x9_1 : Int) := of_decide_eq_true (by first | (with_reducible assumption) | assumption)
       have d5 : x9_1 < (l1.length : Int) := of_decide_eq_true (by first | (with_reducible assumption) | assumption)
       obtain ⟨ad477, e477, b8⟩ := Kd.at_int HR1.out x9_1 d4 d5
       cases e477
       replace b8 := (HB.out.cell (World.block_lt_of_cell? w _ b8)).trans b8
       replace d4 := eq_true d4
       replace d5 := eq_true d5
       go_wp2
       go_roundg k1
       case measure => have := HK1.out; omega
       case rel => exact ⟨(wrap64 (x9_1 + 1)), tF, H', ⟨by have := HK1.out; omega⟩, ⟨tL⟩, ⟨tB⟩⟩
      ·rw [if_neg c7] at H
       have c7b0 : ((rd l1 x9_1) == 32) = false := beq_eq_false_iff_ne.mpr c7
       have c7b1 : ((rd l1 x9_1) != 32) = true := bne_iff_ne.mpr c7
       by_cases c8 : (rd l1 x9_1) = 10
       ·rw [if_pos c8] at H
        have c8b0 : ((rd l1 x9_1) == 10) = true := beq_iff_eq.mpr c8
        have c8b1 : ((rd l1 x9_1) != 10) = false := bne_eq_false_iff_eq.mpr c8
        clear c8
        have H' := sd H
        clear H
        have d4 : 0 ≤ (x9_1 : Int) := of_decide_eq_true (by first | (with_reducible assumption) | assumption)
        have d5 : x9_1 < (l1.length : Int) := of_decide_eq_true (by first | (with_reducible assumption) | assumption)
        obtain ⟨ad477, e477, b8⟩ := Kd.at_int HR1.out x9_1 d4 d5
        cases e477
        replace b8 := (HB.out.cell (World.block_lt_of_cell? w _ b8)).trans b8
        replace d4 := eq_true d4
        replace d5 := eq_true d5
        go_wp2
        go_roundg k1
        case measure => have := HK1.out; omega
        case rel => exact ⟨(wrap64 (x9_1 + 1)), tF, H', ⟨by have := HK1.out; omega⟩, ⟨tL⟩, ⟨tB⟩⟩
       ·rw [if_neg c8] at H
        have c8b0 : ((rd l1 x9_1) == 10) = false := beq_eq_false_iff_ne.mpr c8
        have c8b1 : ((rd l1 x9_1) != 10) = true := bne_iff_ne.mpr c8
        by_cases c9 : (rd l1 x9_1) = 13
        ·rw [if_pos c9] at H
         have c9b0 : ((rd l1 x9_1) == 13) = true := beq_iff_eq.mpr c9
         have c9b1 : ((rd l1 x9_1) != 13) = false := bne_eq_false_iff_eq.mpr c9
         clear c9
         have H' := sd H
         clear H
         have d4 : 0 ≤ (x9_1 : Int) := of_decide_eq_true (by first | (with_reducible assumption) | assumption)
         have d5 : x9_1 < (l1.length : Int) := of_decide_eq_true (by first | (with_reducible assumption) | assumption)
         obtain ⟨ad477, e477, b8⟩ := Kd.at_int HR1.out x9_1 d4 d5
         cases e477
         replace b8 := (HB.out.cell (World.block_lt_of_cell? w _ b8)).trans b8
         replace d4 := eq_true d4
         replace d5 := eq_true d5
         go_wp2
         go_roundg k1
         case measure => have := HK1.out; omega
         case rel => exact ⟨(wrap64 (x9_1 + 1)), tF, H', ⟨by have := HK1.out; omega⟩, ⟨tL⟩, ⟨tB⟩⟩
        ·rw [if_neg c9] at H
         have c9b0 : ((rd l1 x9_1) == 13) = false := beq_eq_false_iff_ne.mpr c9
         have c9b1 : ((rd l1 x9_1) != 13) = true := bne_iff_ne.mpr c9
         by_cases c10 : (rd l1 x9_1) = 9
         ·rw [if_pos c10] at H
          have c10b0 : ((rd l1 x9_1) == 9) = true := beq_iff_eq.mpr c10
          have c10b1 : ((rd l1 x9_1) != 9) = false := bne_eq_false_iff_eq.mpr c10
          clear c10
          have H' := sd H
          clear H
          have d4 : 0 ≤ (x9_1 : Int) := of_decide_eq_true (by first | (with_reducible assumption) | assumption)
          have d5 : x9_1 < (l1.length : Int) := of_decide_eq_true (by first | (with_reducible assumption) | assumption)
          obtain ⟨ad477, e477, b8⟩ := Kd.at_int HR1.out x9_1 d4 d5
          cases e477
          replace b8 := (HB.out.cell (World.block_lt_of_cell? w _ b8)).trans b8
          replace d4 := eq_true d4
          replace d5 := eq_true d5
          go_wp2
          go_roundg k1
          case measure => have := HK1.out; omega
          case rel => exact ⟨(wrap64 (x9_1 + 1)), tF, H', ⟨by have := HK1.out; omega⟩, ⟨tL⟩, ⟨tB⟩⟩
         ·rw [if_neg c10] at H
          have c10b0 : ((rd l1 x9_1) == 9) = false := beq_eq_false_iff_ne.mpr c10
          have c10b1 : ((rd l1 x9_1) != 9) = true := bne_iff_ne.mpr c10
          obtain rfl := Option.some.inj H
          have d4 : 0 ≤ (x9_1 : Int) := of_decide_eq_true (by first | (with_reducible assumption) | assumption)
          have d5 : x9_1 < (l1.length : Int) := of_decide_eq_true (by first | (with_reducible assumption) | assumption)
          obtain ⟨ad477, e477, b8⟩ := Kd.at_int HR1.out x9_1 d4 d5
          cases e477
          replace b8 := (HB.out.cell (World.block_lt_of_cell? w _ b8)).trans b8
          replace d4 := eq_true d4
          replace d5 := eq_true d5
          go_wp2
          go_ret
          exact ⟨tE, tB⟩
     ·rw [if_neg c6] at H
      exact absurd H (by simp)
    ·rw [if_neg c5] at H
     exact absurd H (by simp)
   ·rw [if_neg c4] at H
    have c4b0 : decide (x9_1 < (l1.length : Int)) = false := decide_eq_false c4
    clear c4
    obtain rfl := Option.some.inj H
    go_wp2
    go_ret
    exact ⟨tE, tB⟩
end Go.Proofs.YthgpfljhmhkaiacGreatDoor.PFnJrTypedMisses
