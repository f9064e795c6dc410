/- Walks of the functions that the law calls, printed by program and rewritten. -/
import Derived.Test.YtaihmpdhaikfkaaGreatDoorV0
import Derived.Test.YtaihmpdhaikfkaaGreatDoorV8
import Derived.Test.YtaihmpdhaikfkaaGreatDoorV9
import Derived.Test.YtaihmpdhaikfkaaGreatDoorV10
import Derived.Test.YtaihmpdhaikfkaaGreatDoorZK
set_option linter.all false
namespace Go.Proofs.YtaihmpdhaikfkaaGreatDoor.PFnFjFloat
open Go.RowKit Go.Proofs.YtaihmpdhaikfkaaGreatDoorW.PrintWords Go.Proofs.YtaihmpdhaikfkaaGreatDoorW.PrintLast Go.Proofs.YtaihmpdhaikfkaaGreatDoorW.PrintMore
attribute [local go_sem] max2_int min2_int max_two min_two max_three min_three max_four min_four
/-! ### spec_Value: function 12 -/
mutual
def spec_Value.j0 : Nat → ByteArray → Int → Bool → ByteArray → Int → Option (Bool × ByteArray × Int × Bool)
 | 0, _, _, _, _, _ => none
 | k + 1, x0, x5, a8, a9, b0 => spec_Value.l0 k x0 x5 ([] : List Int) 0 false a8 a9 b0
def spec_Value.l0 : Nat → ByteArray → Int → List Int → Int → Bool → Bool → ByteArray → Int → Option (Bool × ByteArray × Int × Bool)
 | 0, _, _, _, _, _, _, _, _ => none
 | k + 1, x0, x5, x6, x7, x8, a8, a9, b0 => if x5 < (x0.size : Int) then (if 0 ≤ x5 then (if (bt x0 x5) = 101 then (spec_Value.j2 k x0 x5 x6 x7 x8 false a8 a9 b0) else (spec_Value.j2 k x0 x5 x6 x7 x8 ((bt x0 x5) != 69) a8 a9 b0)) else (none)) else (spec_Value.j2 k x0 x5 x6 x7 x8 false a8 a9 b0)
def spec_Value.j2 : Nat → ByteArray → Int → List Int → Int → Bool → Bool → Bool → ByteArray → Int → Option (Bool × ByteArray × Int × Bool)
 | 0, _, _, _, _, _, _, _, _, _ => none
 | k + 1, x0, x5, x6, x7, x8, x35, a8, a9, b0 => if x35 = true then (if 0 ≤ x5 then (if x5 < (x0.size : Int) then (if (bt x0 x5) = 46 then (spec_Value.l0 k x0 (wrap64 (x5 + 1)) x6 x7 true a8 a9 b0) else (if x6.length < 140737488355328 then ((some (x6 ++ [bt x0 x5] : List Int)).bind fun b3 => (if x8 = true then (spec_Value.l0 k x0 (wrap64 (x5 + 1)) b3 (wrap64 (x7 - 1)) x8 a8 a9 b0) else (spec_Value.l0 k x0 (wrap64 (x5 + 1)) b3 x7 x8 a8 a9 b0))) else (none))) else (none)) else (none)) else (if x5 < (x0.size : Int) then (if 0 ≤ (wrap64 (x5 + 1)) then (if (wrap64 (x5 + 1)) ≤ (x0.size : Int) then ((spec_signed.f k (x0.extract ((wrap64 (x5 + 1)) : Int).toNat x0.size)).bind fun b6 => (if b6.2 = true then ((spec_bare.f k x6 (wrap64 (x7 + b6.1))).bind fun b7 => (some (a8, b7.1, b7.2, true))) else (some (false, (⟨#[]⟩ : ByteArray), 0, false)))) else (none)) else (none)) else ((spec_bare.f k x6 x7).bind fun e0 => (some (a8, e0.1, e0.2, true))))
end
def spec_Value.f (k : Nat) (a0 : ByteArray) : Option (Bool × ByteArray × Int × Bool) := (spec_IsNumber.f k a0).bind fun d4 => (if d4 = true then (if 0 < (a0.size : Int) then (if (bt a0 0) = 45 then (spec_Value.j0 k a0 1 true (⟨#[]⟩ : ByteArray) 0) else (spec_Value.j0 k a0 0 false (⟨#[]⟩ : ByteArray) 0)) else (none)) else (some (false, (⟨#[]⟩ : ByteArray), 0, false)))
set_option maxHeartbeats 8000000 in
set_option maxRecDepth 100000 in
theorem spec_Value.calls (k : Nat) (a0 : ByteArray) (r1 : Bool) (r2 : ByteArray) (r3 : Int) (r4 : Bool) (w : World) (h : spec_Value.f k a0 = some (r1, r2, r3, r4)) :
  Calls Tryz.prog 12 #[.string a0] w fun e w' => e = .returned (.tuple #[.agg #[.bool r1, .string r2, .int .i64 r3], .bool r4]) ∧ Below w.heap.size w w' := by
 have hu34 := Tryz.underlying34
 have HB := sd (Below.refl w.heap.size w)
 have H : ((spec_IsNumber.f k a0).bind fun d4 => (if d4 = true then (if 0 < (a0.size : Int) then (if (bt a0 0) = 45 then (spec_Value.j0 k a0 1 true (⟨#[]⟩ : ByteArray) 0) else (spec_Value.j0 k a0 0 false (⟨#[]⟩ : ByteArray) 0)) else (none)) else (some (false, (⟨#[]⟩ : ByteArray), 0, false)))) = some (r1, r2, r3, r4) := h
 clear h
 replace H := Option.bind_eq_some_iff.mp H
 obtain ⟨d4, A20, H⟩ := H
 try dsimp only at H
 have A2 := sd A20
 clear A20
 by_cases c3 : d4 = true
 ·subst c3
  rw [if_pos rfl] at H
  by_cases c4 : 0 < (a0.size : Int)
  ·rw [if_pos c4] at H
   have c4b0 : decide (0 < (a0.size : Int)) = true := decide_eq_true c4
   have c4b1 : decide (0 < a0.size) = true := decide_eq_true (by omega)
   clear c4
   have HC6 := sd H
   clear H
   go_enter Tryz.func12, Tryz.ntmps12
   go_upto_if 18 with (first | ((with_reducible refine gate_dst (N := 2) rfl ?_); refine box_event ?hg (N := 2) ?hd (cs := #[.bool false, .string (⟨#[]⟩ : ByteArray), .int .i64 0]) (t := 34) ?hr ?_; (case hd => rfl); (case hg => rfl); (case hr => exact tS); intro a6 hg w7 hbox hb; have a3 := sd (hbox); have f6 := sd (leB hg tB); have f7 := sd (leB hg tB); have HB := sd (below_step tB hb); clear hb hbox hg) | ((with_reducible refine gate_callee (f := 14) rfl ?_); refine goesL_ (some 12) rfl rfl Tryz.func14 (by kernel_rfl) rfl #[.string a0] rfl tM ?_; (with_reducible refine (spec_IsNumber.calls k a0 true _ A2.out).mono ?_); rintro e w8 ⟨rfl, hb⟩; refine ⟨_, rfl, ?_⟩; have a3 := sd (blk_below (g := a6) (o := .cells #[.bool false, .string (⟨#[]⟩ : ByteArray), .int .i64 0] 34 (0, 0)) tL hb); have HB := sd (below_step tB hb); clear hb) | ((with_reducible refine gate_dst (N := 4) rfl ?_); refine box_event ?hg (N := 4) ?hd (cs := #[.bool false, .string (⟨#[]⟩ : ByteArray), .int .i64 0]) (t := 34) ?hr ?_; (case hd => rfl); (case hg => rfl); (case hr => exact tS); intro a7 hg w9 hbox hb; have a3 := sd (blk_below (g := a6) (o := .cells #[.bool false, .string (⟨#[]⟩ : ByteArray), .int .i64 0] 34 (0, 0)) tL hb); have a4 := sd (hbox); have g8 := sd (leB hg tB); have g9 := sd (leB hg tB); have HB := sd (below_step tB hb); have b1 := sd ((by rw [hg]; exact Nat.ne_of_lt (blk_lt (g := a6) (o := .cells #[.bool false, .string (⟨#[]⟩ : ByteArray), .int .i64 0] 34 (0, 0)) tL) : a6 ≠ a7)); have b2 := sd ((by rw [hg]; exact Nat.ne_of_gt (blk_lt (g := a6) (o := .cells #[.bool false, .string (⟨#[]⟩ : ByteArray), .int .i64 0] 34 (0, 0)) tL) : a7 ≠ a6)); clear hb hbox hg; have hnb10 := b2.out; have hnc10 := b1.out; have hcz11_0 : w9.cell? ⟨a7, 0, none⟩ = some (.bool false) := (blk_cell a4.out 0).trans rfl; have hcz11_1 : w9.cell? ⟨a7, 1, none⟩ = some (.string (⟨#[]⟩ : ByteArray)) := (blk_cell a4.out 1).trans rfl; have hcz11_2 : w9.cell? ⟨a7, 2, none⟩ = some (.int .i64 0) := (blk_cell a4.out 2).trans rfl; have hfz11_0 := blk_frozen a4.out 0; have hfz11_1 := blk_frozen a4.out 1; have hfz11_2 := blk_frozen a4.out 2; have p5 : 0 ≤ (0 : Int) := (by omega); have q5 : 0 < a0.size := (by have : (0 : Int) < (a0.size : Int) := of_decide_eq_true (by first | (with_reducible assumption) | assumption); omega); have hx5 : ∀ h : 0 < a0.size, ((a0[0]'h).toNat : Int) = bt a0 0 := bt_at a0 0; clear p5; have qi5 : (0 < (a0.size : Int)) = True := eq_true tX; replace q5 := eq_true q5))
   (try simp only [Act.put, List.setIfInBounds_toArray, List.set_cons_zero, List.set_cons_succ])
   go_cut [5] (fun v5 wc => ∃ (kq : Nat) (x5_5 : Int) (a5 : Bool), v5 = .int .i64 x5_5 ∧ Aside0 (spec_Value.j0 kq a0 x5_5 a5 (⟨#[]⟩ : ByteArray) 0 = some (r1, r2, r3, r4)) ∧ Aside0 (kq ≤ k) ∧ Aside0 (wc.heap[a6]? = some (.cells #[.bool false, .string (⟨#[]⟩ : ByteArray), .int .i64 0] 34 (0, 0))) ∧ Aside0 (wc.heap[a7]? = some (.cells #[.bool a5, .string (⟨#[]⟩ : ByteArray), .int .i64 0] 34 (0, 0))) ∧ Aside0 (Below w.heap.size w wc))
   case first =>
    have H := HC6.out
    clear HC6
    by_cases c12 : (bt a0 0) = 45
    ·rw [if_pos c12] at H
     have c12b0 : ((bt a0 0) == 45) = true := beq_iff_eq.mpr c12
     have c12b1 : ((bt a0 0) != 45) = false := bne_eq_false_iff_eq.mpr c12
     clear c12
     (first | rw [c12b0] | (simp only [i64_w, i32_w]; rw [c12b0]) | skip)
     have H' := sd H
     clear H
     have hnb13 := b2.out
     have hnc13 := b1.out
     have hcz14_0 : w9.cell? ⟨a7, 0, none⟩ = some (.bool false) := (blk_cell a4.out 0).trans rfl
     have hcz14_1 : w9.cell? ⟨a7, 1, none⟩ = some (.string (⟨#[]⟩ : ByteArray)) := (blk_cell a4.out 1).trans rfl
     have hcz14_2 : w9.cell? ⟨a7, 2, none⟩ = some (.int .i64 0) := (blk_cell a4.out 2).trans rfl
     have hfz14_0 := blk_frozen a4.out 0
     have hfz14_1 := blk_frozen a4.out 1
     have hfz14_2 := blk_frozen a4.out 2
     go_wp2
     go_meet
     case rel => exact ⟨_, (1), (true), tF, H', ⟨by first | omega | exact Nat.le_refl _⟩, ⟨tC⟩, ⟨tC⟩, ⟨tB⟩⟩
    ·rw [if_neg c12] at H
     have c12b0 : ((bt a0 0) == 45) = false := beq_eq_false_iff_ne.mpr c12
     have c12b1 : ((bt a0 0) != 45) = true := bne_iff_ne.mpr c12
     (first | rw [c12b0] | (simp only [i64_w, i32_w]; rw [c12b0]) | skip)
     have H' := sd H
     clear H
     go_wp2
     go_meet
     case rel => exact ⟨_, (0), (false), tF, H', ⟨by first | omega | exact Nat.le_refl _⟩, ⟨tC⟩, ⟨tC⟩, ⟨tB⟩⟩
   case rest =>
    clear HC6
    obtain ⟨kq, x5_5, a5, rfl, HA, HJ5, a3, a4, HB⟩ := hcut
    cases kq with
    | zero => exact absurd HA.out (by simp [spec_Value.j0])
    | succ kj5 =>
     have H := HA.out
     clear HA
     simp only [spec_Value.j0] at H
     have H' := sd H
     clear H
     go_wp2
     (try simp only [Act.put, List.setIfInBounds_toArray, List.set_cons_zero, List.set_cons_succ])
     go_loopg [5, 6, 7, 8] kj5 (fun kq v5 v6 v7 v8 w' => ∃ (x5_2 : Int) (x6_2 : List Int) (x7_2 : Int) (x8_2 : Bool), v5 = .int .i64 x5_2 ∧ v7 = .int .i64 x7_2 ∧ v8 = .bool x8_2 ∧ Aside0 (spec_Value.l0 kq a0 x5_2 x6_2 x7_2 x8_2 a5 (⟨#[]⟩ : ByteArray) 0 = some (r1, r2, r3, r4)) ∧ Aside0 (kq ≤ kj5) ∧ Aside0 (Kd.R (Kd.int .u8) 5 w' w.heap.size (fun _ => True) v6 x6_2) ∧ Aside0 (w'.heap[a6]? = some (.cells #[.bool false, .string (⟨#[]⟩ : ByteArray), .int .i64 0] 34 (0, 0))) ∧ Aside0 (w'.heap[a7]? = some (.cells #[.bool a5, .string (⟨#[]⟩ : ByteArray), .int .i64 0] 34 (0, 0))) ∧ Aside0 (Below w.heap.size w w'))
     case atStart => exact ⟨(x5_5), (([] : List Int)), (0), (false), tF, tF, tF, H', ⟨Nat.le_refl _⟩, ⟨tN⟩, ⟨tL⟩, ⟨tL⟩, ⟨tB⟩⟩
     case round =>
      clear H'
      obtain ⟨x5_2, x6_2, x7_2, x8_2, rfl, rfl, rfl, HA, HK2, HO_6, a3, a4, HB⟩ := hrel
      cases gk with
      | zero => exact absurd HA.out (by simp [spec_Value.l0])
      | succ k2 =>
       have H := HA.out
       clear HA
       simp only [spec_Value.l0] at H
       have HC15 := sd H
       clear H
       go_upto_region 11 with (fail)
       go_cut [35] (fun v35 wc => ∃ (kq : Nat) (x35_14 : Bool), v35 = .bool x35_14 ∧ Aside0 (spec_Value.j2 kq a0 x5_2 x6_2 x7_2 x8_2 x35_14 a5 (⟨#[]⟩ : ByteArray) 0 = some (r1, r2, r3, r4)) ∧ Aside0 (kq ≤ k2) ∧ Aside0 (Kd.R (Kd.int .u8) 5 wc w.heap.size (fun _ => True) u6 x6_2) ∧ Aside0 (wc.heap[a6]? = some (.cells #[.bool false, .string (⟨#[]⟩ : ByteArray), .int .i64 0] 34 (0, 0))) ∧ Aside0 (wc.heap[a7]? = some (.cells #[.bool a5, .string (⟨#[]⟩ : ByteArray), .int .i64 0] 34 (0, 0))) ∧ Aside0 (Below w.heap.size w wc))
       case first =>
        have H := HC15.out
        clear HC15
        by_cases c16 : x5_2 < (a0.size : Int)
        ·rw [if_pos c16] at H
         have c16b0 : decide (x5_2 < (a0.size : Int)) = true := decide_eq_true c16
         clear c16
         (first | rw [c16b0] | (simp only [i64_w, i32_w]; rw [c16b0]) | skip)
         by_cases c17 : 0 ≤ x5_2
         ·rw [if_pos c17] at H
          have c17b0 : decide (0 ≤ x5_2) = true := decide_eq_true c17
          clear c17
          by_cases c19 : (bt a0 x5_2) = 101
          ·rw [if_pos c19] at H
           have c19b0 : ((bt a0 x5_2) == 101) = true := beq_iff_eq.mpr c19
           have c19b1 : ((bt a0 x5_2) != 101) = false := bne_eq_false_iff_eq.mpr c19
           clear c19
           have H' := sd H
           clear H
           have p18 : 0 ≤ (x5_2 : Int) := of_decide_eq_true (by first | (with_reducible assumption) | assumption)
           have q18 : x5_2 < (a0.size : Int) := of_decide_eq_true (by first | (with_reducible assumption) | assumption)
           have hx18 := bt_at a0 x5_2
           replace p18 := eq_true p18
           replace q18 := eq_true q18
           go_wp2
           go_meet
           case rel => exact ⟨_, (false), tF, H', ⟨by have := HJ5.out; have := HK2.out; first | omega | exact Nat.le_refl _⟩, ⟨uR HO_6.out⟩, ⟨tL⟩, ⟨tL⟩, ⟨tB⟩⟩
          ·rw [if_neg c19] at H
           have c19b0 : ((bt a0 x5_2) == 101) = false := beq_eq_false_iff_ne.mpr c19
           have c19b1 : ((bt a0 x5_2) != 101) = true := bne_iff_ne.mpr c19
           have H' := sd H
           clear H
           have p18 : 0 ≤ (x5_2 : Int) := of_decide_eq_true (by first | (with_reducible assumption) | assumption)
           have q18 : x5_2 < (a0.size : Int) := of_decide_eq_true (by first | (with_reducible assumption) | assumption)
           have hx18 := bt_at a0 x5_2
           replace p18 := eq_true p18
           replace q18 := eq_true q18
           have p20 : 0 ≤ (x5_2 : Int) := of_decide_eq_true (by first | (with_reducible assumption) | assumption)
           have q20 : x5_2 < (a0.size : Int) := of_decide_eq_true (by first | (with_reducible assumption) | assumption)
           have hx20 := bt_at a0 x5_2
           replace p20 := eq_true p20
           replace q20 := eq_true q20
           go_wp2
           go_meet
           case rel => exact ⟨_, (((bt a0 x5_2) != 69)), tF, H', ⟨by have := HJ5.out; have := HK2.out; first | omega | exact Nat.le_refl _⟩, ⟨uR HO_6.out⟩, ⟨tL⟩, ⟨tL⟩, ⟨tB⟩⟩
         ·rw [if_neg c17] at H
          exact absurd H (by simp)
        ·rw [if_neg c16] at H
         have c16b0 : decide (x5_2 < (a0.size : Int)) = false := decide_eq_false c16
         clear c16
         (first | rw [c16b0] | (simp only [i64_w, i32_w]; rw [c16b0]) | skip)
         have H' := sd H
         clear H
         go_wp2
         go_meet
         case rel => exact ⟨_, (false), tF, H', ⟨by have := HJ5.out; have := HK2.out; first | omega | exact Nat.le_refl _⟩, ⟨uR HO_6.out⟩, ⟨tL⟩, ⟨tL⟩, ⟨tB⟩⟩
       case rest =>
        clear HC15
        obtain ⟨kq, x35_14, rfl, HA, HJ14, HO_6, a3, a4, HB⟩ := hcut
        cases kq with
        | zero => exact absurd HA.out (by simp [spec_Value.j2])
        | succ kj14 =>
         have H := HA.out
         clear HA
         simp only [spec_Value.j2] at H
         by_cases c21 : x35_14 = true
         ·subst c21
          rw [if_pos rfl] at H
          by_cases c22 : 0 ≤ x5_2
          ·rw [if_pos c22] at H
           have c22b0 : decide (0 ≤ x5_2) = true := decide_eq_true c22
           clear c22
           by_cases c23 : x5_2 < (a0.size : Int)
           ·rw [if_pos c23] at H
            have c23b0 : decide (x5_2 < (a0.size : Int)) = true := decide_eq_true c23
            clear c23
            by_cases c25 : (bt a0 x5_2) = 46
            ·rw [if_pos c25] at H
             have c25b0 : ((bt a0 x5_2) == 46) = true := beq_iff_eq.mpr c25
             have c25b1 : ((bt a0 x5_2) != 46) = false := bne_eq_false_iff_eq.mpr c25
             clear c25
             have H' := sd H
             clear H
             have p24 : 0 ≤ (x5_2 : Int) := of_decide_eq_true (by first | (with_reducible assumption) | assumption)
             have q24 : x5_2 < (a0.size : Int) := of_decide_eq_true (by first | (with_reducible assumption) | assumption)
             have hx24 := bt_at a0 x5_2
             replace p24 := eq_true p24
             replace q24 := eq_true q24
             go_wp2
             go_roundg kj14
             case measure => have := HJ5.out; have := HK2.out; have := HJ14.out; omega
             case rel => exact ⟨(wrap64 (x5_2 + 1)), (x6_2), (x7_2), (true), tF, tF, tF, H', ⟨by have := HJ5.out; have := HK2.out; have := HJ14.out; omega⟩, ⟨uR HO_6.out⟩, ⟨tL⟩, ⟨tL⟩, ⟨tB⟩⟩
            ·rw [if_neg c25] at H
             have c25b0 : ((bt a0 x5_2) == 46) = false := beq_eq_false_iff_ne.mpr c25
             have c25b1 : ((bt a0 x5_2) != 46) = true := bne_iff_ne.mpr c25
             by_cases c27 : x6_2.length < 140737488355328
             ·rw [if_pos c27] at H
              have LMc27 := sd c27
              clear c27
              obtain ⟨b3, b8⟩ : ∃ y_ : List Int, y_ = (x6_2 ++ [bt a0 x5_2]) := ⟨_, rfl⟩
              replace H : (if x8_2 = true then (spec_Value.l0 kj14 a0 (wrap64 (x5_2 + 1)) b3 (wrap64 (x7_2 - 1)) x8_2 a5 (⟨#[]⟩ : ByteArray) 0) else (spec_Value.l0 kj14 a0 (wrap64 (x5_2 + 1)) b3 x7_2 x8_2 a5 (⟨#[]⟩ : ByteArray) 0)) = some (r1, r2, r3, r4) := by first | (rw [b8]; with_reducible exact H) | (have H2_ := (Option.bind_some _ _).symm.trans H; rw [b8]; with_reducible exact H2_) | (have H2_ := (Option.bind_some _ _).symm.trans H; with_reducible exact H2_) | with_reducible exact H | (rw [b8]; exact H) | exact H
              have e1 := sd b8
              clear b8
              by_cases c28 : x8_2 = true
              ·subst c28
               rw [if_pos rfl] at H
               have H' := sd H
               clear H
               have p24 : 0 ≤ (x5_2 : Int) := of_decide_eq_true (by first | (with_reducible assumption) | assumption)
               have q24 : x5_2 < (a0.size : Int) := of_decide_eq_true (by first | (with_reducible assumption) | assumption)
               have hx24 := bt_at a0 x5_2
               replace p24 := eq_true p24
               replace q24 := eq_true q24
               have p26 : 0 ≤ (x5_2 : Int) := of_decide_eq_true (by first | (with_reducible assumption) | assumption)
               have q26 : x5_2 < (a0.size : Int) := of_decide_eq_true (by first | (with_reducible assumption) | assumption)
               have hx26 := bt_at a0 x5_2
               replace p26 := eq_true p26
               replace q26 := eq_true q26
               go_wp2_with (first | ((with_reducible refine gate_builtin (b := .append) (xs := #[.tmp 42, .tmp 46]) rfl ?_); at_builtin; refine Kd.R_append (Kd.int .u8) (w0 := w) w.heap.size rfl (.tmp 42) (.tmp 46) 40 5 (.int .u8 0) 1 rfl Tryz.underlying40 info5 rfl (by decide) (by omega) u6 x6_2 (bt a0 x5_2) [.int .u8 (bt a0 x5_2)] (fun _ => True) (fun _ => False) rfl rfl ?aP (fun _ hk => hk.elim) ?aF ?aO ?aB ?aS ?aL ?_; (case aP => exact rfl); (case aB => exact tB); (case aF => exact (fun _ _ => trivial)); (case aO => exact (uR HO_6.out)); (case aS => exact (below_size tB)); (case aL => have := LMc27.out; omega); intro g5 w29 ho hb hg hat; rw [← e1.out] at ho; have a3 := sd (blk_grown (g := a6) (o := .cells #[.bool false, .string (⟨#[]⟩ : ByteArray), .int .i64 0] 34 (0, 0)) tL hg (Kd.R_ne HO_6.out a3.out (by decide))); have a4 := sd (blk_grown (g := a7) (o := .cells #[.bool a5, .string (⟨#[]⟩ : ByteArray), .int .i64 0] 34 (0, 0)) tL hg (Kd.R_ne HO_6.out a4.out (by decide))); have HB := sd (hb); have d5 := sd (ho); clear ho hb hg hat))
               go_roundg kj14
               case measure => have := HJ5.out; have := HK2.out; have := HJ14.out; omega
               case rel => exact ⟨(wrap64 (x5_2 + 1)), (b3), (wrap64 (x7_2 - 1)), (true), tF, tF, tF, H', ⟨by have := HJ5.out; have := HK2.out; have := HJ14.out; omega⟩, ⟨uR d5.out⟩, ⟨tL⟩, ⟨tL⟩, ⟨tB⟩⟩
              ·replace c28 := Bool.eq_false_iff.mpr c28
               subst c28
               rw [if_neg (show ¬ (false = true) by decide)] at H
               have H' := sd H
               clear H
               have p24 : 0 ≤ (x5_2 : Int) := of_decide_eq_true (by first | (with_reducible assumption) | assumption)
               have q24 : x5_2 < (a0.size : Int) := of_decide_eq_true (by first | (with_reducible assumption) | assumption)
               have hx24 := bt_at a0 x5_2
               replace p24 := eq_true p24
               replace q24 := eq_true q24
               have p26 : 0 ≤ (x5_2 : Int) := of_decide_eq_true (by first | (with_reducible assumption) | assumption)
               have q26 : x5_2 < (a0.size : Int) := of_decide_eq_true (by first | (with_reducible assumption) | assumption)
               have hx26 := bt_at a0 x5_2
               replace p26 := eq_true p26
               replace q26 := eq_true q26
               go_wp2_with (first | ((with_reducible refine gate_builtin (b := .append) (xs := #[.tmp 42, .tmp 46]) rfl ?_); at_builtin; refine Kd.R_append (Kd.int .u8) (w0 := w) w.heap.size rfl (.tmp 42) (.tmp 46) 40 5 (.int .u8 0) 1 rfl Tryz.underlying40 info5 rfl (by decide) (by omega) u6 x6_2 (bt a0 x5_2) [.int .u8 (bt a0 x5_2)] (fun _ => True) (fun _ => False) rfl rfl ?aP (fun _ hk => hk.elim) ?aF ?aO ?aB ?aS ?aL ?_; (case aP => exact rfl); (case aB => exact tB); (case aF => exact (fun _ _ => trivial)); (case aO => exact (uR HO_6.out)); (case aS => exact (below_size tB)); (case aL => have := LMc27.out; omega); intro g5 w30 ho hb hg hat; rw [← e1.out] at ho; have a3 := sd (blk_grown (g := a6) (o := .cells #[.bool false, .string (⟨#[]⟩ : ByteArray), .int .i64 0] 34 (0, 0)) tL hg (Kd.R_ne HO_6.out a3.out (by decide))); have a4 := sd (blk_grown (g := a7) (o := .cells #[.bool a5, .string (⟨#[]⟩ : ByteArray), .int .i64 0] 34 (0, 0)) tL hg (Kd.R_ne HO_6.out a4.out (by decide))); have HB := sd (hb); have d5 := sd (ho); clear ho hb hg hat))
               go_roundg kj14
               case measure => have := HJ5.out; have := HK2.out; have := HJ14.out; omega
               case rel => exact ⟨(wrap64 (x5_2 + 1)), (b3), (x7_2), (false), tF, tF, tF, H', ⟨by have := HJ5.out; have := HK2.out; have := HJ14.out; omega⟩, ⟨uR d5.out⟩, ⟨tL⟩, ⟨tL⟩, ⟨tB⟩⟩
             ·rw [if_neg c27] at H
              exact absurd H (by simp)
           ·rw [if_neg c23] at H
            exact absurd H (by simp)
          ·rw [if_neg c22] at H
           exact absurd H (by simp)
         ·replace c21 := Bool.eq_false_iff.mpr c21
          subst c21
          rw [if_neg (show ¬ (false = true) by decide)] at H
          by_cases c31 : x5_2 < (a0.size : Int)
          ·rw [if_pos c31] at H
           have c31b0 : decide (x5_2 < (a0.size : Int)) = true := decide_eq_true c31
           clear c31
           obtain ⟨ji32, hji32⟩ : ∃ j_ : Int, (wrap64 (x5_2 + 1)) = j_ := ⟨_, rfl⟩
           replace H : (if 0 ≤ (ji32) then (if (ji32) ≤ (a0.size : Int) then ((spec_signed.f kj14 (a0.extract ((ji32) : Int).toNat a0.size)).bind fun b6 => (if b6.2 = true then ((spec_bare.f kj14 x6_2 (wrap64 (x7_2 + b6.1))).bind fun b7 => (some (a5, b7.1, b7.2, true))) else (some (false, (⟨#[]⟩ : ByteArray), 0, false)))) else (none)) else (none)) = some (r1, r2, r3, r4) := by first | (rw [hji32] at H; exact H) | (simp only [hji32] at H ⊢; exact H)
           have hji32w : (IntKind.i64.wrap (x5_2 + 1)) = ji32 := (i64_w _).trans hji32
           by_cases c33 : 0 ≤ (ji32)
           ·rw [if_pos c33] at H
            have c33b0 := eq_true c33
            have c33b1 : decide (0 ≤ (ji32)) = true := decide_eq_true c33
            clear c33
            by_cases c34 : (ji32) ≤ (a0.size : Int)
            ·rw [if_pos c34] at H
             have c34b0 := eq_true c34
             have c34b1 : decide ((ji32) ≤ (a0.size : Int)) = true := decide_eq_true c34
             clear c34
             replace H := Option.bind_eq_some_iff.mp H
             obtain ⟨⟨d6, g6⟩, e6, H⟩ := H
             try dsimp only at H
             have A35 := sd e6
             clear e6
             by_cases c36 : g6 = true
             ·subst c36
              rw [if_pos rfl] at H
              replace H := Option.bind_eq_some_iff.mp H
              obtain ⟨⟨e7, e8⟩, e9, H⟩ := H
              try dsimp only at H
              have A37 := sd e9
              clear e9
              simp only [Option.some.injEq, Prod.mk.injEq] at H
              obtain ⟨rfl, rfl, rfl, rfl⟩ := H
              go_wp2_with (first | ((with_reducible refine gate_callee (f := 15) rfl ?_); refine goesL_ (some 60) rfl rfl Tryz.func15 (by kernel_rfl) rfl #[.string (a0.extract ((ji32) : Int).toNat a0.size)] rfl (by (try simp only [List.map_toArray, List.map_cons, List.map_nil]); first | done | (simp only [hji32]; rfl) | rfl | (simp only [List.length_drop, List.length_take]; rfl)) ?_; (with_reducible refine (spec_signed.calls kj14 (a0.extract ((ji32) : Int).toNat a0.size) d6 true _ A35.out).mono ?_); rintro e w' ⟨rfl, ⟨nd, rfl⟩⟩; refine ⟨_, rfl, ?_⟩; (try (rw [drewN_self wc]; generalize hq_ : World.drewN wc _ = wc; have n0_ : Aside0 (Kd.R (Kd.int .u8) 5 wc w.heap.size (fun _ => True) u6 x6_2) := ⟨by rw [← hq_]; exact (uR HO_6.out)⟩; have n1_ : Aside0 (wc.heap[a6]? = some (.cells #[.bool false, .string (⟨#[]⟩ : ByteArray), .int .i64 0] 34 (0, 0))) := ⟨by rw [← hq_]; exact tL⟩; have n2_ : Aside0 (wc.heap[a7]? = some (.cells #[.bool a5, .string (⟨#[]⟩ : ByteArray), .int .i64 0] 34 (0, 0))) := ⟨by rw [← hq_]; exact tL⟩; have n3_ : Aside0 (Below w.heap.size w wc) := ⟨by rw [← hq_]; exact tB⟩; clear HO_6 a3 a4 HB hq_; have HO_6 := n0_; have a3 := n1_; have a4 := n2_; have HB := n3_; clear n0_ n1_ n2_ n3_)); obtain ⟨Ao38, co38, eo38⟩ := Kd.R_slice HO_6.out; subst eo38) | ((with_reducible refine gate_callee (f := 24) rfl ?_); refine goesL_ (some 72) rfl rfl Tryz.func24 (by kernel_rfl) rfl #[.slice Ao38 x6_2.length co38, .int .i64 (wrap64 (x7_2 + d6))] rfl tM ?_; (with_reducible refine (spec_bare.calls kj14 (fun k_ => some k_ = (.slice Ao38 x6_2.length co38 : Value).ownBlock) _ _ x6_2 (wrap64 (x7_2 + d6)) e7 e8 _ ?side1 A37.out).mono ?_); (case side1 => exact Kd.R_V (Kd.R_tight rfl (Kd.R_types (Kd.R_types (HO_6.out) a3.out (by decide)) a4.out (by decide)))); rintro e w39 ⟨rfl, hb⟩; refine ⟨_, rfl, ?_⟩; have HO_6 := sd (Kd.R_below (uR HO_6.out) hb); have a3 := sd (blk_below (g := a6) (o := .cells #[.bool false, .string (⟨#[]⟩ : ByteArray), .int .i64 0] 34 (0, 0)) tL hb); have a4 := sd (blk_below (g := a7) (o := .cells #[.bool a5, .string (⟨#[]⟩ : ByteArray), .int .i64 0] 34 (0, 0)) tL hb); have HB := sd (below_step tB hb); clear hb; have hnb40 := b2.out; have hnc40 := b1.out; have hcz41_0 : w39.cell? ⟨a7, 0, none⟩ = some (.bool a5) := (blk_cell a4.out 0).trans rfl; have hcz41_1 : w39.cell? ⟨a7, 1, none⟩ = some (.string (⟨#[]⟩ : ByteArray)) := (blk_cell a4.out 1).trans rfl; have hcz41_2 : w39.cell? ⟨a7, 2, none⟩ = some (.int .i64 0) := (blk_cell a4.out 2).trans rfl; have hfz41_0 := blk_frozen a4.out 0; have hfz41_1 := blk_frozen a4.out 1; have hfz41_2 := blk_frozen a4.out 2; have hcz42_0 : w39.cell? ⟨a6, 0, none⟩ = some (.bool false) := (blk_cell a3.out 0).trans rfl; have hcz42_1 : w39.cell? ⟨a6, 1, none⟩ = some (.string (⟨#[]⟩ : ByteArray)) := (blk_cell a3.out 1).trans rfl; have hcz42_2 : w39.cell? ⟨a6, 2, none⟩ = some (.int .i64 0) := (blk_cell a3.out 2).trans rfl; have hfz42_0 := blk_frozen a3.out 0; have hfz42_1 := blk_frozen a3.out 1; have hfz42_2 := blk_frozen a3.out 2))
              refine bodyPost_ret (results_ct rfl _ _ a6 34 #[.bool a5, .string e7, .int .i64 e8] (0, 0) _ rfl tC Tryz.underlying34 rfl (by kernel_rfl)) rfl ?_
              exact ⟨by first | rfl | (simp [errW_none, errW_some] <;> rfl) | (simp only [← hji32]; first | rfl | (simp [errW_none, errW_some] <;> rfl)) | (simp [*, errW_none, errW_some] <;> rfl), tB⟩
             ·replace c36 := Bool.eq_false_iff.mpr c36
              subst c36
              rw [if_neg (show ¬ (false = true) by decide)] at H
              simp only [Option.some.injEq, Prod.mk.injEq] at H
              obtain ⟨rfl, rfl, rfl, rfl⟩ := H
              go_wp2_with (first | ((with_reducible refine gate_callee (f := 15) rfl ?_); refine goesL_ (some 60) rfl rfl Tryz.func15 (by kernel_rfl) rfl #[.string (a0.extract ((ji32) : Int).toNat a0.size)] rfl (by (try simp only [List.map_toArray, List.map_cons, List.map_nil]); first | done | (simp only [hji32]; rfl) | rfl | (simp only [List.length_drop, List.length_take]; rfl)) ?_; (with_reducible refine (spec_signed.calls kj14 (a0.extract ((ji32) : Int).toNat a0.size) d6 false _ A35.out).mono ?_); rintro e w' ⟨rfl, ⟨nd, rfl⟩⟩; refine ⟨_, rfl, ?_⟩; (try (rw [drewN_self wc]; generalize hq_ : World.drewN wc _ = wc; have n0_ : Aside0 (Kd.R (Kd.int .u8) 5 wc w.heap.size (fun _ => True) u6 x6_2) := ⟨by rw [← hq_]; exact (uR HO_6.out)⟩; have n1_ : Aside0 (wc.heap[a6]? = some (.cells #[.bool false, .string (⟨#[]⟩ : ByteArray), .int .i64 0] 34 (0, 0))) := ⟨by rw [← hq_]; exact tL⟩; have n2_ : Aside0 (wc.heap[a7]? = some (.cells #[.bool a5, .string (⟨#[]⟩ : ByteArray), .int .i64 0] 34 (0, 0))) := ⟨by rw [← hq_]; exact tL⟩; have n3_ : Aside0 (Below w.heap.size w wc) := ⟨by rw [← hq_]; exact tB⟩; clear HO_6 a3 a4 HB hq_; have HO_6 := n0_; have a3 := n1_; have a4 := n2_; have HB := n3_; clear n0_ n1_ n2_ n3_)); have hnb43 := b1.out; have hnc43 := b2.out; have hcz44_0 : wc.cell? ⟨a6, 0, none⟩ = some (.bool false) := (blk_cell a3.out 0).trans rfl; have hcz44_1 : wc.cell? ⟨a6, 1, none⟩ = some (.string (⟨#[]⟩ : ByteArray)) := (blk_cell a3.out 1).trans rfl; have hcz44_2 : wc.cell? ⟨a6, 2, none⟩ = some (.int .i64 0) := (blk_cell a3.out 2).trans rfl; have hfz44_0 := blk_frozen a3.out 0; have hfz44_1 := blk_frozen a3.out 1; have hfz44_2 := blk_frozen a3.out 2))
              refine bodyPost_ret (results_ct rfl _ _ a6 34 #[.bool false, .string (⟨#[]⟩ : ByteArray), .int .i64 0] (0, 0) _ rfl tC Tryz.underlying34 rfl (by kernel_rfl)) rfl ?_
              exact ⟨by first | rfl | (simp [errW_none, errW_some] <;> rfl) | (simp only [← hji32]; first | rfl | (simp [errW_none, errW_some] <;> rfl)) | (simp [*, errW_none, errW_some] <;> rfl), tB⟩
            ·rw [if_neg c34] at H
             exact absurd H (by simp)
           ·rw [if_neg c33] at H
            exact absurd H (by simp)
          ·rw [if_neg c31] at H
           have c31b0 : decide (x5_2 < (a0.size : Int)) = false := decide_eq_false c31
           clear c31
           replace H := Option.bind_eq_some_iff.mp H
           obtain ⟨⟨f0, f1⟩, f2, H⟩ := H
           try dsimp only at H
           have A45 := sd f2
           clear f2
           simp only [Option.some.injEq, Prod.mk.injEq] at H
           obtain ⟨rfl, rfl, rfl, rfl⟩ := H
           obtain ⟨Ao46, co46, eo46⟩ := Kd.R_slice HO_6.out
           subst eo46
           go_wp2_with (first | ((with_reducible refine gate_callee (f := 24) rfl ?_); refine goesL_ (some 72) rfl rfl Tryz.func24 (by kernel_rfl) rfl #[.slice Ao46 x6_2.length co46, .int .i64 x7_2] rfl tM ?_; (with_reducible refine (spec_bare.calls kj14 (fun k_ => some k_ = (.slice Ao46 x6_2.length co46 : Value).ownBlock) _ _ x6_2 x7_2 f0 f1 _ ?side1 A45.out).mono ?_); (case side1 => exact Kd.R_V (Kd.R_tight rfl (Kd.R_types (Kd.R_types (HO_6.out) a3.out (by decide)) a4.out (by decide)))); rintro e w47 ⟨rfl, hb⟩; refine ⟨_, rfl, ?_⟩; have HO_6 := sd (Kd.R_below (uR HO_6.out) hb); have a3 := sd (blk_below (g := a6) (o := .cells #[.bool false, .string (⟨#[]⟩ : ByteArray), .int .i64 0] 34 (0, 0)) tL hb); have a4 := sd (blk_below (g := a7) (o := .cells #[.bool a5, .string (⟨#[]⟩ : ByteArray), .int .i64 0] 34 (0, 0)) tL hb); have HB := sd (below_step tB hb); clear hb; have hnb48 := b2.out; have hnc48 := b1.out; have hcz49_0 : w47.cell? ⟨a7, 0, none⟩ = some (.bool a5) := (blk_cell a4.out 0).trans rfl; have hcz49_1 : w47.cell? ⟨a7, 1, none⟩ = some (.string (⟨#[]⟩ : ByteArray)) := (blk_cell a4.out 1).trans rfl; have hcz49_2 : w47.cell? ⟨a7, 2, none⟩ = some (.int .i64 0) := (blk_cell a4.out 2).trans rfl; have hfz49_0 := blk_frozen a4.out 0; have hfz49_1 := blk_frozen a4.out 1; have hfz49_2 := blk_frozen a4.out 2; have hcz50_0 : w47.cell? ⟨a6, 0, none⟩ = some (.bool false) := (blk_cell a3.out 0).trans rfl; have hcz50_1 : w47.cell? ⟨a6, 1, none⟩ = some (.string (⟨#[]⟩ : ByteArray)) := (blk_cell a3.out 1).trans rfl; have hcz50_2 : w47.cell? ⟨a6, 2, none⟩ = some (.int .i64 0) := (blk_cell a3.out 2).trans rfl; have hfz50_0 := blk_frozen a3.out 0; have hfz50_1 := blk_frozen a3.out 1; have hfz50_2 := blk_frozen a3.out 2))
           refine bodyPost_ret (results_ct rfl _ _ a6 34 #[.bool a5, .string f0, .int .i64 f1] (0, 0) _ rfl tC Tryz.underlying34 rfl (by kernel_rfl)) rfl ?_
           exact ⟨tE, tB⟩
  ·rw [if_neg c4] at H
   exact absurd H (by simp)
 ·replace c3 := Bool.eq_false_iff.mpr c3
  subst c3
  rw [if_neg (show ¬ (false = true) by decide)] at H
  simp only [Option.some.injEq, Prod.mk.injEq] at H
  obtain ⟨rfl, rfl, rfl, rfl⟩ := H
  go_enter Tryz.func12, Tryz.ntmps12
  go_wp2_with (first | ((with_reducible refine gate_dst (N := 2) rfl ?_); refine box_event ?hg (N := 2) ?hd (cs := #[.bool false, .string (⟨#[]⟩ : ByteArray), .int .i64 0]) (t := 34) ?hr ?_; (case hd => rfl); (case hg => rfl); (case hr => exact tS); intro a6 hg w51 hbox hb; have a3 := sd (hbox); have f6 := sd (leB hg tB); have f7 := sd (leB hg tB); have HB := sd (below_step tB hb); clear hb hbox hg) | ((with_reducible refine gate_callee (f := 14) rfl ?_); refine goesL_ (some 12) rfl rfl Tryz.func14 (by kernel_rfl) rfl #[.string a0] rfl tM ?_; (with_reducible refine (spec_IsNumber.calls k a0 false _ A2.out).mono ?_); rintro e w52 ⟨rfl, hb⟩; refine ⟨_, rfl, ?_⟩; have a3 := sd (blk_below (g := a6) (o := .cells #[.bool false, .string (⟨#[]⟩ : ByteArray), .int .i64 0] 34 (0, 0)) tL hb); have HB := sd (below_step tB hb); clear hb; have hcz53_0 : w52.cell? ⟨a6, 0, none⟩ = some (.bool false) := (blk_cell a3.out 0).trans rfl; have hcz53_1 : w52.cell? ⟨a6, 1, none⟩ = some (.string (⟨#[]⟩ : ByteArray)) := (blk_cell a3.out 1).trans rfl; have hcz53_2 : w52.cell? ⟨a6, 2, none⟩ = some (.int .i64 0) := (blk_cell a3.out 2).trans rfl; have hfz53_0 := blk_frozen a3.out 0; have hfz53_1 := blk_frozen a3.out 1; have hfz53_2 := blk_frozen a3.out 2))
  refine bodyPost_ret (results_ct rfl _ _ a6 34 #[.bool false, .string (⟨#[]⟩ : ByteArray), .int .i64 0] (0, 0) _ rfl tC Tryz.underlying34 rfl (by kernel_rfl)) rfl ?_
  exact ⟨tE, tB⟩
/-! ### spec_binary: function 39 -/
def spec_binary.f (a0 : Int) : Option (Int × Int) := if (wrap64 (a0 / 4503599627370496)) = 0 then (some (Go.bits .and .u64 a0 4503599627370495, (-1074))) else (some (Go.bits .or .u64 (Go.bits .and .u64 a0 4503599627370495) 4503599627370496, wrap64 ((wrap64 (a0 / 4503599627370496)) - 1075)))
set_option maxHeartbeats 8000000 in
set_option maxRecDepth 100000 in
theorem spec_binary.calls (a0 : Int) (r1 : Int) (r2 : Int) (w : World) (h : spec_binary.f a0 = some (r1, r2)) :
  Calls Tryz.prog 39 #[.int .u64 a0] w fun e w' => e = .returned (.tuple #[.int .u64 r1, .int .i64 r2]) ∧ Drawn0 w w' := by
 have H : (if (wrap64 (a0 / 4503599627370496)) = 0 then (some (Go.bits .and .u64 a0 4503599627370495, (-1074))) else (some (Go.bits .or .u64 (Go.bits .and .u64 a0 4503599627370495) 4503599627370496, wrap64 ((wrap64 (a0 / 4503599627370496)) - 1075)))) = some (r1, r2) := h
 clear h
 by_cases c2 : (wrap64 (a0 / 4503599627370496)) = 0
 ·rw [if_pos c2] at H
  have c2b0 : ((wrap64 (a0 / 4503599627370496)) == 0) = true := beq_iff_eq.mpr c2
  have c2b1 : ((wrap64 (a0 / 4503599627370496)) != 0) = false := bne_eq_false_iff_eq.mpr c2
  clear c2
  simp only [Option.some.injEq, Prod.mk.injEq] at H
  obtain ⟨rfl, rfl⟩ := H
  go_enter Tryz.func39, Tryz.ntmps39
  go_wp2
  go_ret2
  exact ⟨by first | rfl | (simp; done) | (simp [*]; done), by repeat (first | exact Drawn0.refl _ | apply Drawn0.step)⟩
 ·rw [if_neg c2] at H
  have c2b0 : ((wrap64 (a0 / 4503599627370496)) == 0) = false := beq_eq_false_iff_ne.mpr c2
  have c2b1 : ((wrap64 (a0 / 4503599627370496)) != 0) = true := bne_iff_ne.mpr c2
  simp only [Option.some.injEq, Prod.mk.injEq] at H
  obtain ⟨rfl, rfl⟩ := H
  go_enter Tryz.func39, Tryz.ntmps39
  go_wp2
  go_ret2
  exact ⟨by first | rfl | (simp; done) | (simp [*]; done), by repeat (first | exact Drawn0.refl _ | apply Drawn0.step)⟩
/-! ### spec_ofWord: function 67 -/
def spec_ofWord.l0 : Nat → List Int → Option (List Int)
 | 0, _ => none
 | k + 1, x3 => if (x3.length : Int) > 0 then (if 0 ≤ (wrap64 ((x3.length : Int) - 1)) then (if (wrap64 ((x3.length : Int) - 1)) < (x3.length : Int) then (if (rd x3 (wrap64 ((x3.length : Int) - 1))) = 0 then (if (wrap64 ((x3.length : Int) - 1)) ≤ (x3.length : Int) then (spec_ofWord.l0 k (x3.take ((wrap64 ((x3.length : Int) - 1)) : Int).toNat)) else (none)) else (some x3)) else (none)) else (none)) else (some x3)
def spec_ofWord.f (k : Nat) (a0 : Int) : Option (List Int) := spec_ofWord.l0 k (([(a0) % 4294967296, (a0 / 4294967296) % 4294967296] : List Int))
set_option maxHeartbeats 8000000 in
set_option maxRecDepth 100000 in
theorem spec_ofWord.calls (k : Nat) (a0 : Int) (r : List Int) (w : World) (h : spec_ofWord.f k a0 = some r) :
  Calls Tryz.prog 67 #[.int .u64 a0] w fun e w' => ∃ v0_ : Value, e = .returned (v0_) ∧ Kd.R (Kd.int .u32) 139 w' w.heap.size (fun _ => True) v0_ r ∧ Below w.heap.size w w' := by
 have HB := sd (Below.refl w.heap.size w)
 have H : (spec_ofWord.l0 k (([(a0) % 4294967296, (a0 / 4294967296) % 4294967296] : List Int))) = some r := h
 clear h
 obtain ⟨f3, b9⟩ : ∃ y_ : List Int, y_ = (([(a0) % 4294967296, (a0 / 4294967296) % 4294967296] : List Int)) := ⟨_, rfl⟩
 replace H : (spec_ofWord.l0 k f3) = some r := by first | (rw [b9]; with_reducible exact H) | (have H2_ := (Option.bind_some _ _).symm.trans H; rw [b9]; with_reducible exact H2_) | (have H2_ := (Option.bind_some _ _).symm.trans H; with_reducible exact H2_) | with_reducible exact H | (rw [b9]; exact H) | exact H
 have e2 := sd b9
 clear b9
 have H' := sd H
 clear H
 go_enter Tryz.func67, Tryz.ntmps67
 go_wp2_with (first | ((with_reducible refine gate_dst (N := 9) rfl ?_); (try (refine gate_guard (by rfl) ?_; dsimp only)); refine Kd.R_lit (Kd.int .u32) _ 139 ?hg (N := 9) ?hd (xs := ([(a0) % 4294967296, (a0 / 4294967296) % 4294967296] : List Int)) (inner := [.int .u32 ((a0) % 4294967296), .int .u32 ((a0 / 4294967296) % 4294967296)]) (ok := fun _ => True) (okp := fun _ => True) ?hr ?hp (fun _ hk => hk) trivial (Below.refl _ _) (Nat.le_refl _) (by simp) ?_; (case hd => rfl); (case hg => rfl); (case hr => exact tS); (case hp => exact (Reps.one (show Kd.M (Kd.int .u32) _ _ _ ((a0) % 4294967296) [.int .u32 ((a0) % 4294967296)] from rfl) (Reps.one (show Kd.M (Kd.int .u32) _ _ _ ((a0 / 4294967296) % 4294967296) [.int .u32 ((a0 / 4294967296) % 4294967296)] from rfl) (Reps.none _ _)))); intro i0 w2 ho3 hb hg_ hnew_; clear hg_ hnew_; (first | rw [← e2.out] at ho3 | (simp only [Int.reduceToNat] at ho3; rw [← e2.out] at ho3)); have f8 := sd (Kd.R_lower ho3 (below_size tB)); have HB := sd (below_step tB hb); clear hb ho3))
 (try simp only [Act.put, List.setIfInBounds_toArray, List.set_cons_zero, List.set_cons_succ])
 go_loopg [3] k (fun kq v3 w' => ∃ (x3_1 : List Int), Aside0 (spec_ofWord.l0 kq x3_1 = some r) ∧ Aside0 (kq ≤ k) ∧ Aside0 (Kd.R (Kd.int .u32) 139 w' w.heap.size (fun _ => True) v3 x3_1) ∧ Aside0 (Below w.heap.size w w'))
 case atStart => exact ⟨(f3), H', ⟨Nat.le_refl _⟩, ⟨uR f8.out⟩, ⟨tB⟩⟩
 case round =>
  clear H'
  obtain ⟨x3_1, HA, HK1, HO_3, HB⟩ := hrel
  cases gk with
  | zero => exact absurd HA.out (by simp [spec_ofWord.l0])
  | succ k1 =>
   have H := HA.out
   clear HA
   simp only [spec_ofWord.l0] at H
   by_cases c4 : (x3_1.length : Int) > 0
   ·rw [if_pos c4] at H
    have c4b0 : decide (0 < (x3_1.length : Int)) = true := decide_eq_true c4
    have c4b1 : decide (0 < x3_1.length) = true := decide_eq_true (by omega)
    clear c4
    obtain ⟨ji5, hji5⟩ : ∃ j_ : Int, (wrap64 ((x3_1.length : Int) - 1)) = j_ := ⟨_, rfl⟩
    replace H : (if 0 ≤ (ji5) then (if (ji5) < (x3_1.length : Int) then (if (rd x3_1 (ji5)) = 0 then (if (ji5) ≤ (x3_1.length : Int) then (spec_ofWord.l0 k1 (x3_1.take ((ji5) : Int).toNat)) else (none)) else (some x3_1)) else (none)) else (none)) = some r := by first | (rw [hji5] at H; exact H) | (simp only [hji5] at H ⊢; exact H)
    have hji5w : (IntKind.i64.wrap ((x3_1.length : Int) - 1)) = ji5 := (i64_w _).trans hji5
    by_cases c6 : 0 ≤ (ji5)
    ·rw [if_pos c6] at H
     have c6b0 : decide (0 ≤ (ji5)) = true := decide_eq_true c6
     clear c6
     by_cases c7 : (ji5) < (x3_1.length : Int)
     ·rw [if_pos c7] at H
      have c7b0 : decide ((ji5) < (x3_1.length : Int)) = true := decide_eq_true c7
      clear c7
      by_cases c8 : (rd x3_1 (ji5)) = 0
      ·rw [if_pos c8] at H
       have c8b0 : ((rd x3_1 (ji5)) == 0) = true := beq_iff_eq.mpr c8
       have c8b1 : ((rd x3_1 (ji5)) != 0) = false := bne_eq_false_iff_eq.mpr c8
       clear c8
       by_cases c9 : (ji5) ≤ (x3_1.length : Int)
       ·rw [if_pos c9] at H
        have c9b0 := eq_true c9
        have c9b1 : decide ((ji5) ≤ (x3_1.length : Int)) = true := decide_eq_true c9
        clear c9
        obtain ⟨d7, c1⟩ : ∃ y_ : List Int, y_ = (x3_1.take ((ji5) : Int).toNat) := ⟨_, rfl⟩
        replace H : (spec_ofWord.l0 k1 d7) = some r := by first | (rw [c1]; with_reducible exact H) | (have H2_ := (Option.bind_some _ _).symm.trans H; rw [c1]; with_reducible exact H2_) | (have H2_ := (Option.bind_some _ _).symm.trans H; with_reducible exact H2_) | with_reducible exact H | (rw [c1]; exact H) | exact H
        have e3 := sd c1
        clear c1
        have H' := sd H
        clear H
        obtain ⟨Ao10, co10, eo10⟩ := Kd.R_slice HO_3.out
        subst eo10
        have b4 : 0 ≤ ((ji5) : Int) := of_decide_eq_true (by first | (with_reducible assumption) | assumption)
        have b5 : (ji5) < (x3_1.length : Int) := of_decide_eq_true (by first | (with_reducible assumption) | assumption)
        obtain ⟨ad442, e442, e5⟩ := Kd.at_int (Kd.R_reads' HO_3.out).2.2 (ji5) b4 b5
        cases e442
        replace b4 := eq_true b4
        replace b5 := eq_true b5
        have q11 : ((ji5) : Int) ≤ ((x3_1.length : Int) : Int) := of_decide_eq_true (by first | (with_reducible assumption) | assumption)
        obtain ⟨i011, hi011, _, hsz11, _⟩ := info_parts info139
        have hcut11 := cut_to (P := Tryz.prog) 119 139 .i64 Tryz.underlying119 hi011 (some ad442) x3_1.length co10 (ji5) tX q11 (Kd.R_reads' HO_3.out).2.1
        have hr11 := Kd.R_take (m := ((ji5) : Int).toNat) HO_3.out (by omega)
        have hy11 : d7.length = ((ji5) : Int).toNat := (by rw [e3.out, List.length_take]; omega)
        rw [← e3.out] at hr11
        rw [← hy11] at hr11 hcut11
        clear hy11 hi011 hsz11 HO_3
        have f9 := sd hr11
        clear hr11
        replace q11 := eq_true q11
        go_wp2
        go_roundg k1
        case measure => have := HK1.out; omega
        case rel => exact ⟨(d7), H', ⟨by have := HK1.out; omega⟩, ⟨uR f9.out⟩, ⟨tB⟩⟩
       ·rw [if_neg c9] at H
        exact absurd H (by simp)
      ·rw [if_neg c8] at H
       have c8b0 : ((rd x3_1 (ji5)) == 0) = false := beq_eq_false_iff_ne.mpr c8
       have c8b1 : ((rd x3_1 (ji5)) != 0) = true := bne_iff_ne.mpr c8
       obtain rfl := Option.some.inj H
       obtain ⟨Ao12, co12, eo12⟩ := Kd.R_slice HO_3.out
       subst eo12
       have b4 : 0 ≤ ((ji5) : Int) := of_decide_eq_true (by first | (with_reducible assumption) | assumption)
       have b5 : (ji5) < (x3_1.length : Int) := of_decide_eq_true (by first | (with_reducible assumption) | assumption)
       obtain ⟨ad442, e442, e5⟩ := Kd.at_int (Kd.R_reads' HO_3.out).2.2 (ji5) b4 b5
       cases e442
       replace b4 := eq_true b4
       replace b5 := eq_true b5
       go_wp2
       go_ret
       exact ⟨_, by first | rfl | (simp [errW_none, errW_some] <;> rfl) | (simp only [← hji5]; first | rfl | (simp [errW_none, errW_some] <;> rfl)) | (simp [*, errW_none, errW_some] <;> rfl), uR HO_3.out, tB⟩
     ·rw [if_neg c7] at H
      exact absurd H (by simp)
    ·rw [if_neg c6] at H
     exact absurd H (by simp)
   ·rw [if_neg c4] at H
    have c4b0 : decide (0 < (x3_1.length : Int)) = false := decide_eq_false c4
    have c4b1 : decide (0 < x3_1.length) = false := decide_eq_false (by omega)
    clear c4
    obtain rfl := Option.some.inj H
    obtain ⟨Ao13, co13, eo13⟩ := Kd.R_slice HO_3.out
    subst eo13
    go_wp2
    go_ret
    exact ⟨_, tE, uR HO_3.out, tB⟩
/-! ### spec_natural_times: function 85 -/
def spec_natural_times.l0 : Nat → List Int → Int → List Int → Int → Int → Option (List Int)
 | 0, _, _, _, _, _ => none
 | k + 1, x0, x1, x7, x8, x9 => if x9 < (x0.length : Int) then (if 0 ≤ x9 then (if x7.length < 35184372088832 then (spec_natural_times.l0 k x0 x1 (x7 ++ [(IntKind.u64.wrap (x8 + (IntKind.u64.wrap ((IntKind.u64.wrap (rd x0 x9)) * (IntKind.u64.wrap (x1)))))) % 4294967296]) ((IntKind.u64.wrap (x8 + (IntKind.u64.wrap ((IntKind.u64.wrap (rd x0 x9)) * (IntKind.u64.wrap (x1)))))) / 4294967296) (wrap64 (x9 + 1))) else (none)) else (none)) else (if x8 > 0 then (if x7.length < 35184372088832 then (some (x7 ++ [(x8) % 4294967296])) else (none)) else (some x7))
def spec_natural_times.f (k : Nat) (l0 : List Int) (a1 : Int) (a2 : Int) : Option (List Int) := if 0 ≤ (wrap64 ((l0.length : Int) + 1)) then (if (wrap64 ((l0.length : Int) + 1) : Int).toNat ≤ 70368744177664 then (spec_natural_times.l0 k l0 a1 (List.replicate 0 0) (IntKind.u64.wrap (a2)) 0) else (none)) else (none)
set_option maxHeartbeats 8000000 in
set_option maxRecDepth 100000 in
theorem spec_natural_times.calls (k : Nat) (A0 : Option Addr) (c0 : Nat) (l0 : List Int) (a1 : Int) (a2 : Int) (r : List Int) (w : World) (hr0 : Kd.C (Kd.int .u32) w A0 l0.length l0) (hc0 : l0.length ≤ c0) (h : spec_natural_times.f k l0 a1 a2 = some r) :
  Calls Tryz.prog 85 #[.slice A0 l0.length c0, .int .u32 a1, .int .u32 a2] w fun e w' => ∃ v0_ : Value, e = .returned (v0_) ∧ Kd.R (Kd.int .u32) 139 w' w.heap.size (fun _ => True) v0_ r ∧ Below w.heap.size w w' := by
 have HR0 := sd hr0
 have HC0 := sd hc0
 clear hr0 hc0
 have HB := sd (Below.refl w.heap.size w)
 have H : (if 0 ≤ (wrap64 ((l0.length : Int) + 1)) then (if (wrap64 ((l0.length : Int) + 1) : Int).toNat ≤ 70368744177664 then (spec_natural_times.l0 k l0 a1 (List.replicate 0 0) (IntKind.u64.wrap (a2)) 0) else (none)) else (none)) = some r := h
 clear h
 obtain ⟨ji4, hji4⟩ : ∃ j_ : Int, (wrap64 ((l0.length : Int) + 1)) = j_ := ⟨_, rfl⟩
 replace H : (if 0 ≤ (ji4) then (if (ji4 : Int).toNat ≤ 70368744177664 then (spec_natural_times.l0 k l0 a1 (List.replicate 0 0) (IntKind.u64.wrap (a2)) 0) else (none)) else (none)) = some r := by first | (rw [hji4] at H; exact H) | (simp only [hji4] at H ⊢; exact H)
 have hji4w : (IntKind.i64.wrap ((l0.length : Int) + 1)) = ji4 := (i64_w _).trans hji4
 by_cases c5 : 0 ≤ (ji4)
 ·rw [if_pos c5] at H
  have c5b0 := eq_true c5
  have c5b1 : decide (0 ≤ (ji4)) = true := decide_eq_true c5
  clear c5
  by_cases c6 : (ji4 : Int).toNat ≤ 70368744177664
  ·rw [if_pos c6] at H
   have c6b0 := eq_true c6
   have c6b1 : decide ((ji4 : Int).toNat ≤ 70368744177664) = true := decide_eq_true c6
   clear c6
   obtain ⟨f4, d0⟩ : ∃ y_ : List Int, y_ = (List.replicate 0 0) := ⟨_, rfl⟩
   replace H : (spec_natural_times.l0 k l0 a1 f4 (IntKind.u64.wrap (a2)) 0) = some r := by first | (rw [d0]; with_reducible exact H) | (have H2_ := (Option.bind_some _ _).symm.trans H; rw [d0]; with_reducible exact H2_) | (have H2_ := (Option.bind_some _ _).symm.trans H; with_reducible exact H2_) | with_reducible exact H | (rw [d0]; exact H) | exact H
   have e4 := sd d0
   clear d0
   have H' := sd H
   clear H
   go_enter Tryz.func85, Tryz.ntmps85
   go_wp2_with (first | ((with_reducible refine gate_dst (N := 13) rfl ?_); refine Kd.R_make0 (Kd.int .u32) _ 139 rfl (N := 13) rfl 119 _ _ rfl ji4 rfl rfl Tryz.underlying119 (.int .u32 0) 4 info139 rfl (by decide) (by omega) 0 (ok := fun _ => True) (okp := fun _ => True) trivial tX (Nat.le_trans (Nat.mul_le_mul_right _ (of_decide_eq_true (by first | (with_reducible assumption) | assumption) : ji4.toNat ≤ 70368744177664)) (by omega)) (Below.refl _ _) (Nat.le_refl _) ?_; intro i1 w7 ho8 hb hg_ hnew_; clear hg_ hnew_; (first | rw [← e4.out] at ho8 | (simp only [Int.reduceToNat] at ho8; rw [← e4.out] at ho8)); have g0 := sd (Kd.R_lower ho8 (below_size tB)); have HB := sd (below_step tB hb); clear hb ho8))
   (try simp only [Act.put, List.setIfInBounds_toArray, List.set_cons_zero, List.set_cons_succ])
   go_loopg [7, 8, 9] k (fun kq v7 v8 v9 w' => ∃ (x7_1 : List Int) (x8_1 : Int) (x9_1 : Int), v8 = .int .u64 x8_1 ∧ v9 = .int .i64 x9_1 ∧ Aside0 (spec_natural_times.l0 kq l0 a1 x7_1 x8_1 x9_1 = some r) ∧ Aside0 (kq ≤ k) ∧ Aside0 (Kd.R (Kd.int .u32) 139 w' w.heap.size (fun _ => True) v7 x7_1) ∧ Aside0 (Below w.heap.size w w'))
   case atStart => exact ⟨(f4), (IntKind.u64.wrap (a2)), (0), tF, tF, H', ⟨Nat.le_refl _⟩, ⟨uR g0.out⟩, ⟨tB⟩⟩
   case round =>
    clear H'
    obtain ⟨x7_1, x8_1, x9_1, rfl, rfl, HA, HK1, HO_7, HB⟩ := hrel
    cases gk with
    | zero => exact absurd HA.out (by simp [spec_natural_times.l0])
    | succ k1 =>
     have H := HA.out
     clear HA
     simp only [spec_natural_times.l0] at H
     by_cases c9 : x9_1 < (l0.length : Int)
     ·rw [if_pos c9] at H
      have c9b0 : decide (x9_1 < (l0.length : Int)) = true := decide_eq_true c9
      clear c9
      by_cases c10 : 0 ≤ x9_1
      ·rw [if_pos c10] at H
       have c10b0 : decide (0 ≤ x9_1) = true := decide_eq_true c10
       clear c10
       by_cases c11 : x7_1.length < 35184372088832
       ·rw [if_pos c11] at H
        have LMc11 := sd c11
        clear c11
        obtain ⟨f5, d1⟩ : ∃ y_ : List Int, y_ = (x7_1 ++ [(IntKind.u64.wrap (x8_1 + (IntKind.u64.wrap ((IntKind.u64.wrap (rd l0 x9_1)) * (IntKind.u64.wrap (a1)))))) % 4294967296]) := ⟨_, rfl⟩
        replace H : (spec_natural_times.l0 k1 l0 a1 f5 ((IntKind.u64.wrap (x8_1 + (IntKind.u64.wrap ((IntKind.u64.wrap (rd l0 x9_1)) * (IntKind.u64.wrap (a1)))))) / 4294967296) (wrap64 (x9_1 + 1))) = some r := by first | (rw [d1]; with_reducible exact H) | (have H2_ := (Option.bind_some _ _).symm.trans H; rw [d1]; with_reducible exact H2_) | (have H2_ := (Option.bind_some _ _).symm.trans H; with_reducible exact H2_) | with_reducible exact H | (rw [d1]; exact H) | exact H
        have g1 := sd d1
        clear d1
        have H' := sd H
        clear H
        have d8 : 0 ≤ (x9_1 : Int) := of_decide_eq_true (by first | (with_reducible assumption) | assumption)
        have d9 : x9_1 < (l0.length : Int) := of_decide_eq_true (by first | (with_reducible assumption) | assumption)
        obtain ⟨ad449, e449, d3⟩ := Kd.at_int HR0.out x9_1 d8 d9
        cases e449
        replace d3 := (HB.out.cell (World.block_lt_of_cell? w _ d3)).trans d3
        replace d8 := eq_true d8
        replace d9 := eq_true d9
        go_wp2_with (first | ((with_reducible refine gate_builtin (b := .append) (xs := #[.tmp 32, .tmp 35]) rfl ?_); at_builtin; refine Kd.R_append (Kd.int .u32) (w0 := w) w.heap.size rfl (.tmp 32) (.tmp 35) 119 139 (.int .u32 0) 4 rfl Tryz.underlying119 info139 rfl (by decide) (by omega) u7 x7_1 ((IntKind.u64.wrap (x8_1 + (IntKind.u64.wrap ((IntKind.u64.wrap (rd l0 x9_1)) * (IntKind.u64.wrap (a1)))))) % 4294967296) [.int .u32 ((IntKind.u64.wrap (x8_1 + (IntKind.u64.wrap ((IntKind.u64.wrap (rd l0 x9_1)) * (IntKind.u64.wrap (a1)))))) % 4294967296)] (fun _ => True) (fun _ => False) rfl rfl ?aP (fun _ hk => hk.elim) ?aF ?aO ?aB ?aS ?aL ?_; (case aP => exact rfl); (case aB => exact tB); (case aF => exact (fun _ _ => trivial)); (case aO => exact (uR HO_7.out)); (case aS => exact (below_size tB)); (case aL => have := LMc11.out; omega); intro i2 w12 ho hb hg hat; rw [← g1.out] at ho; have HB := sd (hb); have g2 := sd (ho); clear ho hb hg hat))
        go_roundg k1
        case measure => have := HK1.out; omega
        case rel => exact ⟨(f5), ((IntKind.u64.wrap (x8_1 + (IntKind.u64.wrap ((IntKind.u64.wrap (rd l0 x9_1)) * (IntKind.u64.wrap (a1)))))) / 4294967296), (wrap64 (x9_1 + 1)), tF, tF, H', ⟨by have := HK1.out; omega⟩, ⟨uR g2.out⟩, ⟨tB⟩⟩
       ·rw [if_neg c11] at H
        exact absurd H (by simp)
      ·rw [if_neg c10] at H
       exact absurd H (by simp)
     ·rw [if_neg c9] at H
      have c9b0 : decide (x9_1 < (l0.length : Int)) = false := decide_eq_false c9
      clear c9
      by_cases c13 : x8_1 > 0
      ·rw [if_pos c13] at H
       have c13b0 : decide (0 < x8_1) = true := decide_eq_true c13
       clear c13
       by_cases c14 : x7_1.length < 35184372088832
       ·rw [if_pos c14] at H
        have LMc14 := sd c14
        clear c14
        obtain ⟨g7, d2⟩ : ∃ y_ : List Int, y_ = (x7_1 ++ [(x8_1) % 4294967296]) := ⟨_, rfl⟩
        replace H : (some g7) = some r := by first | (rw [d2]; with_reducible exact H) | (have H2_ := (Option.bind_some _ _).symm.trans H; rw [d2]; with_reducible exact H2_) | (have H2_ := (Option.bind_some _ _).symm.trans H; with_reducible exact H2_) | with_reducible exact H | (rw [d2]; exact H) | exact H
        have g3 := sd d2
        clear d2
        obtain rfl := Option.some.inj H
        go_wp2_with (first | ((with_reducible refine gate_builtin (b := .append) (xs := #[.tmp 41, .tmp 44]) rfl ?_); at_builtin; refine Kd.R_append (Kd.int .u32) (w0 := w) w.heap.size rfl (.tmp 41) (.tmp 44) 119 139 (.int .u32 0) 4 rfl Tryz.underlying119 info139 rfl (by decide) (by omega) u7 x7_1 ((x8_1) % 4294967296) [.int .u32 ((x8_1) % 4294967296)] (fun _ => True) (fun _ => False) rfl rfl ?aP (fun _ hk => hk.elim) ?aF ?aO ?aB ?aS ?aL ?_; (case aP => exact rfl); (case aB => exact tB); (case aF => exact (fun _ _ => trivial)); (case aO => exact (uR HO_7.out)); (case aS => exact (below_size tB)); (case aL => have := LMc14.out; omega); intro i3 w15 ho hb hg hat; rw [← g3.out] at ho; have HB := sd (hb); have g4 := sd (ho); clear ho hb hg hat))
        go_ret
        exact ⟨_, by first | rfl | (simp [errW_none, errW_some] <;> rfl) | (simp only [← hji4]; first | rfl | (simp [errW_none, errW_some] <;> rfl)) | (simp [*, errW_none, errW_some] <;> rfl), uR g4.out, tB⟩
       ·rw [if_neg c14] at H
        exact absurd H (by simp)
      ·rw [if_neg c13] at H
       have c13b0 : decide (0 < x8_1) = false := decide_eq_false c13
       clear c13
       obtain rfl := Option.some.inj H
       go_wp2
       go_ret
       exact ⟨_, by first | rfl | (simp [errW_none, errW_some] <;> rfl) | (simp only [← hji4]; first | rfl | (simp [errW_none, errW_some] <;> rfl)) | (simp [*, errW_none, errW_some] <;> rfl), uR HO_7.out, tB⟩
  ·rw [if_neg c6] at H
   exact absurd H (by simp)
 ·rw [if_neg c5] at H
  exact absurd H (by simp)
end Go.Proofs.YtaihmpdhaikfkaaGreatDoor.PFnFjFloat
