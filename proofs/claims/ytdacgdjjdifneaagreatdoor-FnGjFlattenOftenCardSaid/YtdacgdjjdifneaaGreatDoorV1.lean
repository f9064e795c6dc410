/- Walks of functions that the law calls, printed and rewritten by program. -/
import Derived.Test.YtdacgdjjdifneaaGreatDoorV0
set_option linter.all false
set_option maxHeartbeats 16000000
set_option maxRecDepth 100000
namespace Go.Proofs.YtdacgdjjdifneaaGreatDoor.PFnGjFlattenOften
open Go.RowKit Go.Proofs.YtdacgdjjdifneaaGreatDoorW.PrintWords Go.Proofs.YtdacgdjjdifneaaGreatDoorW.PrintLast Go.Proofs.YtdacgdjjdifneaaGreatDoorW.PrintMore
attribute [local go_sem] max2_int min2_int max_two min_two max_three min_three max_four min_four
def spec_Blank.f (a0 : Int) : Option (Bool) := if a0 = 32 then (some true) else (if a0 = 9 then (some true) else (if a0 = 10 then (some true) else (some (a0 == 13))))
theorem spec_Blank.calls (a0 : Int) (r : Bool) (w : World) (h : spec_Blank.f a0 = some r) :
  Calls Tryz.prog 12 #[.int .u8 a0] w fun e w' => e = .returned (.bool r) ∧ Drawn0 w w' := by
 have H : (if a0 = 32 then (some true) else (if a0 = 9 then (some true) else (if a0 = 10 then (some true) else (some (a0 == 13))))) = some r := h; clear h
 by_cases c2 : a0 = 32
 ·rw [if_pos c2] at H; have c2b0 : (a0 == 32) = true := beq_iff_eq.mpr c2; have c2b1 : (a0 != 32) = false := bne_eq_false_iff_eq.mpr c2; clear c2; obtain rfl := Option.some.inj H; go_enter Tryz.func12, Tryz.ntmps12; go_wp2; go_ret; exact ⟨tF, tD⟩
 ·rw [if_neg c2] at H; have c2b0 : (a0 == 32) = false := beq_eq_false_iff_ne.mpr c2; have c2b1 : (a0 != 32) = true := bne_iff_ne.mpr c2
  by_cases c3 : a0 = 9
  ·rw [if_pos c3] at H; have c3b0 : (a0 == 9) = true := beq_iff_eq.mpr c3; have c3b1 : (a0 != 9) = false := bne_eq_false_iff_eq.mpr c3; clear c3; obtain rfl := Option.some.inj H; go_enter Tryz.func12, Tryz.ntmps12; go_wp2; go_ret; exact ⟨tF, tD⟩
  ·rw [if_neg c3] at H; have c3b0 : (a0 == 9) = false := beq_eq_false_iff_ne.mpr c3; have c3b1 : (a0 != 9) = true := bne_iff_ne.mpr c3
   by_cases c4 : a0 = 10
   ·rw [if_pos c4] at H; have c4b0 : (a0 == 10) = true := beq_iff_eq.mpr c4; have c4b1 : (a0 != 10) = false := bne_eq_false_iff_eq.mpr c4; clear c4; obtain rfl := Option.some.inj H; go_enter Tryz.func12, Tryz.ntmps12; go_wp2; go_ret; exact ⟨tF, tD⟩
   ·rw [if_neg c4] at H; have c4b0 : (a0 == 10) = false := beq_eq_false_iff_ne.mpr c4; have c4b1 : (a0 != 10) = true := bne_iff_ne.mpr c4; obtain rfl := Option.some.inj H; go_enter Tryz.func12, Tryz.ntmps12; go_wp2; go_ret; exact ⟨tF, tD⟩
def IsS41 (w0 W : World) (g : Nat) (f0 : ByteArray) (f1 : Int) : Prop := W.heap[g]? = some (.cells #[.string f0, .int .i64 f1] 41 (0, 0)) ∧ w0.heap.size ≤ g
theorem IsS41.grown {w0 W : World} {g : Nat} {f0 : ByteArray} {f1 : Int} {W1 : World} {row : Option Nat} (h : IsS41 w0 W g f0 f1) (hw : W.grownBy W1 row) (hne : some g ≠ row) : IsS41 w0 W1 g f0 f1 := by
 obtain ⟨hb, hg⟩ := h; exact ⟨blk_grown hb hw hne, hg⟩
theorem IsS41.below {w0 W : World} {g : Nat} {f0 : ByteArray} {f1 : Int} {W1 : World} (h : IsS41 w0 W g f0 f1) (hw : Below W.heap.size W W1) : IsS41 w0 W1 g f0 f1 := h.grown (grown_of_below hw none) (by simp)
theorem IsS41.alloc {w0 W : World} {g : Nat} {f0 : ByteArray} {f1 : Int} (h : IsS41 w0 W g f0 f1) (o : Obj) : IsS41 w0 (W.alloc o) g f0 f1 := h.below (below_alloc (Below.refl _ _) o)
theorem IsS41.drewN {w0 W : World} {g : Nat} {f0 : ByteArray} {f1 : Int} (h : IsS41 w0 W g f0 f1) (m : Nat) : IsS41 w0 (W.drewN m) g f0 f1 := h
theorem IsS41.drew {w0 W : World} {g : Nat} {f0 : ByteArray} {f1 : Int} (h : IsS41 w0 W g f0 f1) : IsS41 w0 W.drew g f0 f1 := h
theorem IsS41.apart {w0 W : World} {g : Nat} {f0 : ByteArray} {f1 : Int} {α : Type} {d : Kd α} {e : Nat} {base : Nat} {ok : Nat → Prop} {v : Value} {xs : List α} (h : IsS41 w0 W g f0 f1) (ho : d.R e W base ok v xs) (ht : ∀ q, q ∈ e :: d.E → q ≠ 41) : d.R e W base (fun k => ok k ∧ k ≠ g) v xs := by
 obtain ⟨hb, hg⟩ := h; exact Kd.R_types ho hb ht
theorem IsS41.own_ne {w0 W : World} {g : Nat} {f0 : ByteArray} {f1 : Int} {α : Type} {d : Kd α} {e : Nat} {base : Nat} {ok : Nat → Prop} {v : Value} {xs : List α} (h : IsS41 w0 W g f0 f1) (ho : d.R e W base ok v xs) (ht : e ≠ 41) : some g ≠ v.ownBlock := by
 obtain ⟨hb, hg⟩ := h; exact Kd.R_ne ho hb ht
theorem IsS41.lt {w0 W : World} {g : Nat} {f0 : ByteArray} {f1 : Int} (h : IsS41 w0 W g f0 f1) : g < W.heap.size := by
 obtain ⟨hb, hg⟩ := h; exact blk_lt hb
theorem IsS41.ge {w0 W : World} {g : Nat} {f0 : ByteArray} {f1 : Int} (h : IsS41 w0 W g f0 f1) : w0.heap.size ≤ g := by
 obtain ⟨hb, hg⟩ := h; exact hg
theorem IsS41.far {w0 W : World} {g : Nat} {f0 : ByteArray} {f1 : Int} {p : Addr} (h : IsS41 w0 W g f0 f1) (hne : g ≠ p.block) (u : Value) : IsS41 w0 (W.setCell p u) g f0 f1 := by
 obtain ⟨hb, hg⟩ := h; exact ⟨blk_far hb hne u, hg⟩
theorem cellS41_0 {W : World} {g : Nat} {f0 : ByteArray} {f1 : Int} (h : W.heap[g]? = some (.cells #[.string f0, .int .i64 f1] 41 (0, 0))) : W.cell? ⟨g, 0, none⟩ = some (.string f0) := (blk_cell h 0).trans rfl
theorem IsS41.set_0 {w0 W : World} {g : Nat} {f0 : ByteArray} {f1 : Int} (h : IsS41 w0 W g f0 f1) (x : ByteArray) : IsS41 w0 (W.setCell ⟨g, 0, none⟩ (.string x)) g x f1 := by
 obtain ⟨hb, hg⟩ := h; exact ⟨by simpa using blk_set hb 0 (.string x), hg⟩
theorem cellS41_1 {W : World} {g : Nat} {f0 : ByteArray} {f1 : Int} (h : W.heap[g]? = some (.cells #[.string f0, .int .i64 f1] 41 (0, 0))) : W.cell? ⟨g, 1, none⟩ = some (.int .i64 f1) := (blk_cell h 1).trans rfl
theorem IsS41.set_1 {w0 W : World} {g : Nat} {f0 : ByteArray} {f1 : Int} (h : IsS41 w0 W g f0 f1) (x : Int) : IsS41 w0 (W.setCell ⟨g, 1, none⟩ (.int .i64 x)) g f0 x := by
 obtain ⟨hb, hg⟩ := h; exact ⟨by simpa using blk_set hb 1 (.int .i64 x), hg⟩
theorem IsS41.cells {w0 W : World} {g : Nat} {f0 : ByteArray} {f1 : Int} (h : IsS41 w0 W g f0 f1) : W.cell? ⟨g, 0, none⟩ = some (.string f0) ∧ W.cell? ⟨g, 1, none⟩ = some (.int .i64 f1) ∧ W.frozen? ⟨g, 0, none⟩ = false ∧ W.frozen? ⟨g, 1, none⟩ = false :=
 ⟨cellS41_0 h.1, cellS41_1 h.1, blk_frozen h.1 0, blk_frozen h.1 1⟩
theorem IsS41.kp {w0 W W1 : World} {g : Nat} {f0 : ByteArray} {f1 : Int} {α : Type} {d : Kd α} {e base : Nat} {ok : Nat → Prop} {v : Value} {xs : List α} (h : IsS41 w0 W g f0 f1) (ho : d.R e W base ok v xs) (ht : ∀ q, q ∈ e :: d.E → q ≠ 41) (hk : KeepBut W W1 g none) : d.R e W1 base ok v xs :=
 Kd.R_mono (Kd.R_keep (IsS41.apart h ho ht) hk (fun _ h => h.2)) (fun _ h => h.1)
def spec_reader_blanks.l0 : Nat → ByteArray → Int → Option (ByteArray × Int)
 | 0, _, _ => none
 | k + 1, a6, a5 => if a5 < (a6.size : Int) then (if 0 ≤ a5 then ((spec_Blank.f (bt a6 a5)).bind fun b5 => (if b5 = true then (spec_reader_blanks.l0 k a6 (wrap64 (a5 + 1))) else (some (a6, a5)))) else (none)) else (some (a6, a5))
def spec_reader_blanks.f (k : Nat) (s0_0 : ByteArray) (s0_1 : Int) : Option (ByteArray × Int) := spec_reader_blanks.l0 k s0_0 s0_1
theorem spec_reader_blanks.mono_l : ∀ k, (∀ y0 y1, LeO (spec_reader_blanks.l0 k y0 y1) (spec_reader_blanks.l0 (k + 1) y0 y1))
 | 0 => fun _ _ r h => by simp [spec_reader_blanks.l0] at h
 | k + 1 => by
  have ih0 := spec_reader_blanks.mono_l k
  ·intro y0 y1; unfold spec_reader_blanks.l0
   repeat' first
   | (with_reducible exact ih0 _ _)
   | (with_reducible exact LeO.refl _)
   | (with_reducible exact LeO.none _)
   | (with_reducible refine LeO.ite ?_ ?_)
   | (with_reducible refine LeO.bind ?_ (fun _ => ?_))
   | exact ih0 _ _
   | exact LeO.none _
   | refine LeO.ite ?_ ?_
   | refine LeO.bind ?_ (fun _ => ?_)
theorem spec_reader_blanks.mono : ∀ a0 a1 k, LeO (spec_reader_blanks.f k a0 a1) (spec_reader_blanks.f (k + 1) a0 a1) := by
 intro a0 a1 k; have ih0 := spec_reader_blanks.mono_l k; unfold spec_reader_blanks.f
 repeat' first
   | (with_reducible exact ih0 _ _)
   | (with_reducible exact LeO.refl _)
   | (with_reducible exact LeO.none _)
   | (with_reducible refine LeO.ite ?_ ?_)
   | (with_reducible refine LeO.bind ?_ (fun _ => ?_))
   | exact ih0 _ _
   | exact LeO.none _
   | refine LeO.ite ?_ ?_
   | refine LeO.bind ?_ (fun _ => ?_)
theorem spec_reader_blanks.calls (k : Nat) (g : Nat) (s0_0 : ByteArray) (s0_1 : Int) (r1 : ByteArray) (r2 : Int) (w0 w : World) (hI : IsS41 w0 w g s0_0 s0_1) (hB : Below w0.heap.size w0 w) (h : spec_reader_blanks.f k s0_0 s0_1 = some (r1, r2)) :
  Calls Tryz.prog 13 #[.pointer (some ⟨g, 0, none⟩)] w fun e w' => e = .returned (.tuple #[]) ∧ IsS41 w0 w' g r1 r2 ∧ Below w0.heap.size w0 w' ∧ KeepBut w w' g none := by
 have HI0 := sd hI; have HK := sd (KeepBut.refl w g none); have HL := sd hB.size; clear hI; have HW0 := sd hB.size; have HB := sd hB; clear hB; have H : (spec_reader_blanks.l0 k s0_0 s0_1) = some (r1, r2) := h; clear h; have H' := sd H; clear H; go_enter Tryz.func13, Tryz.ntmps13; go_wp2
 repeat (go_quiet (fail); try go_wp2)
 (try simp only [Act.put, List.setIfInBounds_toArray, List.set_cons_zero, List.set_cons_succ]); go_loopg [] k (fun kq w' => ∃ (a4 : Int), Aside0 (spec_reader_blanks.l0 kq s0_0 a4 = some (r1, r2)) ∧ Aside0 (kq ≤ k) ∧ Aside0 (IsS41 w0 w' g s0_0 a4) ∧ Aside0 (KeepBut w w' g none) ∧ Aside0 (Below w0.heap.size w0 w'))
 case atStart => exact ⟨(s0_1), H', ⟨Nat.le_refl _⟩, ⟨tI⟩, ⟨tK⟩, ⟨tB⟩⟩
 case round =>
  clear H'; obtain ⟨a4, HA, HK1, HI0, HK, HB⟩ := hrel
  cases gk with
  | zero => exact absurd HA.out (by simp [spec_reader_blanks.l0])
  | succ k1 =>
   have H := HA.out; clear HA; simp only [spec_reader_blanks.l0] at H
   by_cases c2 : a4 < (s0_0.size : Int)
   ·rw [if_pos c2] at H; have c2b0 : decide (a4 < (s0_0.size : Int)) = true := decide_eq_true c2; clear c2
    by_cases c3 : 0 ≤ a4
    ·rw [if_pos c3] at H; have c3b0 : decide (0 ≤ a4) = true := decide_eq_true c3; clear c3; replace H := Option.bind_eq_some_iff.mp H; obtain ⟨b5, A50, H⟩ := H
     try dsimp only at H
     have A5 := sd A50; clear A50
     by_cases c6 : b5 = true
     ·subst c6; rw [if_pos rfl] at H; have H' := sd H; clear H; obtain ⟨z0, z1, y0, y1⟩ := IsS41.cells HI0.out; have p4 : 0 ≤ (a4 : Int) := tX; have q4 : a4 < (s0_0.size : Int) := tX; have hx4 := bt_at s0_0 a4; replace p4 := eq_true p4; replace q4 := eq_true q4; go_wp2_with (first | (go_at_call 12; (with_reducible refine (spec_Blank.calls (bt s0_0 a4) true _ A5.out).mono ?_); rintro e w' ⟨rfl, ⟨nd, rfl⟩⟩; (try first | exact ⟨rfl, _, World.drewN_drewN _ _ _⟩ | exact ⟨rfl, _, Eq.trans (World.drewN_drewN _ _ _) (congrArg (World.drewN _) (Nat.add_assoc _ _ _))⟩)))
      repeat (go_quiet (first | (go_at_call 12; (with_reducible refine (spec_Blank.calls (bt s0_0 a4) true _ A5.out).mono ?_); rintro e w' ⟨rfl, ⟨nd, rfl⟩⟩; (try first | exact ⟨rfl, _, World.drewN_drewN _ _ _⟩ | exact ⟨rfl, _, Eq.trans (World.drewN_drewN _ _ _) (congrArg (World.drewN _) (Nat.add_assoc _ _ _))⟩))); try go_wp2_with (first | (go_at_call 12; (with_reducible refine (spec_Blank.calls (bt s0_0 a4) true _ A5.out).mono ?_); rintro e w' ⟨rfl, ⟨nd, rfl⟩⟩; (try first | exact ⟨rfl, _, World.drewN_drewN _ _ _⟩ | exact ⟨rfl, _, Eq.trans (World.drewN_drewN _ _ _) (congrArg (World.drewN _) (Nat.add_assoc _ _ _))⟩))))
      go_roundg k1
      case measure => have := HK1.out; omega
      case rel => exact ⟨(wrap64 (a4 + 1)), H', ⟨by have := HK1.out; omega⟩, ⟨tI⟩, ⟨tK⟩, ⟨tB⟩⟩
     ·replace c6 := Bool.eq_false_iff.mpr c6; subst c6; rw [if_neg (show ¬ (false = true) by decide)] at H; simp only [Option.some.injEq, Prod.mk.injEq] at H; obtain ⟨rfl, rfl⟩ := H; obtain ⟨z0, z1, y0, y1⟩ := IsS41.cells HI0.out; have p4 : 0 ≤ (a4 : Int) := tX; have q4 : a4 < (s0_0.size : Int) := tX; have hx4 := bt_at s0_0 a4; replace p4 := eq_true p4; replace q4 := eq_true q4; go_wp2_with (first | (go_at_call 12; (with_reducible refine (spec_Blank.calls (bt s0_0 a4) false _ A5.out).mono ?_); rintro e w' ⟨rfl, ⟨nd, rfl⟩⟩; (try first | exact ⟨rfl, _, World.drewN_drewN _ _ _⟩ | exact ⟨rfl, _, Eq.trans (World.drewN_drewN _ _ _) (congrArg (World.drewN _) (Nat.add_assoc _ _ _))⟩)))
      repeat (go_quiet (first | (go_at_call 12; (with_reducible refine (spec_Blank.calls (bt s0_0 a4) false _ A5.out).mono ?_); rintro e w' ⟨rfl, ⟨nd, rfl⟩⟩; (try first | exact ⟨rfl, _, World.drewN_drewN _ _ _⟩ | exact ⟨rfl, _, Eq.trans (World.drewN_drewN _ _ _) (congrArg (World.drewN _) (Nat.add_assoc _ _ _))⟩))); try go_wp2_with (first | (go_at_call 12; (with_reducible refine (spec_Blank.calls (bt s0_0 a4) false _ A5.out).mono ?_); rintro e w' ⟨rfl, ⟨nd, rfl⟩⟩; (try first | exact ⟨rfl, _, World.drewN_drewN _ _ _⟩ | exact ⟨rfl, _, Eq.trans (World.drewN_drewN _ _ _) (congrArg (World.drewN _) (Nat.add_assoc _ _ _))⟩))))
      first | go_end0 | ((try simp only [Exit.inBlock, Exit.then]); refine bodyPost_ret (results_none rfl _ _ _) rfl ?_)
      exact ⟨tE, tI, tB, tK⟩
    ·rw [if_neg c3] at H; exact absurd H (by simp)
   ·rw [if_neg c2] at H; have c2b0 : decide (a4 < (s0_0.size : Int)) = false := decide_eq_false c2; clear c2; simp only [Option.some.injEq, Prod.mk.injEq] at H; obtain ⟨rfl, rfl⟩ := H; obtain ⟨z0, z1, y0, y1⟩ := IsS41.cells HI0.out; go_wp2
    repeat (go_quiet (fail); try go_wp2)
    first | go_end0 | ((try simp only [Exit.inBlock, Exit.then]); refine bodyPost_ret (results_none rfl _ _ _) rfl ?_)
    exact ⟨tE, tI, tB, tK⟩
def spec_reader_here.f (s0_0 : ByteArray) (s0_1 : Int) : Option (Int × ByteArray × Int) := if s0_1 < (s0_0.size : Int) then (if 0 ≤ s0_1 then (some (bt s0_0 s0_1, s0_0, s0_1)) else (none)) else (some (0, s0_0, s0_1))
theorem spec_reader_here.calls (g : Nat) (s0_0 : ByteArray) (s0_1 : Int) (r1 : Int) (r2 : ByteArray) (r3 : Int) (w0 w : World) (hI : IsS41 w0 w g s0_0 s0_1) (hB : Below w0.heap.size w0 w) (h : spec_reader_here.f s0_0 s0_1 = some (r1, r2, r3)) :
  Calls Tryz.prog 20 #[.pointer (some ⟨g, 0, none⟩)] w fun e w' => e = .returned (.int .u8 r1) ∧ IsS41 w0 w' g r2 r3 ∧ Below w0.heap.size w0 w' ∧ KeepBut w w' g none := by
 have HI0 := sd hI; have HK := sd (KeepBut.refl w g none); have HL := sd hB.size; clear hI; have HW0 := sd hB.size; have HB := sd hB; clear hB; have H : (if s0_1 < (s0_0.size : Int) then (if 0 ≤ s0_1 then (some (bt s0_0 s0_1, s0_0, s0_1)) else (none)) else (some (0, s0_0, s0_1))) = some (r1, r2, r3) := h; clear h
 by_cases c2 : s0_1 < (s0_0.size : Int)
 ·rw [if_pos c2] at H; have c2b0 : decide (s0_1 < (s0_0.size : Int)) = true := decide_eq_true c2; clear c2
  by_cases c3 : 0 ≤ s0_1
  ·rw [if_pos c3] at H; have c3b0 : decide (0 ≤ s0_1) = true := decide_eq_true c3; clear c3; simp only [Option.some.injEq, Prod.mk.injEq] at H; obtain ⟨rfl, rfl, rfl⟩ := H; obtain ⟨z0, z1, y0, y1⟩ := IsS41.cells HI0.out; have p4 : 0 ≤ (s0_1 : Int) := tX; have q4 : s0_1 < (s0_0.size : Int) := tX; have hx4 := bt_at s0_0 s0_1; replace p4 := eq_true p4; replace q4 := eq_true q4; go_enter Tryz.func20, Tryz.ntmps20; go_wp2
   repeat (go_quiet (fail); try go_wp2)
   go_ret; exact ⟨tE, tI, tB, tK⟩
  ·rw [if_neg c3] at H; exact absurd H (by simp)
 ·rw [if_neg c2] at H; have c2b0 : decide (s0_1 < (s0_0.size : Int)) = false := decide_eq_false c2; clear c2; simp only [Option.some.injEq, Prod.mk.injEq] at H; obtain ⟨rfl, rfl, rfl⟩ := H; obtain ⟨z0, z1, y0, y1⟩ := IsS41.cells HI0.out; go_enter Tryz.func20, Tryz.ntmps20; go_wp2
  repeat (go_quiet (fail); try go_wp2)
  go_ret; exact ⟨tE, tI, tB, tK⟩
mutual
def spec_hexDigit.j0 : Nat → Int → Bool → Option (Int × Bool)
 | 0, _, _ => none
 | k + 1, x0, x4 => if x4 = true then (some ((x0 - 48) % 256, true)) else (if 97 ≤ x0 then (spec_hexDigit.j1 k x0 (decide (x0 ≤ 102))) else (spec_hexDigit.j1 k x0 false))
def spec_hexDigit.j1 : Nat → Int → Bool → Option (Int × Bool)
 | 0, _, _ => none
 | k + 1, x0, x14 => if x14 = true then (some (((x0 - 97) % 256) + 10, true)) else (if 65 ≤ x0 then (if x0 ≤ 70 then (some (((x0 - 65) % 256) + 10, true)) else (some (0, false))) else (some (0, false)))
end
def spec_hexDigit.f (k : Nat) (a0 : Int) : Option (Int × Bool) := if 48 ≤ a0 then (spec_hexDigit.j0 k a0 (decide (a0 ≤ 57))) else (spec_hexDigit.j0 k a0 false)
theorem spec_hexDigit.mono_l : ∀ k, (∀ y0 y1, LeO (spec_hexDigit.j0 k y0 y1) (spec_hexDigit.j0 (k + 1) y0 y1)) ∧ (∀ y0 y1, LeO (spec_hexDigit.j1 k y0 y1) (spec_hexDigit.j1 (k + 1) y0 y1))
 | 0 => ⟨fun _ _ r h => by simp [spec_hexDigit.j0] at h, fun _ _ r h => by simp [spec_hexDigit.j1] at h⟩
 | k + 1 => by
  obtain ⟨ih0, ih1⟩ := spec_hexDigit.mono_l k; refine ⟨?_, ?_⟩
  ·intro y0 y1; unfold spec_hexDigit.j0
   repeat' first
   | (with_reducible exact ih0 _ _)
   | (with_reducible exact ih1 _ _)
   | (with_reducible exact LeO.refl _)
   | (with_reducible exact LeO.none _)
   | (with_reducible refine LeO.ite ?_ ?_)
   | (with_reducible refine LeO.bind ?_ (fun _ => ?_))
   | exact ih0 _ _
   | exact ih1 _ _
   | exact LeO.none _
   | refine LeO.ite ?_ ?_
   | refine LeO.bind ?_ (fun _ => ?_)
  ·intro y0 y1; unfold spec_hexDigit.j1
   repeat' first
   | (with_reducible exact ih0 _ _)
   | (with_reducible exact ih1 _ _)
   | (with_reducible exact LeO.refl _)
   | (with_reducible exact LeO.none _)
   | (with_reducible refine LeO.ite ?_ ?_)
   | (with_reducible refine LeO.bind ?_ (fun _ => ?_))
   | exact ih0 _ _
   | exact ih1 _ _
   | exact LeO.none _
   | refine LeO.ite ?_ ?_
   | refine LeO.bind ?_ (fun _ => ?_)
theorem spec_hexDigit.mono : ∀ a0 k, LeO (spec_hexDigit.f k a0) (spec_hexDigit.f (k + 1) a0) := by
 intro a0 k; obtain ⟨ih0, ih1⟩ := spec_hexDigit.mono_l k; unfold spec_hexDigit.f
 repeat' first
   | (with_reducible exact ih0 _ _)
   | (with_reducible exact ih1 _ _)
   | (with_reducible exact LeO.refl _)
   | (with_reducible exact LeO.none _)
   | (with_reducible refine LeO.ite ?_ ?_)
   | (with_reducible refine LeO.bind ?_ (fun _ => ?_))
   | exact ih0 _ _
   | exact ih1 _ _
   | exact LeO.none _
   | refine LeO.ite ?_ ?_
   | refine LeO.bind ?_ (fun _ => ?_)
theorem spec_hexDigit.calls (k : Nat) (a0 : Int) (r1 : Int) (r2 : Bool) (w : World) (h : spec_hexDigit.f k a0 = some (r1, r2)) :
  Calls Tryz.prog 47 #[.int .u8 a0] w fun e w' => e = .returned (.tuple #[.int .i64 r1, .bool r2]) ∧ Drawn0 w w' := by
 have H : (if 48 ≤ a0 then (spec_hexDigit.j0 k a0 (decide (a0 ≤ 57))) else (spec_hexDigit.j0 k a0 false)) = some (r1, r2) := h; clear h; have HC2 := sd H; clear H; go_enter Tryz.func47, Tryz.ntmps47; go_upto_region 1 with (fail)
 go_cut [4] (fun v4 wc => ∃ (kq : Nat) (x4_1 : Bool), v4 = .bool x4_1 ∧ Aside0 (spec_hexDigit.j0 kq a0 x4_1 = some (r1, r2)) ∧ Aside0 (kq ≤ k) ∧ Drawn0 w wc)
 case first =>
  have H := HC2.out; clear HC2
  by_cases c3 : 48 ≤ a0
  ·rw [if_pos c3] at H; have c3b0 : decide (48 ≤ a0) = true := decide_eq_true c3; clear c3; (first | rw [c3b0] | (simp only [i64_w, i32_w]; rw [c3b0]) | skip); have H' := sd H; clear H; go_wp2; go_meet
   case rel => exact ⟨_, (decide (a0 ≤ 57)), tF, H', ⟨by first | omega | exact Nat.le_refl _⟩, tD⟩
  ·rw [if_neg c3] at H; have c3b0 : decide (48 ≤ a0) = false := decide_eq_false c3; clear c3; (first | rw [c3b0] | (simp only [i64_w, i32_w]; rw [c3b0]) | skip); have H' := sd H; clear H; go_wp2; go_meet
   case rel => exact ⟨_, (false), tF, H', ⟨by first | omega | exact Nat.le_refl _⟩, tD⟩
 case rest =>
  clear HC2; obtain ⟨kq, x4_1, rfl, HA, HJ1, ⟨mc1, rfl⟩⟩ := hcut
  cases kq with
  | zero => exact absurd HA.out (by simp [spec_hexDigit.j0])
  | succ kj1 =>
   have H := HA.out; clear HA; simp only [spec_hexDigit.j0] at H
   by_cases c4 : x4_1 = true
   ·subst c4; rw [if_pos rfl] at H; simp only [Option.some.injEq, Prod.mk.injEq] at H; obtain ⟨rfl, rfl⟩ := H; go_wp2; go_ret2; exact ⟨tF, tD⟩
   ·replace c4 := Bool.eq_false_iff.mpr c4; subst c4; rw [if_neg (show ¬ (false = true) by decide)] at H; have HC5 := sd H; clear H; go_upto_region 3 with (fail)
    go_cut [14] (fun v14 wc => ∃ (kq : Nat) (x14_4 : Bool), v14 = .bool x14_4 ∧ Aside0 (spec_hexDigit.j1 kq a0 x14_4 = some (r1, r2)) ∧ Aside0 (kq ≤ kj1) ∧ Drawn0 w wc)
    case first =>
     have H := HC5.out; clear HC5
     by_cases c6 : 97 ≤ a0
     ·rw [if_pos c6] at H; have c6b0 : decide (97 ≤ a0) = true := decide_eq_true c6; clear c6; (first | rw [c6b0] | (simp only [i64_w, i32_w]; rw [c6b0]) | skip); have H' := sd H; clear H; go_wp2; go_meet
      case rel => exact ⟨_, (decide (a0 ≤ 102)), tF, H', ⟨by have := HJ1.out; first | omega | exact Nat.le_refl _⟩, tD⟩
     ·rw [if_neg c6] at H; have c6b0 : decide (97 ≤ a0) = false := decide_eq_false c6; clear c6; (first | rw [c6b0] | (simp only [i64_w, i32_w]; rw [c6b0]) | skip); have H' := sd H; clear H; go_wp2; go_meet
      case rel => exact ⟨_, (false), tF, H', ⟨by have := HJ1.out; first | omega | exact Nat.le_refl _⟩, tD⟩
    case rest =>
     clear HC5; obtain ⟨kq, x14_4, rfl, HA, HJ4, ⟨mc4, rfl⟩⟩ := hcut
     cases kq with
     | zero => exact absurd HA.out (by simp [spec_hexDigit.j1])
     | succ kj4 =>
      have H := HA.out; clear HA; simp only [spec_hexDigit.j1] at H
      by_cases c7 : x14_4 = true
      ·subst c7; rw [if_pos rfl] at H; simp only [Option.some.injEq, Prod.mk.injEq] at H; obtain ⟨rfl, rfl⟩ := H; go_wp2; go_ret2; exact ⟨tF, tD⟩
      ·replace c7 := Bool.eq_false_iff.mpr c7; subst c7; rw [if_neg (show ¬ (false = true) by decide)] at H
       by_cases c8 : 65 ≤ a0
       ·rw [if_pos c8] at H; have c8b0 : decide (65 ≤ a0) = true := decide_eq_true c8; clear c8
        by_cases c9 : a0 ≤ 70
        ·rw [if_pos c9] at H; have c9b0 : decide (a0 ≤ 70) = true := decide_eq_true c9; clear c9; simp only [Option.some.injEq, Prod.mk.injEq] at H; obtain ⟨rfl, rfl⟩ := H; go_wp2; go_ret2; exact ⟨tF, tD⟩
        ·rw [if_neg c9] at H; have c9b0 : decide (a0 ≤ 70) = false := decide_eq_false c9; clear c9; simp only [Option.some.injEq, Prod.mk.injEq] at H; obtain ⟨rfl, rfl⟩ := H; go_wp2; go_ret2; exact ⟨tF, tD⟩
       ·rw [if_neg c8] at H; have c8b0 : decide (65 ≤ a0) = false := decide_eq_false c8; clear c8; simp only [Option.some.injEq, Prod.mk.injEq] at H; obtain ⟨rfl, rfl⟩ := H; go_wp2; go_ret2; exact ⟨tF, tD⟩
mutual
def spec_reader_escape.j0 : Nat → Int → Bool → ByteArray → Int → Option (Bool × ByteArray × Int)
 | 0, _, _, _, _ => none
 | k + 1, x7, x8, a6, a5 => if x8 = true then (some (true, a6, wrap64 (a5 + 1))) else (if x7 = 117 then (spec_reader_escape.l0 k 0 a6 (wrap64 (a5 + 1))) else (some (false, a6, a5)))
def spec_reader_escape.l0 : Nat → Int → ByteArray → Int → Option (Bool × ByteArray × Int)
 | 0, _, _, _ => none
 | k + 1, x3, a6, a5 => if x3 < 4 then ((spec_reader_here.f a6 a5).bind fun a9 => ((spec_hexDigit.f k a9.1).bind fun b9 => (if b9.2 = true then (spec_reader_escape.l0 k (wrap64 (x3 + 1)) a9.2.1 (wrap64 (a9.2.2 + 1))) else (some (false, a9.2.1, a9.2.2))))) else (some (true, a6, a5))
end
def spec_reader_escape.f (k : Nat) (s0_0 : ByteArray) (s0_1 : Int) : Option (Bool × ByteArray × Int) := (spec_reader_here.f s0_0 s0_1).bind fun a2 => (if a2.1 = 34 then (spec_reader_escape.j0 k a2.1 (a2.1 == 34) a2.2.1 a2.2.2) else (if a2.1 = 92 then (spec_reader_escape.j0 k a2.1 (a2.1 == 92) a2.2.1 a2.2.2) else (if a2.1 = 47 then (spec_reader_escape.j0 k a2.1 (a2.1 == 47) a2.2.1 a2.2.2) else (if a2.1 = 98 then (spec_reader_escape.j0 k a2.1 (a2.1 == 98) a2.2.1 a2.2.2) else (if a2.1 = 102 then (spec_reader_escape.j0 k a2.1 (a2.1 == 102) a2.2.1 a2.2.2) else (if a2.1 = 110 then (spec_reader_escape.j0 k a2.1 (a2.1 == 110) a2.2.1 a2.2.2) else (if a2.1 = 114 then (spec_reader_escape.j0 k a2.1 (a2.1 == 114) a2.2.1 a2.2.2) else (spec_reader_escape.j0 k a2.1 (a2.1 == 116) a2.2.1 a2.2.2))))))))
theorem spec_reader_escape.mono_l : ∀ k, (∀ y0 y1 y2 y3, LeO (spec_reader_escape.j0 k y0 y1 y2 y3) (spec_reader_escape.j0 (k + 1) y0 y1 y2 y3)) ∧ (∀ y0 y1 y2, LeO (spec_reader_escape.l0 k y0 y1 y2) (spec_reader_escape.l0 (k + 1) y0 y1 y2))
 | 0 => ⟨fun _ _ _ _ r h => by simp [spec_reader_escape.j0] at h, fun _ _ _ r h => by simp [spec_reader_escape.l0] at h⟩
 | k + 1 => by
  obtain ⟨ih0, ih1⟩ := spec_reader_escape.mono_l k; refine ⟨?_, ?_⟩
  ·intro y0 y1 y2 y3; unfold spec_reader_escape.j0
   repeat' first
   | (with_reducible exact ih0 _ _ _ _)
   | (with_reducible exact ih1 _ _ _)
   | (with_reducible exact spec_hexDigit.mono _ _)
   | (with_reducible exact LeO.refl _)
   | (with_reducible exact LeO.none _)
   | (with_reducible refine LeO.ite ?_ ?_)
   | (with_reducible refine LeO.bind ?_ (fun _ => ?_))
   | exact ih0 _ _ _ _
   | exact ih1 _ _ _
   | exact spec_hexDigit.mono _ _
   | exact LeO.none _
   | refine LeO.ite ?_ ?_
   | refine LeO.bind ?_ (fun _ => ?_)
  ·intro y0 y1 y2; unfold spec_reader_escape.l0
   repeat' first
   | (with_reducible exact ih0 _ _ _ _)
   | (with_reducible exact ih1 _ _ _)
   | (with_reducible exact spec_hexDigit.mono _ _)
   | (with_reducible exact LeO.refl _)
   | (with_reducible exact LeO.none _)
   | (with_reducible refine LeO.ite ?_ ?_)
   | (with_reducible refine LeO.bind ?_ (fun _ => ?_))
   | exact ih0 _ _ _ _
   | exact ih1 _ _ _
   | exact spec_hexDigit.mono _ _
   | exact LeO.none _
   | refine LeO.ite ?_ ?_
   | refine LeO.bind ?_ (fun _ => ?_)
theorem spec_reader_escape.mono : ∀ a0 a1 k, LeO (spec_reader_escape.f k a0 a1) (spec_reader_escape.f (k + 1) a0 a1) := by
 intro a0 a1 k; obtain ⟨ih0, ih1⟩ := spec_reader_escape.mono_l k; unfold spec_reader_escape.f
 repeat' first
   | (with_reducible exact ih0 _ _ _ _)
   | (with_reducible exact ih1 _ _ _)
   | (with_reducible exact spec_hexDigit.mono _ _)
   | (with_reducible exact LeO.refl _)
   | (with_reducible exact LeO.none _)
   | (with_reducible refine LeO.ite ?_ ?_)
   | (with_reducible refine LeO.bind ?_ (fun _ => ?_))
   | exact ih0 _ _ _ _
   | exact ih1 _ _ _
   | exact spec_hexDigit.mono _ _
   | exact LeO.none _
   | refine LeO.ite ?_ ?_
   | refine LeO.bind ?_ (fun _ => ?_)
theorem spec_reader_escape.calls (k : Nat) (g : Nat) (s0_0 : ByteArray) (s0_1 : Int) (r1 : Bool) (r2 : ByteArray) (r3 : Int) (w0 w : World) (hI : IsS41 w0 w g s0_0 s0_1) (hB : Below w0.heap.size w0 w) (h : spec_reader_escape.f k s0_0 s0_1 = some (r1, r2, r3)) :
  Calls Tryz.prog 33 #[.pointer (some ⟨g, 0, none⟩)] w fun e w' => e = .returned (.bool r1) ∧ IsS41 w0 w' g r2 r3 ∧ Below w0.heap.size w0 w' ∧ KeepBut w w' g none := by
 have HI0 := sd hI; have HK := sd (KeepBut.refl w g none); have HL := sd hB.size; clear hI; have HW0 := sd hB.size; have HB := sd hB; clear hB; have H : ((spec_reader_here.f s0_0 s0_1).bind fun a2 => (if a2.1 = 34 then (spec_reader_escape.j0 k a2.1 (a2.1 == 34) a2.2.1 a2.2.2) else (if a2.1 = 92 then (spec_reader_escape.j0 k a2.1 (a2.1 == 92) a2.2.1 a2.2.2) else (if a2.1 = 47 then (spec_reader_escape.j0 k a2.1 (a2.1 == 47) a2.2.1 a2.2.2) else (if a2.1 = 98 then (spec_reader_escape.j0 k a2.1 (a2.1 == 98) a2.2.1 a2.2.2) else (if a2.1 = 102 then (spec_reader_escape.j0 k a2.1 (a2.1 == 102) a2.2.1 a2.2.2) else (if a2.1 = 110 then (spec_reader_escape.j0 k a2.1 (a2.1 == 110) a2.2.1 a2.2.2) else (if a2.1 = 114 then (spec_reader_escape.j0 k a2.1 (a2.1 == 114) a2.2.1 a2.2.2) else (spec_reader_escape.j0 k a2.1 (a2.1 == 116) a2.2.1 a2.2.2))))))))) = some (r1, r2, r3) := h; clear h
 replace H := Option.bind_eq_some_iff.mp H; obtain ⟨⟨a3, b1, b2⟩, A20, H⟩ := H
 try dsimp only at H
 have A2 := sd A20; clear A20; have HC3 := sd H; clear H; go_enter Tryz.func33, Tryz.ntmps33; go_upto_if 8 with (first | ((with_reducible refine gate_callee (f := 20) rfl ?_); refine goesL_ (some 7) rfl rfl Tryz.func20 (by kernel_rfl) rfl #[.pointer (some ⟨g, 0, none⟩)] rfl tM ?_; (with_reducible refine (spec_reader_here.calls g s0_0 s0_1 a3 b1 b2 w0 _ ?_ ?_ A2.out).mono ?_); exact tI; exact tB; rintro e w4 ⟨rfl, hi, hb, hk⟩; refine ⟨_, rfl, ?_⟩; obtain ⟨HK, HB, HI0⟩ := k3 (kt hk) hb hi; clear hb hk hi))
 (try simp only [Act.put, List.setIfInBounds_toArray, List.set_cons_zero, List.set_cons_succ]); go_cut [8] (fun v8 wc => ∃ (kq : Nat) (x8_2 : Bool), v8 = .bool x8_2 ∧ Aside0 (spec_reader_escape.j0 kq a3 x8_2 b1 b2 = some (r1, r2, r3)) ∧ Aside0 (kq ≤ k) ∧ Aside0 (IsS41 w0 wc g b1 b2) ∧ Aside0 (KeepBut w wc g none) ∧ Aside0 (Below w0.heap.size w0 wc))
 case first =>
  have H := HC3.out; clear HC3
  by_cases c5 : a3 = 34
  ·rw [if_pos c5] at H; have c5b0 : (a3 == 34) = true := beq_iff_eq.mpr c5; have c5b1 : (a3 != 34) = false := bne_eq_false_iff_eq.mpr c5; clear c5; (first | rw [c5b0] | (simp only [i64_w, i32_w]; rw [c5b0]) | skip); have H' := sd H; clear H; go_wp2; go_meet
   case rel => exact ⟨_, ((a3 == 34)), tF, H', ⟨by first | omega | exact Nat.le_refl _⟩, ⟨tI⟩, ⟨tK⟩, ⟨tB⟩⟩
  ·rw [if_neg c5] at H; have c5b0 : (a3 == 34) = false := beq_eq_false_iff_ne.mpr c5; have c5b1 : (a3 != 34) = true := bne_iff_ne.mpr c5; (first | rw [c5b0] | (simp only [i64_w, i32_w]; rw [c5b0]) | skip)
   by_cases c6 : a3 = 92
   ·rw [if_pos c6] at H; have c6b0 : (a3 == 92) = true := beq_iff_eq.mpr c6; have c6b1 : (a3 != 92) = false := bne_eq_false_iff_eq.mpr c6; clear c6; have H' := sd H; clear H; go_wp2; go_meet
    case rel => exact ⟨_, ((a3 == 92)), tF, H', ⟨by first | omega | exact Nat.le_refl _⟩, ⟨tI⟩, ⟨tK⟩, ⟨tB⟩⟩
   ·rw [if_neg c6] at H; have c6b0 : (a3 == 92) = false := beq_eq_false_iff_ne.mpr c6; have c6b1 : (a3 != 92) = true := bne_iff_ne.mpr c6
    by_cases c7 : a3 = 47
    ·rw [if_pos c7] at H; have c7b0 : (a3 == 47) = true := beq_iff_eq.mpr c7; have c7b1 : (a3 != 47) = false := bne_eq_false_iff_eq.mpr c7; clear c7; have H' := sd H; clear H; go_wp2; go_meet
     case rel => exact ⟨_, ((a3 == 47)), tF, H', ⟨by first | omega | exact Nat.le_refl _⟩, ⟨tI⟩, ⟨tK⟩, ⟨tB⟩⟩
    ·rw [if_neg c7] at H; have c7b0 : (a3 == 47) = false := beq_eq_false_iff_ne.mpr c7; have c7b1 : (a3 != 47) = true := bne_iff_ne.mpr c7
     by_cases c8 : a3 = 98
     ·rw [if_pos c8] at H; have c8b0 : (a3 == 98) = true := beq_iff_eq.mpr c8; have c8b1 : (a3 != 98) = false := bne_eq_false_iff_eq.mpr c8; clear c8; have H' := sd H; clear H; go_wp2; go_meet
      case rel => exact ⟨_, ((a3 == 98)), tF, H', ⟨by first | omega | exact Nat.le_refl _⟩, ⟨tI⟩, ⟨tK⟩, ⟨tB⟩⟩
     ·rw [if_neg c8] at H; have c8b0 : (a3 == 98) = false := beq_eq_false_iff_ne.mpr c8; have c8b1 : (a3 != 98) = true := bne_iff_ne.mpr c8
      by_cases c9 : a3 = 102
      ·rw [if_pos c9] at H; have c9b0 : (a3 == 102) = true := beq_iff_eq.mpr c9; have c9b1 : (a3 != 102) = false := bne_eq_false_iff_eq.mpr c9; clear c9; have H' := sd H; clear H; go_wp2; go_meet
       case rel => exact ⟨_, ((a3 == 102)), tF, H', ⟨by first | omega | exact Nat.le_refl _⟩, ⟨tI⟩, ⟨tK⟩, ⟨tB⟩⟩
      ·rw [if_neg c9] at H; have c9b0 : (a3 == 102) = false := beq_eq_false_iff_ne.mpr c9; have c9b1 : (a3 != 102) = true := bne_iff_ne.mpr c9
       by_cases c10 : a3 = 110
       ·rw [if_pos c10] at H; have c10b0 : (a3 == 110) = true := beq_iff_eq.mpr c10; have c10b1 : (a3 != 110) = false := bne_eq_false_iff_eq.mpr c10; clear c10; have H' := sd H; clear H; go_wp2; go_meet
        case rel => exact ⟨_, ((a3 == 110)), tF, H', ⟨by first | omega | exact Nat.le_refl _⟩, ⟨tI⟩, ⟨tK⟩, ⟨tB⟩⟩
       ·rw [if_neg c10] at H; have c10b0 : (a3 == 110) = false := beq_eq_false_iff_ne.mpr c10; have c10b1 : (a3 != 110) = true := bne_iff_ne.mpr c10
        by_cases c11 : a3 = 114
        ·rw [if_pos c11] at H; have c11b0 : (a3 == 114) = true := beq_iff_eq.mpr c11; have c11b1 : (a3 != 114) = false := bne_eq_false_iff_eq.mpr c11; clear c11; have H' := sd H; clear H; go_wp2; go_meet
         case rel => exact ⟨_, ((a3 == 114)), tF, H', ⟨by first | omega | exact Nat.le_refl _⟩, ⟨tI⟩, ⟨tK⟩, ⟨tB⟩⟩
        ·rw [if_neg c11] at H; have c11b0 : (a3 == 114) = false := beq_eq_false_iff_ne.mpr c11; have c11b1 : (a3 != 114) = true := bne_iff_ne.mpr c11; have H' := sd H; clear H; go_wp2; go_meet
         case rel => exact ⟨_, ((a3 == 116)), tF, H', ⟨by first | omega | exact Nat.le_refl _⟩, ⟨tI⟩, ⟨tK⟩, ⟨tB⟩⟩
 case rest =>
  clear HC3; obtain ⟨kq, x8_2, rfl, HA, HJ2, HI0, HK, HB⟩ := hcut
  cases kq with
  | zero => exact absurd HA.out (by simp [spec_reader_escape.j0])
  | succ kj2 =>
   have H := HA.out; clear HA; simp only [spec_reader_escape.j0] at H
   by_cases c12 : x8_2 = true
   ·subst c12; rw [if_pos rfl] at H; simp only [Option.some.injEq, Prod.mk.injEq] at H; obtain ⟨rfl, rfl, rfl⟩ := H; obtain ⟨z0, z1, y0, y1⟩ := IsS41.cells HI0.out; go_wp2; go_ret; exact ⟨tE, tI, tB, tK⟩
   ·replace c12 := Bool.eq_false_iff.mpr c12; subst c12; rw [if_neg (show ¬ (false = true) by decide)] at H
    by_cases c14 : a3 = 117
    ·rw [if_pos c14] at H; have c14b0 : (a3 == 117) = true := beq_iff_eq.mpr c14; have c14b1 : (a3 != 117) = false := bne_eq_false_iff_eq.mpr c14; clear c14; have H' := sd H; clear H; obtain ⟨z0, z1, y0, y1⟩ := IsS41.cells HI0.out; go_wp2; (try simp only [Act.put, List.setIfInBounds_toArray, List.set_cons_zero, List.set_cons_succ]); go_loopg [3] kj2 (fun kq v3 w' => ∃ (x3_2 : Int) (a7 : ByteArray) (a8 : Int), v3 = .int .i64 x3_2 ∧ Aside0 (spec_reader_escape.l0 kq x3_2 a7 a8 = some (r1, r2, r3)) ∧ Aside0 (kq ≤ kj2) ∧ Aside0 (IsS41 w0 w' g a7 a8) ∧ Aside0 (KeepBut w w' g none) ∧ Aside0 (Below w0.heap.size w0 w'))
     case atStart => exact ⟨(0), (b1), (wrap64 (b2 + 1)), tF, H', ⟨Nat.le_refl _⟩, ⟨tI⟩, ⟨tK⟩, ⟨tB⟩⟩
     case round =>
      clear H'; obtain ⟨x3_2, a7, a8, rfl, HA, HK2, HI0, HK, HB⟩ := hrel
      cases gk with
      | zero => exact absurd HA.out (by simp [spec_reader_escape.l0])
      | succ k2 =>
       have H := HA.out; clear HA; simp only [spec_reader_escape.l0] at H
       by_cases c16 : x3_2 < 4
       ·rw [if_pos c16] at H; have c16b0 : decide (x3_2 < 4) = true := decide_eq_true c16; clear c16; replace H := Option.bind_eq_some_iff.mp H; obtain ⟨⟨b0, b3, b4⟩, b6, H⟩ := H
        try dsimp only at H
        have A17 := sd b6; clear b6; replace H := Option.bind_eq_some_iff.mp H; obtain ⟨⟨b7, c0⟩, b8, H⟩ := H
        try dsimp only at H
        have A18 := sd b8; clear b8
        by_cases c19 : c0 = true
        ·subst c19; rw [if_pos rfl] at H; have H' := sd H; clear H
         go_wp2_with (first | ((with_reducible refine gate_callee (f := 20) rfl ?_); refine goesL_ (some 39) rfl rfl Tryz.func20 (by kernel_rfl) rfl #[.pointer (some ⟨g, 0, none⟩)] rfl tM ?_; (with_reducible refine (spec_reader_here.calls g a7 a8 b0 b3 b4 w0 _ ?_ ?_ A17.out).mono ?_); exact tI; exact tB; rintro e w20 ⟨rfl, hi, hb, hk⟩; refine ⟨_, rfl, ?_⟩; obtain ⟨HK, HB, HI0⟩ := k3 (kt hk) hb hi; clear hb hk hi) | ((with_reducible refine gate_callee (f := 47) rfl ?_); refine goesL_ (some 40) rfl rfl Tryz.func47 (by kernel_rfl) rfl #[.int .u8 b0] rfl tM ?_; (with_reducible refine (spec_hexDigit.calls k2 b0 b7 true _ A18.out).mono ?_); rintro e w' ⟨rfl, ⟨nd, rfl⟩⟩; refine ⟨_, rfl, ?_⟩; (try (rw [drewN_self w20]; generalize hq_ : World.drewN w20 _ = w20; have n0_ : Aside0 (IsS41 w0 w20 g b3 b4) := ⟨by rw [← hq_]; exact tI⟩; have n1_ : Aside0 (KeepBut w w20 g none) := ⟨by rw [← hq_]; exact tK⟩; have n2_ : Aside0 (Below w0.heap.size w0 w20) := ⟨by rw [← hq_]; exact tB⟩; clear HI0 HK HB hq_; have HI0 := n0_; have HK := n1_; have HB := n2_; clear n0_ n1_ n2_)); obtain ⟨z0, z1, y0, y1⟩ := IsS41.cells HI0.out))
         go_roundg k2
         case measure => have := HJ2.out; have := HK2.out; omega
         case rel => exact ⟨(wrap64 (x3_2 + 1)), (b3), (wrap64 (b4 + 1)), tF, H', ⟨by have := HJ2.out; have := HK2.out; omega⟩, ⟨tI⟩, ⟨tK⟩, ⟨tB⟩⟩
        ·replace c19 := Bool.eq_false_iff.mpr c19; subst c19; rw [if_neg (show ¬ (false = true) by decide)] at H; simp only [Option.some.injEq, Prod.mk.injEq] at H; obtain ⟨rfl, rfl, rfl⟩ := H; go_wp2_with (first | ((with_reducible refine gate_callee (f := 20) rfl ?_); refine goesL_ (some 39) rfl rfl Tryz.func20 (by kernel_rfl) rfl #[.pointer (some ⟨g, 0, none⟩)] rfl tM ?_; (with_reducible refine (spec_reader_here.calls g a7 a8 b0 b3 b4 w0 _ ?_ ?_ A17.out).mono ?_); exact tI; exact tB; rintro e w22 ⟨rfl, hi, hb, hk⟩; refine ⟨_, rfl, ?_⟩; obtain ⟨HK, HB, HI0⟩ := k3 (kt hk) hb hi; clear hb hk hi) | ((with_reducible refine gate_callee (f := 47) rfl ?_); refine goesL_ (some 40) rfl rfl Tryz.func47 (by kernel_rfl) rfl #[.int .u8 b0] rfl tM ?_; (with_reducible refine (spec_hexDigit.calls k2 b0 b7 false _ A18.out).mono ?_); rintro e w' ⟨rfl, ⟨nd, rfl⟩⟩; refine ⟨_, rfl, ?_⟩)); go_ret
         exact ⟨tE, tI, tB, tK⟩
       ·rw [if_neg c16] at H; have c16b0 : decide (x3_2 < 4) = false := decide_eq_false c16; clear c16; simp only [Option.some.injEq, Prod.mk.injEq] at H; obtain ⟨rfl, rfl, rfl⟩ := H; go_wp2; go_ret; exact ⟨tE, tI, tB, tK⟩
    ·rw [if_neg c14] at H; have c14b0 : (a3 == 117) = false := beq_eq_false_iff_ne.mpr c14; have c14b1 : (a3 != 117) = true := bne_iff_ne.mpr c14; simp only [Option.some.injEq, Prod.mk.injEq] at H; obtain ⟨rfl, rfl, rfl⟩ := H; go_wp2; go_ret; exact ⟨tE, tI, tB, tK⟩
end Go.Proofs.YtdacgdjjdifneaaGreatDoor.PFnGjFlattenOften
