/- Walks of the functions that the law calls, printed by program and rewritten. -/
import Derived.Test.YtaihmpdhaikfkaaGreatDoorV0
import Derived.Test.YtaihmpdhaikfkaaGreatDoorV2
set_option linter.all false
namespace Go.Proofs.YtaihmpdhaikfkaaGreatDoor.PFnFjFloat
open Go.RowKit Go.Proofs.YtaihmpdhaikfkaaGreatDoorW.PrintWords Go.Proofs.YtaihmpdhaikfkaaGreatDoorW.PrintLast Go.Proofs.YtaihmpdhaikfkaaGreatDoorW.PrintMore
attribute [local go_sem] max2_int min2_int max_two min_two max_three min_three max_four min_four
/-- A state of type 70 at block g of W; what its slices lead to came in by w0. -/
def IsS70 (w0 W : World) (g : Nat) (f0 : ByteArray) (f1 : Int) : Prop := W.heap[g]? = some (.cells #[.string f0, .int .i64 f1] 70 (0, 0)) ∧ w0.heap.size ≤ g
theorem IsS70.grown {w0 W : World} {g : Nat} {f0 : ByteArray} {f1 : Int} {W1 : World} {row : Option Nat} (h : IsS70 w0 W g f0 f1) (hw : W.grownBy W1 row) (hne : some g ≠ row) : IsS70 w0 W1 g f0 f1 := by
 obtain ⟨hb, hg⟩ := h
 exact ⟨blk_grown hb hw hne, hg⟩
theorem IsS70.own_neN {w0 W : World} {g : Nat} {f0 : ByteArray} {f1 : Int} {α : Type} {d : Kd α} {e : Nat} {base : Nat} {ok : Nat → Prop} {v : Value} {xs : List α} (h : IsS70 w0 W g f0 f1) (ho : Kd.N d e W base ok v xs) (ht : e ≠ 70) : some g ≠ v.ownBlock := by
 obtain ⟨hb, hg⟩ := h
 exact Kd.N_ne ho hb ht
theorem IsS70.fresh {w0 W : World} {g : Nat} {f0 : ByteArray} {f1 : Int} (h : IsS70 w0 W g f0 f1) : ∀ k, W.heap.size ≤ k → k ≠ g := by
 obtain ⟨hb, hg⟩ := h
 exact Kd.freshB hb
theorem IsS70.kept {w0 W : World} {g : Nat} {f0 : ByteArray} {f1 : Int} {W1 : World} {S : Nat → Prop} (h : IsS70 w0 W g f0 f1) (hk : Kept W W1 S) (hne : ¬ S g) : IsS70 w0 W1 g f0 f1 := by
 obtain ⟨hb, hg⟩ := h
 exact ⟨blk_kept hb hk hne, hg⟩
theorem IsS70.below {w0 W : World} {g : Nat} {f0 : ByteArray} {f1 : Int} {W1 : World} (h : IsS70 w0 W g f0 f1) (hw : Below W.heap.size W W1) : IsS70 w0 W1 g f0 f1 := h.grown (grown_of_below hw none) (by simp)
theorem IsS70.alloc {w0 W : World} {g : Nat} {f0 : ByteArray} {f1 : Int} (h : IsS70 w0 W g f0 f1) (o : Obj) : IsS70 w0 (W.alloc o) g f0 f1 := h.below (below_alloc (Below.refl _ _) o)
theorem IsS70.drewN {w0 W : World} {g : Nat} {f0 : ByteArray} {f1 : Int} (h : IsS70 w0 W g f0 f1) (m : Nat) : IsS70 w0 (W.drewN m) g f0 f1 := h
theorem IsS70.drew {w0 W : World} {g : Nat} {f0 : ByteArray} {f1 : Int} (h : IsS70 w0 W g f0 f1) : IsS70 w0 W.drew g f0 f1 := h
theorem IsS70.at_ {w0 W : World} {g : Nat} {f0 : ByteArray} {f1 : Int} {w' : World} {m : Nat} (hq : W.drewN m = w') (h : IsS70 w0 W g f0 f1) : IsS70 w0 w' g f0 f1 := by subst hq; exact IsS70.drewN h m
theorem IsS70.apart {w0 W : World} {g : Nat} {f0 : ByteArray} {f1 : Int} {α : Type} {d : Kd α} {e : Nat} {base : Nat} {ok : Nat → Prop} {v : Value} {xs : List α} (h : IsS70 w0 W g f0 f1) (ho : d.R e W base ok v xs) (ht : ∀ q, q ∈ e :: d.E → q ≠ 70) : d.R e W base (fun k => ok k ∧ k ≠ g) v xs := by
 obtain ⟨hb, hg⟩ := h
 exact Kd.R_types ho hb ht
theorem IsS70.own_ne {w0 W : World} {g : Nat} {f0 : ByteArray} {f1 : Int} {α : Type} {d : Kd α} {e : Nat} {base : Nat} {ok : Nat → Prop} {v : Value} {xs : List α} (h : IsS70 w0 W g f0 f1) (ho : d.R e W base ok v xs) (ht : e ≠ 70) : some g ≠ v.ownBlock := by
 obtain ⟨hb, hg⟩ := h
 exact Kd.R_ne ho hb ht
theorem IsS70.apartQ {w0 W : World} {g : Nat} {f0 : ByteArray} {f1 : Int} {α : Type} {d : Kd α} {e : Nat} {base : Nat} {ok : Nat → Prop} {v : Value} {xs : List α} (h : IsS70 w0 W g f0 f1) (ho : d.Q e W base ok v xs) (ht : ∀ q, q ∈ e :: d.E → q ≠ 70) : d.Q e W base (fun k => ok k ∧ k ≠ g) v xs := by
 obtain ⟨hb, hg⟩ := h
 exact Kd.Q_types ho hb ht
theorem IsS70.own_neQ {w0 W : World} {g : Nat} {f0 : ByteArray} {f1 : Int} {α : Type} {d : Kd α} {e : Nat} {base : Nat} {ok : Nat → Prop} {v : Value} {xs : List α} (h : IsS70 w0 W g f0 f1) (ho : d.Q e W base ok v xs) (ht : e ≠ 70) : some g ≠ v.ownBlock := by
 obtain ⟨hb, hg⟩ := h
 exact Kd.Q_ne ho hb ht
theorem IsS70.apartS {w0 W : World} {g : Nat} {f0 : ByteArray} {f1 : Int} {α : Type} {d : Kd α} {e : Nat} {base : Nat} {ok : Nat → Prop} {v : Value} {xs : List α} (h : IsS70 w0 W g f0 f1) (ho : d.S e W base ok v xs) (ht : ∀ q, q ∈ e :: d.E → q ≠ 70) : d.S e W base (fun k => ok k ∧ k ≠ g) v xs := by
 obtain ⟨hb, hg⟩ := h
 exact Kd.S_types ho hb ht
theorem IsS70.own_neS {w0 W : World} {g : Nat} {f0 : ByteArray} {f1 : Int} {α : Type} {d : Kd α} {e : Nat} {base : Nat} {ok : Nat → Prop} {v : Value} {xs : List α} (h : IsS70 w0 W g f0 f1) (ho : d.S e W base ok v xs) (ht : e ≠ 70) : some g ≠ v.ownBlock := by
 obtain ⟨hb, hg⟩ := h
 exact Kd.S_ne ho hb ht
theorem IsS70.lt {w0 W : World} {g : Nat} {f0 : ByteArray} {f1 : Int} (h : IsS70 w0 W g f0 f1) : g < W.heap.size := by
 obtain ⟨hb, hg⟩ := h
 exact blk_lt hb
theorem IsS70.ge {w0 W : World} {g : Nat} {f0 : ByteArray} {f1 : Int} (h : IsS70 w0 W g f0 f1) : w0.heap.size ≤ g := by
 obtain ⟨hb, hg⟩ := h
 exact hg
theorem IsS70.ne_blk {w0 W : World} {g : Nat} {f0 : ByteArray} {f1 : Int} {a : Nat} {cs : Array Value} {t : TypeId} {fr : Nat × Nat} (h : IsS70 w0 W g f0 f1) (hb2 : W.heap[a]? = some (.cells cs t fr)) (ht : t ≠ 70) : g ≠ a := by
 obtain ⟨hb, hg⟩ := h
 rintro rfl
 rw [hb] at hb2
 injection hb2 with hb2
 injection hb2 with _ ht2
 exact ht ht2.symm
theorem IsS70.far {w0 W : World} {g : Nat} {f0 : ByteArray} {f1 : Int} {p : Addr} (h : IsS70 w0 W g f0 f1) (hne : g ≠ p.block) (u : Value) : IsS70 w0 (W.setCell p u) g f0 f1 := by
 obtain ⟨hb, hg⟩ := h
 exact ⟨blk_far hb hne u, hg⟩
theorem cellS70_0 {W : World} {g : Nat} {f0 : ByteArray} {f1 : Int} (h : W.heap[g]? = some (.cells #[.string f0, .int .i64 f1] 70 (0, 0))) : W.cell? ⟨g, 0, none⟩ = some (.string f0) := (blk_cell h 0).trans rfl
theorem IsS70.set_0 {w0 W : World} {g : Nat} {f0 : ByteArray} {f1 : Int} (h : IsS70 w0 W g f0 f1) (x : ByteArray) : IsS70 w0 (W.setCell ⟨g, 0, none⟩ (.string x)) g x f1 := by
 obtain ⟨hb, hg⟩ := h
 exact ⟨by simpa using blk_set hb 0 (.string x), hg⟩
theorem cellS70_1 {W : World} {g : Nat} {f0 : ByteArray} {f1 : Int} (h : W.heap[g]? = some (.cells #[.string f0, .int .i64 f1] 70 (0, 0))) : W.cell? ⟨g, 1, none⟩ = some (.int .i64 f1) := (blk_cell h 1).trans rfl
theorem IsS70.set_1 {w0 W : World} {g : Nat} {f0 : ByteArray} {f1 : Int} (h : IsS70 w0 W g f0 f1) (x : Int) : IsS70 w0 (W.setCell ⟨g, 1, none⟩ (.int .i64 x)) g f0 x := by
 obtain ⟨hb, hg⟩ := h
 exact ⟨by simpa using blk_set hb 1 (.int .i64 x), hg⟩
theorem IsS70.new (w0 W : World) (f0 : ByteArray) (f1 : Int) (hB : Below w0.heap.size w0 W) : IsS70 w0 (W.alloc (.cells #[.string f0, .int .i64 f1] 70)) W.heap.size f0 f1 := ⟨by simpa using heap_alloc_new W _, hB.size⟩
theorem IsS70.cells {w0 W : World} {g : Nat} {f0 : ByteArray} {f1 : Int} (h : IsS70 w0 W g f0 f1) : W.cell? ⟨g, 0, none⟩ = some (.string f0) ∧ W.cell? ⟨g, 1, none⟩ = some (.int .i64 f1) ∧ W.frozen? ⟨g, 0, none⟩ = false ∧ W.frozen? ⟨g, 1, none⟩ = false :=
 ⟨cellS70_0 h.1, cellS70_1 h.1, blk_frozen h.1 0, blk_frozen h.1 1⟩
theorem IsS70.kp {w0 W W1 : World} {g : Nat} {f0 : ByteArray} {f1 : Int} {α : Type} {d : Kd α} {e base : Nat} {ok : Nat → Prop} {v : Value} {xs : List α} (h : IsS70 w0 W g f0 f1) (ho : d.R e W base ok v xs) (ht : ∀ q, q ∈ e :: d.E → q ≠ 70) (hk : KeepBut W W1 g none) : d.R e W1 base ok v xs :=
 Kd.R_mono (Kd.R_keep (IsS70.apart h ho ht) hk (fun _ h => h.2)) (fun _ h => h.1)
/-! ### spec_reader_blanks: function 36 -/
def spec_reader_blanks.l0 : Nat → ByteArray → Int → Option (ByteArray × Int)
 | 0, _, _ => none
 | k + 1, a4, a3 => if a3 < (a4.size : Int) then (if 0 ≤ a3 then ((spec_Blank.f (bt a4 a3)).bind fun d7 => (if d7 = true then (spec_reader_blanks.l0 k a4 (wrap64 (a3 + 1))) else (some (a4, a3)))) else (none)) else (some (a4, a3))
def spec_reader_blanks.f (k : Nat) (s0_0 : ByteArray) (s0_1 : Int) : Option (ByteArray × Int) := spec_reader_blanks.l0 k s0_0 s0_1
theorem spec_reader_blanks.mono_l : ∀ k, (∀ y0 y1, LeO (spec_reader_blanks.l0 k y0 y1) (spec_reader_blanks.l0 (k + 1) y0 y1))
 | 0 => fun _ _ r h => by simp [spec_reader_blanks.l0] at h
 | k + 1 => by
  have ih0 := spec_reader_blanks.mono_l k
  ·intro y0 y1
   unfold spec_reader_blanks.l0
   repeat' first
   | (with_reducible exact ih0 _ _)
   | (with_reducible exact LeO.refl _)
   | (with_reducible exact LeO.none _)
   | (with_reducible refine LeO.ite ?_ ?_)
   | (with_reducible refine LeO.bind ?_ (fun _ => ?_))
   | exact ih0 _ _
   | exact LeO.none _
   | refine LeO.ite ?_ ?_
   | refine LeO.bind ?_ (fun _ => ?_)
theorem spec_reader_blanks.mono : ∀ a0 a1 k, LeO (spec_reader_blanks.f k a0 a1) (spec_reader_blanks.f (k + 1) a0 a1) := by
 intro a0 a1 k
 have ih0 := spec_reader_blanks.mono_l k
 unfold spec_reader_blanks.f
 repeat' first
   | (with_reducible exact ih0 _ _)
   | (with_reducible exact LeO.refl _)
   | (with_reducible exact LeO.none _)
   | (with_reducible refine LeO.ite ?_ ?_)
   | (with_reducible refine LeO.bind ?_ (fun _ => ?_))
   | exact ih0 _ _
   | exact LeO.none _
   | refine LeO.ite ?_ ?_
   | refine LeO.bind ?_ (fun _ => ?_)
set_option maxHeartbeats 8000000 in
set_option maxRecDepth 100000 in
theorem spec_reader_blanks.calls (k : Nat) (g : Nat) (s0_0 : ByteArray) (s0_1 : Int) (r1 : ByteArray) (r2 : Int) (w0 w : World) (hI : IsS70 w0 w g s0_0 s0_1) (hB : Below w0.heap.size w0 w) (h : spec_reader_blanks.f k s0_0 s0_1 = some (r1, r2)) :
  Calls Tryz.prog 36 #[.pointer (some ⟨g, 0, none⟩)] w fun e w' => e = .returned (.tuple #[]) ∧ IsS70 w0 w' g r1 r2 ∧ Below w0.heap.size w0 w' ∧ KeepBut w w' g none := by
 have HI0 := sd hI
 have HK := sd (KeepBut.refl w g none)
 have HL := sd hB.size
 clear hI
 have HW0 := sd hB.size
 have HB := sd hB
 clear hB
 have H : (spec_reader_blanks.l0 k s0_0 s0_1) = some (r1, r2) := h
 clear h
 have H' := sd H
 clear H
 go_enter Tryz.func36, Tryz.ntmps36
 go_wp2
 repeat (go_quiet (fail); try go_wp2)
 (try simp only [Act.put, List.setIfInBounds_toArray, List.set_cons_zero, List.set_cons_succ])
 go_loopg [] k (fun kq w' => ∃ (a2 : Int), Aside0 (spec_reader_blanks.l0 kq s0_0 a2 = some (r1, r2)) ∧ Aside0 (kq ≤ k) ∧ Aside0 (IsS70 w0 w' g s0_0 a2) ∧ Aside0 (KeepBut w w' g none) ∧ Aside0 (Below w0.heap.size w0 w'))
 case atStart => exact ⟨(s0_1), H', ⟨Nat.le_refl _⟩, ⟨tI⟩, ⟨tK⟩, ⟨tB⟩⟩
 case round =>
  clear H'
  obtain ⟨a2, HA, HK1, HI0, HK, HB⟩ := hrel
  cases gk with
  | zero => exact absurd HA.out (by simp [spec_reader_blanks.l0])
  | succ k1 =>
   have H := HA.out
   clear HA
   simp only [spec_reader_blanks.l0] at H
   by_cases c2 : a2 < (s0_0.size : Int)
   ·rw [if_pos c2] at H
    have c2b0 : decide (a2 < (s0_0.size : Int)) = true := decide_eq_true c2
    clear c2
    by_cases c3 : 0 ≤ a2
    ·rw [if_pos c3] at H
     have c3b0 : decide (0 ≤ a2) = true := decide_eq_true c3
     clear c3
     replace H := Option.bind_eq_some_iff.mp H
     obtain ⟨d7, A50, H⟩ := H
     try dsimp only at H
     have A5 := sd A50
     clear A50
     by_cases c6 : d7 = true
     ·subst c6
      rw [if_pos rfl] at H
      have H' := sd H
      clear H
      obtain ⟨z0, z1, y0, y1⟩ := IsS70.cells HI0.out
      have p4 : 0 ≤ (a2 : Int) := of_decide_eq_true (by first | (with_reducible assumption) | assumption)
      have q4 : a2 < (s0_0.size : Int) := of_decide_eq_true (by first | (with_reducible assumption) | assumption)
      have hx4 := bt_at s0_0 a2
      replace p4 := eq_true p4
      replace q4 := eq_true q4
      go_wp2_with (first | (go_at_call 59; (with_reducible refine (spec_Blank.calls (bt s0_0 a2) true _ A5.out).mono ?_); rintro e w' ⟨rfl, ⟨nd, rfl⟩⟩; (try first | exact ⟨rfl, _, World.drewN_drewN _ _ _⟩ | exact ⟨rfl, _, Eq.trans (World.drewN_drewN _ _ _) (congrArg (World.drewN _) (Nat.add_assoc _ _ _))⟩)))
      repeat (go_quiet (first | (go_at_call 59; (with_reducible refine (spec_Blank.calls (bt s0_0 a2) true _ A5.out).mono ?_); rintro e w' ⟨rfl, ⟨nd, rfl⟩⟩; (try first | exact ⟨rfl, _, World.drewN_drewN _ _ _⟩ | exact ⟨rfl, _, Eq.trans (World.drewN_drewN _ _ _) (congrArg (World.drewN _) (Nat.add_assoc _ _ _))⟩))); try go_wp2)
      go_roundg k1
      case measure => have := HK1.out; omega
      case rel => exact ⟨(wrap64 (a2 + 1)), H', ⟨by have := HK1.out; omega⟩, ⟨tI⟩, ⟨tK⟩, ⟨tB⟩⟩
     ·replace c6 := Bool.eq_false_iff.mpr c6
      subst c6
      rw [if_neg (show ¬ (false = true) by decide)] at H
      simp only [Option.some.injEq, Prod.mk.injEq] at H
      obtain ⟨rfl, rfl⟩ := H
      obtain ⟨z0, z1, y0, y1⟩ := IsS70.cells HI0.out
      have p4 : 0 ≤ (a2 : Int) := of_decide_eq_true (by first | (with_reducible assumption) | assumption)
      have q4 : a2 < (s0_0.size : Int) := of_decide_eq_true (by first | (with_reducible assumption) | assumption)
      have hx4 := bt_at s0_0 a2
      replace p4 := eq_true p4
      replace q4 := eq_true q4
      go_wp2_with (first | (go_at_call 59; (with_reducible refine (spec_Blank.calls (bt s0_0 a2) false _ A5.out).mono ?_); rintro e w' ⟨rfl, ⟨nd, rfl⟩⟩; (try first | exact ⟨rfl, _, World.drewN_drewN _ _ _⟩ | exact ⟨rfl, _, Eq.trans (World.drewN_drewN _ _ _) (congrArg (World.drewN _) (Nat.add_assoc _ _ _))⟩)))
      repeat (go_quiet (first | (go_at_call 59; (with_reducible refine (spec_Blank.calls (bt s0_0 a2) false _ A5.out).mono ?_); rintro e w' ⟨rfl, ⟨nd, rfl⟩⟩; (try first | exact ⟨rfl, _, World.drewN_drewN _ _ _⟩ | exact ⟨rfl, _, Eq.trans (World.drewN_drewN _ _ _) (congrArg (World.drewN _) (Nat.add_assoc _ _ _))⟩))); try go_wp2)
      first | go_end0 | ((try simp only [Exit.inBlock, Exit.then]); refine bodyPost_ret (results_none rfl _ _ _) rfl ?_)
      exact ⟨tE, tI, tB, tK⟩
    ·rw [if_neg c3] at H
     exact absurd H (by simp)
   ·rw [if_neg c2] at H
    have c2b0 : decide (a2 < (s0_0.size : Int)) = false := decide_eq_false c2
    clear c2
    simp only [Option.some.injEq, Prod.mk.injEq] at H
    obtain ⟨rfl, rfl⟩ := H
    obtain ⟨z0, z1, y0, y1⟩ := IsS70.cells HI0.out
    go_wp2
    repeat (go_quiet (fail); try go_wp2)
    first | go_end0 | ((try simp only [Exit.inBlock, Exit.then]); refine bodyPost_ret (results_none rfl _ _ _) rfl ?_)
    exact ⟨tE, tI, tB, tK⟩
/-! ### spec_reader_take: function 41 -/
def spec_reader_take.f (s0_0 : ByteArray) (s0_1 : Int) (a1 : Int) : Option (Bool × ByteArray × Int) := if s0_1 < (s0_0.size : Int) then (if 0 ≤ s0_1 then (if (bt s0_0 s0_1) = a1 then (some (true, s0_0, wrap64 (s0_1 + 1))) else (some (false, s0_0, s0_1))) else (none)) else (some (false, s0_0, s0_1))
theorem tl3_0 {P : Prop} (h : P := by
 simp only [Option.some.injEq, Prod.mk.injEq] at H
 obtain ⟨rfl, rfl, rfl⟩ := H
 obtain ⟨z0, z1, y0, y1⟩ := IsS70.cells HI0.out
 have p5 : 0 ≤ (s0_1 : Int) := of_decide_eq_true (by first | (with_reducible assumption) | assumption)
 have q5 : s0_1 < (s0_0.size : Int) := of_decide_eq_true (by first | (with_reducible assumption) | assumption)
 have hx5 := bt_at s0_0 s0_1
 replace p5 := eq_true p5
 replace q5 := eq_true q5
 go_enter Tryz.func41, Tryz.ntmps41
 go_wp2
 repeat (go_quiet (fail); try go_wp2)
 go_ret
 exact ⟨tE, tI, tB, tK⟩) : P := h
set_option maxHeartbeats 8000000 in
set_option maxRecDepth 100000 in
theorem spec_reader_take.calls (g : Nat) (s0_0 : ByteArray) (s0_1 : Int) (a1 : Int) (r1 : Bool) (r2 : ByteArray) (r3 : Int) (w0 w : World) (hI : IsS70 w0 w g s0_0 s0_1) (hB : Below w0.heap.size w0 w) (h : spec_reader_take.f s0_0 s0_1 a1 = some (r1, r2, r3)) :
  Calls Tryz.prog 41 #[.pointer (some ⟨g, 0, none⟩), .int .u8 a1] w fun e w' => e = .returned (.bool r1) ∧ IsS70 w0 w' g r2 r3 ∧ Below w0.heap.size w0 w' ∧ KeepBut w w' g none := by
 have HI0 := sd hI
 have HK := sd (KeepBut.refl w g none)
 have HL := sd hB.size
 clear hI
 have HW0 := sd hB.size
 have HB := sd hB
 clear hB
 have H : (if s0_1 < (s0_0.size : Int) then (if 0 ≤ s0_1 then (if (bt s0_0 s0_1) = a1 then (some (true, s0_0, wrap64 (s0_1 + 1))) else (some (false, s0_0, s0_1))) else (none)) else (some (false, s0_0, s0_1))) = some (r1, r2, r3) := h
 clear h
 by_cases c3 : s0_1 < (s0_0.size : Int)
 ·rw [if_pos c3] at H
  have c3b0 : decide (s0_1 < (s0_0.size : Int)) = true := decide_eq_true c3
  clear c3
  by_cases c4 : 0 ≤ s0_1
  ·rw [if_pos c4] at H
   have c4b0 : decide (0 ≤ s0_1) = true := decide_eq_true c4
   clear c4
   by_cases c6 : (bt s0_0 s0_1) = a1
   ·rw [if_pos c6] at H
    have c6b0 : ((bt s0_0 s0_1) == a1) = true := beq_iff_eq.mpr c6
    have c6b1 : ((bt s0_0 s0_1) != a1) = false := bne_eq_false_iff_eq.mpr c6
    clear c6
    exact tl3_0
   ·rw [if_neg c6] at H
    have c6b0 : ((bt s0_0 s0_1) == a1) = false := beq_eq_false_iff_ne.mpr c6
    have c6b1 : ((bt s0_0 s0_1) != a1) = true := bne_iff_ne.mpr c6
    exact tl3_0
  ·rw [if_neg c4] at H
   exact absurd H (by simp)
 ·rw [if_neg c3] at H
  have c3b0 : decide (s0_1 < (s0_0.size : Int)) = false := decide_eq_false c3
  clear c3
  simp only [Option.some.injEq, Prod.mk.injEq] at H
  obtain ⟨rfl, rfl, rfl⟩ := H
  obtain ⟨z0, z1, y0, y1⟩ := IsS70.cells HI0.out
  go_enter Tryz.func41, Tryz.ntmps41
  go_wp2
  repeat (go_quiet (fail); try go_wp2)
  go_ret
  exact ⟨tE, tI, tB, tK⟩
/-! ### spec_reader_here: function 60 -/
def spec_reader_here.f (s0_0 : ByteArray) (s0_1 : Int) : Option (Int × ByteArray × Int) := if s0_1 < (s0_0.size : Int) then (if 0 ≤ s0_1 then (some (bt s0_0 s0_1, s0_0, s0_1)) else (none)) else (some (0, s0_0, s0_1))
set_option maxHeartbeats 8000000 in
set_option maxRecDepth 100000 in
theorem spec_reader_here.calls (g : Nat) (s0_0 : ByteArray) (s0_1 : Int) (r1 : Int) (r2 : ByteArray) (r3 : Int) (w0 w : World) (hI : IsS70 w0 w g s0_0 s0_1) (hB : Below w0.heap.size w0 w) (h : spec_reader_here.f s0_0 s0_1 = some (r1, r2, r3)) :
  Calls Tryz.prog 60 #[.pointer (some ⟨g, 0, none⟩)] w fun e w' => e = .returned (.int .u8 r1) ∧ IsS70 w0 w' g r2 r3 ∧ Below w0.heap.size w0 w' ∧ KeepBut w w' g none := by
 have HI0 := sd hI
 have HK := sd (KeepBut.refl w g none)
 have HL := sd hB.size
 clear hI
 have HW0 := sd hB.size
 have HB := sd hB
 clear hB
 have H : (if s0_1 < (s0_0.size : Int) then (if 0 ≤ s0_1 then (some (bt s0_0 s0_1, s0_0, s0_1)) else (none)) else (some (0, s0_0, s0_1))) = some (r1, r2, r3) := h
 clear h
 by_cases c2 : s0_1 < (s0_0.size : Int)
 ·rw [if_pos c2] at H
  have c2b0 : decide (s0_1 < (s0_0.size : Int)) = true := decide_eq_true c2
  clear c2
  by_cases c3 : 0 ≤ s0_1
  ·rw [if_pos c3] at H
   have c3b0 : decide (0 ≤ s0_1) = true := decide_eq_true c3
   clear c3
   simp only [Option.some.injEq, Prod.mk.injEq] at H
   obtain ⟨rfl, rfl, rfl⟩ := H
   obtain ⟨z0, z1, y0, y1⟩ := IsS70.cells HI0.out
   have p4 : 0 ≤ (s0_1 : Int) := of_decide_eq_true (by first | (with_reducible assumption) | assumption)
   have q4 : s0_1 < (s0_0.size : Int) := of_decide_eq_true (by first | (with_reducible assumption) | assumption)
   have hx4 := bt_at s0_0 s0_1
   replace p4 := eq_true p4
   replace q4 := eq_true q4
   go_enter Tryz.func60, Tryz.ntmps60
   go_wp2
   repeat (go_quiet (fail); try go_wp2)
   go_ret
   exact ⟨tE, tI, tB, tK⟩
  ·rw [if_neg c3] at H
   exact absurd H (by simp)
 ·rw [if_neg c2] at H
  have c2b0 : decide (s0_1 < (s0_0.size : Int)) = false := decide_eq_false c2
  clear c2
  simp only [Option.some.injEq, Prod.mk.injEq] at H
  obtain ⟨rfl, rfl, rfl⟩ := H
  obtain ⟨z0, z1, y0, y1⟩ := IsS70.cells HI0.out
  go_enter Tryz.func60, Tryz.ntmps60
  go_wp2
  repeat (go_quiet (fail); try go_wp2)
  go_ret
  exact ⟨tE, tI, tB, tK⟩
/-! ### spec_reader_digits: function 42 -/
def spec_reader_digits.l0 : Nat → Int → Int → ByteArray → Int → Option (Bool × ByteArray × Int)
 | 0, _, _, _, _ => none
 | k + 1, x3, x4, a4, a3 => if 48 ≤ x4 then (if x4 ≤ 57 then ((spec_reader_here.f a4 (wrap64 (a3 + 1))).bind fun b9 => (spec_reader_digits.l0 k x3 b9.1 b9.2.1 b9.2.2)) else (some (decide (a3 > x3), a4, a3))) else (some (decide (a3 > x3), a4, a3))
def spec_reader_digits.f (k : Nat) (s0_0 : ByteArray) (s0_1 : Int) : Option (Bool × ByteArray × Int) := (spec_reader_here.f s0_0 s0_1).bind fun b2 => (spec_reader_digits.l0 k s0_1 b2.1 b2.2.1 b2.2.2)
theorem spec_reader_digits.mono_l : ∀ k, (∀ y0 y1 y2 y3, LeO (spec_reader_digits.l0 k y0 y1 y2 y3) (spec_reader_digits.l0 (k + 1) y0 y1 y2 y3))
 | 0 => fun _ _ _ _ r h => by simp [spec_reader_digits.l0] at h
 | k + 1 => by
  have ih0 := spec_reader_digits.mono_l k
  ·intro y0 y1 y2 y3
   unfold spec_reader_digits.l0
   repeat' first
   | (with_reducible exact ih0 _ _ _ _)
   | (with_reducible exact LeO.refl _)
   | (with_reducible exact LeO.none _)
   | (with_reducible refine LeO.ite ?_ ?_)
   | (with_reducible refine LeO.bind ?_ (fun _ => ?_))
   | exact ih0 _ _ _ _
   | exact LeO.none _
   | refine LeO.ite ?_ ?_
   | refine LeO.bind ?_ (fun _ => ?_)
theorem spec_reader_digits.mono : ∀ a0 a1 k, LeO (spec_reader_digits.f k a0 a1) (spec_reader_digits.f (k + 1) a0 a1) := by
 intro a0 a1 k
 have ih0 := spec_reader_digits.mono_l k
 unfold spec_reader_digits.f
 repeat' first
   | (with_reducible exact ih0 _ _ _ _)
   | (with_reducible exact LeO.refl _)
   | (with_reducible exact LeO.none _)
   | (with_reducible refine LeO.ite ?_ ?_)
   | (with_reducible refine LeO.bind ?_ (fun _ => ?_))
   | exact ih0 _ _ _ _
   | exact LeO.none _
   | refine LeO.ite ?_ ?_
   | refine LeO.bind ?_ (fun _ => ?_)
set_option maxHeartbeats 8000000 in
set_option maxRecDepth 100000 in
theorem spec_reader_digits.calls (k : Nat) (g : Nat) (s0_0 : ByteArray) (s0_1 : Int) (r1 : Bool) (r2 : ByteArray) (r3 : Int) (w0 w : World) (hI : IsS70 w0 w g s0_0 s0_1) (hB : Below w0.heap.size w0 w) (h : spec_reader_digits.f k s0_0 s0_1 = some (r1, r2, r3)) :
  Calls Tryz.prog 42 #[.pointer (some ⟨g, 0, none⟩)] w fun e w' => e = .returned (.bool r1) ∧ IsS70 w0 w' g r2 r3 ∧ Below w0.heap.size w0 w' ∧ KeepBut w w' g none := by
 have HI0 := sd hI
 have HK := sd (KeepBut.refl w g none)
 have HL := sd hB.size
 clear hI
 have HW0 := sd hB.size
 have HB := sd hB
 clear hB
 have H : ((spec_reader_here.f s0_0 s0_1).bind fun b2 => (spec_reader_digits.l0 k s0_1 b2.1 b2.2.1 b2.2.2)) = some (r1, r2, r3) := h
 clear h
 replace H := Option.bind_eq_some_iff.mp H
 obtain ⟨⟨e1, e2, e3⟩, A20, H⟩ := H
 try dsimp only at H
 have A2 := sd A20
 clear A20
 have H' := sd H
 clear H
 obtain ⟨z0, z1, y0, y1⟩ := IsS70.cells HI0.out
 go_enter Tryz.func42, Tryz.ntmps42
 go_wp2_with (first | ((with_reducible refine gate_callee (f := 60) rfl ?_); refine goesL_ (some 10) rfl rfl Tryz.func60 (by kernel_rfl) rfl #[.pointer (some ⟨g, 0, none⟩)] rfl tM ?_; (with_reducible refine (spec_reader_here.calls g s0_0 s0_1 e1 e2 e3 w0 _ ?_ ?_ A2.out).mono ?_); exact tI; exact tB; rintro e w4 ⟨rfl, hi, hb, hk⟩; refine ⟨_, rfl, ?_⟩; have HK := sd (KeepBut.trans tK hk (.inl rfl)); have HB := sd (hb); have HI0 := sd (hi); clear hb hk hi))
 (try simp only [Act.put, List.setIfInBounds_toArray, List.set_cons_zero, List.set_cons_succ])
 go_loopg [4] k (fun kq v4 w' => ∃ (x4_1 : Int) (b4 : ByteArray) (a2 : Int), v4 = .int .u8 x4_1 ∧ Aside0 (spec_reader_digits.l0 kq s0_1 x4_1 b4 a2 = some (r1, r2, r3)) ∧ Aside0 (kq ≤ k) ∧ Aside0 (IsS70 w0 w' g b4 a2) ∧ Aside0 (KeepBut w w' g none) ∧ Aside0 (Below w0.heap.size w0 w'))
 case atStart => exact ⟨(e1), (e2), (e3), tF, H', ⟨Nat.le_refl _⟩, ⟨tI⟩, ⟨tK⟩, ⟨tB⟩⟩
 case round =>
  clear H'
  obtain ⟨x4_1, b4, a2, rfl, HA, HK1, HI0, HK, HB⟩ := hrel
  cases gk with
  | zero => exact absurd HA.out (by simp [spec_reader_digits.l0])
  | succ k1 =>
   have H := HA.out
   clear HA
   simp only [spec_reader_digits.l0] at H
   by_cases c5 : 48 ≤ x4_1
   ·rw [if_pos c5] at H
    have c5b0 : decide (48 ≤ x4_1) = true := decide_eq_true c5
    clear c5
    by_cases c6 : x4_1 ≤ 57
    ·rw [if_pos c6] at H
     have c6b0 : decide (x4_1 ≤ 57) = true := decide_eq_true c6
     clear c6
     replace H := Option.bind_eq_some_iff.mp H
     obtain ⟨⟨e4, e5, e6⟩, A70, H⟩ := H
     try dsimp only at H
     have A7 := sd A70
     clear A70
     have H' := sd H
     clear H
     obtain ⟨z0, z1, y0, y1⟩ := IsS70.cells HI0.out
     go_wp2_with (first | ((with_reducible refine gate_callee (f := 60) rfl ?_); refine goesL_ (some 18) rfl rfl Tryz.func60 (by kernel_rfl) rfl #[.pointer (some ⟨g, 0, none⟩)] rfl tM ?_; (with_reducible refine (spec_reader_here.calls g b4 (wrap64 (a2 + 1)) e4 e5 e6 w0 _ ?_ ?_ A7.out).mono ?_); exact tI; exact tB; rintro e w9 ⟨rfl, hi, hb, hk⟩; refine ⟨_, rfl, ?_⟩; have HK := sd (KeepBut.trans tK hk (.inl rfl)); have HB := sd (hb); have HI0 := sd (hi); clear hb hk hi))
     go_roundg k1
     case measure => have := HK1.out; omega
     case rel => exact ⟨(e4), (e5), (e6), tF, H', ⟨by have := HK1.out; omega⟩, ⟨tI⟩, ⟨tK⟩, ⟨tB⟩⟩
    ·rw [if_neg c6] at H
     have c6b0 : decide (x4_1 ≤ 57) = false := decide_eq_false c6
     clear c6
     simp only [Option.some.injEq, Prod.mk.injEq] at H
     obtain ⟨rfl, rfl, rfl⟩ := H
     obtain ⟨z0, z1, y0, y1⟩ := IsS70.cells HI0.out
     go_wp2
     go_ret
     exact ⟨tE, tI, tB, tK⟩
   ·rw [if_neg c5] at H
    have c5b0 : decide (48 ≤ x4_1) = false := decide_eq_false c5
    clear c5
    simp only [Option.some.injEq, Prod.mk.injEq] at H
    obtain ⟨rfl, rfl, rfl⟩ := H
    obtain ⟨z0, z1, y0, y1⟩ := IsS70.cells HI0.out
    go_wp2
    go_ret
    exact ⟨tE, tI, tB, tK⟩
/-! ### spec_reader_number: function 27 -/
mutual
def spec_reader_number.j0 : Nat → Bool → ByteArray → Int → Option (Bool × ByteArray × Int)
 | 0, _, _, _ => none
 | k + 1, x12, a4, a3 => if x12 = true then (some (false, a4, a3)) else ((spec_reader_take.f a4 a3 46).bind fun b5 => (if b5.1 = true then ((spec_reader_digits.f k b5.2.1 b5.2.2).bind fun c0 => (spec_reader_number.j1 k (!c0.1) c0.2.1 c0.2.2)) else (spec_reader_number.j1 k false b5.2.1 b5.2.2)))
def spec_reader_number.j1 : Nat → Bool → ByteArray → Int → Option (Bool × ByteArray × Int)
 | 0, _, _, _ => none
 | k + 1, x19, a4, a3 => if x19 = true then (some (false, a4, a3)) else ((spec_reader_take.f a4 a3 101).bind fun b6 => (if b6.1 = true then (spec_reader_number.j2 k true b6.2.1 b6.2.2) else ((spec_reader_take.f b6.2.1 b6.2.2 69).bind fun c1 => (spec_reader_number.j2 k c1.1 c1.2.1 c1.2.2))))
def spec_reader_number.j2 : Nat → Bool → ByteArray → Int → Option (Bool × ByteArray × Int)
 | 0, _, _, _ => none
 | k + 1, x25, a4, a3 => if x25 = true then ((spec_reader_take.f a4 a3 43).bind fun b7 => (if b7.1 = true then ((spec_reader_digits.f k b7.2.1 b7.2.2).bind fun c7 => (some (c7.1, c7.2.1, c7.2.2))) else ((spec_reader_take.f b7.2.1 b7.2.2 45).bind fun e0 => ((spec_reader_digits.f k e0.2.1 e0.2.2).bind fun c8 => (some (c8.1, c8.2.1, c8.2.2)))))) else (some (true, a4, a3))
end
def spec_reader_number.f (k : Nat) (s0_0 : ByteArray) (s0_1 : Int) : Option (Bool × ByteArray × Int) := (spec_reader_take.f s0_0 s0_1 45).bind fun b8 => ((spec_reader_take.f b8.2.1 b8.2.2 48).bind fun a5 => (if a5.1 = true then (spec_reader_number.j0 k false a5.2.1 a5.2.2) else ((spec_reader_digits.f k a5.2.1 a5.2.2).bind fun b3 => (spec_reader_number.j0 k (!b3.1) b3.2.1 b3.2.2))))
theorem spec_reader_number.mono_l : ∀ k, (∀ y0 y1 y2, LeO (spec_reader_number.j0 k y0 y1 y2) (spec_reader_number.j0 (k + 1) y0 y1 y2)) ∧ (∀ y0 y1 y2, LeO (spec_reader_number.j1 k y0 y1 y2) (spec_reader_number.j1 (k + 1) y0 y1 y2)) ∧ (∀ y0 y1 y2, LeO (spec_reader_number.j2 k y0 y1 y2) (spec_reader_number.j2 (k + 1) y0 y1 y2))
 | 0 => ⟨fun _ _ _ r h => by simp [spec_reader_number.j0] at h, fun _ _ _ r h => by simp [spec_reader_number.j1] at h, fun _ _ _ r h => by simp [spec_reader_number.j2] at h⟩
 | k + 1 => by
  obtain ⟨ih0, ih1, ih2⟩ := spec_reader_number.mono_l k
  refine ⟨?_, ?_, ?_⟩
  ·intro y0 y1 y2
   unfold spec_reader_number.j0
   repeat' first
   | (with_reducible exact ih0 _ _ _)
   | (with_reducible exact ih1 _ _ _)
   | (with_reducible exact ih2 _ _ _)
   | (with_reducible exact spec_reader_digits.mono _ _ _)
   | (with_reducible exact LeO.refl _)
   | (with_reducible exact LeO.none _)
   | (with_reducible refine LeO.ite ?_ ?_)
   | (with_reducible refine LeO.bind ?_ (fun _ => ?_))
   | exact ih0 _ _ _
   | exact ih1 _ _ _
   | exact ih2 _ _ _
   | exact spec_reader_digits.mono _ _ _
   | exact LeO.none _
   | refine LeO.ite ?_ ?_
   | refine LeO.bind ?_ (fun _ => ?_)
  ·intro y0 y1 y2
   unfold spec_reader_number.j1
   repeat' first
   | (with_reducible exact ih0 _ _ _)
   | (with_reducible exact ih1 _ _ _)
   | (with_reducible exact ih2 _ _ _)
   | (with_reducible exact spec_reader_digits.mono _ _ _)
   | (with_reducible exact LeO.refl _)
   | (with_reducible exact LeO.none _)
   | (with_reducible refine LeO.ite ?_ ?_)
   | (with_reducible refine LeO.bind ?_ (fun _ => ?_))
   | exact ih0 _ _ _
   | exact ih1 _ _ _
   | exact ih2 _ _ _
   | exact spec_reader_digits.mono _ _ _
   | exact LeO.none _
   | refine LeO.ite ?_ ?_
   | refine LeO.bind ?_ (fun _ => ?_)
  ·intro y0 y1 y2
   unfold spec_reader_number.j2
   repeat' first
   | (with_reducible exact ih0 _ _ _)
   | (with_reducible exact ih1 _ _ _)
   | (with_reducible exact ih2 _ _ _)
   | (with_reducible exact spec_reader_digits.mono _ _ _)
   | (with_reducible exact LeO.refl _)
   | (with_reducible exact LeO.none _)
   | (with_reducible refine LeO.ite ?_ ?_)
   | (with_reducible refine LeO.bind ?_ (fun _ => ?_))
   | exact ih0 _ _ _
   | exact ih1 _ _ _
   | exact ih2 _ _ _
   | exact spec_reader_digits.mono _ _ _
   | exact LeO.none _
   | refine LeO.ite ?_ ?_
   | refine LeO.bind ?_ (fun _ => ?_)
theorem spec_reader_number.mono : ∀ a0 a1 k, LeO (spec_reader_number.f k a0 a1) (spec_reader_number.f (k + 1) a0 a1) := by
 intro a0 a1 k
 obtain ⟨ih0, ih1, ih2⟩ := spec_reader_number.mono_l k
 unfold spec_reader_number.f
 repeat' first
   | (with_reducible exact ih0 _ _ _)
   | (with_reducible exact ih1 _ _ _)
   | (with_reducible exact ih2 _ _ _)
   | (with_reducible exact spec_reader_digits.mono _ _ _)
   | (with_reducible exact LeO.refl _)
   | (with_reducible exact LeO.none _)
   | (with_reducible refine LeO.ite ?_ ?_)
   | (with_reducible refine LeO.bind ?_ (fun _ => ?_))
   | exact ih0 _ _ _
   | exact ih1 _ _ _
   | exact ih2 _ _ _
   | exact spec_reader_digits.mono _ _ _
   | exact LeO.none _
   | refine LeO.ite ?_ ?_
   | refine LeO.bind ?_ (fun _ => ?_)
set_option maxHeartbeats 8000000 in
set_option maxRecDepth 100000 in
theorem spec_reader_number.calls (k : Nat) (g : Nat) (s0_0 : ByteArray) (s0_1 : Int) (r1 : Bool) (r2 : ByteArray) (r3 : Int) (w0 w : World) (hI : IsS70 w0 w g s0_0 s0_1) (hB : Below w0.heap.size w0 w) (h : spec_reader_number.f k s0_0 s0_1 = some (r1, r2, r3)) :
  Calls Tryz.prog 27 #[.pointer (some ⟨g, 0, none⟩)] w fun e w' => e = .returned (.bool r1) ∧ IsS70 w0 w' g r2 r3 ∧ Below w0.heap.size w0 w' ∧ KeepBut w w' g none := by
 have HI0 := sd hI
 have HK := sd (KeepBut.refl w g none)
 have HL := sd hB.size
 clear hI
 have HW0 := sd hB.size
 have HB := sd hB
 clear hB
 have H : ((spec_reader_take.f s0_0 s0_1 45).bind fun b8 => ((spec_reader_take.f b8.2.1 b8.2.2 48).bind fun a5 => (if a5.1 = true then (spec_reader_number.j0 k false a5.2.1 a5.2.2) else ((spec_reader_digits.f k a5.2.1 a5.2.2).bind fun b3 => (spec_reader_number.j0 k (!b3.1) b3.2.1 b3.2.2))))) = some (r1, r2, r3) := h
 clear h
 replace H := Option.bind_eq_some_iff.mp H
 obtain ⟨⟨g8, d8, d9⟩, A20, H⟩ := H
 try dsimp only at H
 have A2 := sd A20
 clear A20
 have HC3 := sd H
 clear H
 go_enter Tryz.func27, Tryz.ntmps27
 go_upto_region 2 with (first | ((with_reducible refine gate_callee (f := 41) rfl ?_); refine goesL_ (some 4) rfl rfl Tryz.func41 (by kernel_rfl) rfl #[.pointer (some ⟨g, 0, none⟩), .int .u8 45] rfl tM ?_; (with_reducible refine (spec_reader_take.calls g s0_0 s0_1 45 g8 d8 d9 w0 _ ?_ ?_ A2.out).mono ?_); exact tI; exact tB; rintro e w4 ⟨rfl, hi, hb, hk⟩; refine ⟨_, rfl, ?_⟩; have HK := sd (KeepBut.trans tK hk (.inl rfl)); have HB := sd (hb); have HI0 := sd (hi); clear hb hk hi))
 (try simp only [Act.put, List.setIfInBounds_toArray, List.set_cons_zero, List.set_cons_succ])
 go_cut [12] (fun v12 wc => ∃ (kq : Nat) (x12_2 : Bool) (b0 : ByteArray) (b1 : Int), v12 = .bool x12_2 ∧ Aside0 (spec_reader_number.j0 kq x12_2 b0 b1 = some (r1, r2, r3)) ∧ Aside0 (kq ≤ k) ∧ Aside0 (IsS70 w0 wc g b0 b1) ∧ Aside0 (KeepBut w wc g none) ∧ Aside0 (Below w0.heap.size w0 wc))
 case first =>
  have H := HC3.out
  clear HC3
  replace H := Option.bind_eq_some_iff.mp H
  obtain ⟨⟨g9, c9, d0⟩, A50, H⟩ := H
  try dsimp only at H
  have A5 := sd A50
  clear A50
  by_cases c6 : g9 = true
  ·subst c6
   rw [if_pos rfl] at H
   have H' := sd H
   clear H
   go_wp2_with (first | ((with_reducible refine gate_callee (f := 41) rfl ?_); refine goesL_ (some 6) rfl rfl Tryz.func41 (by kernel_rfl) rfl #[.pointer (some ⟨g, 0, none⟩), .int .u8 48] rfl tM ?_; (with_reducible refine (spec_reader_take.calls g d8 d9 48 true c9 d0 w0 _ ?_ ?_ A5.out).mono ?_); exact tI; exact tB; rintro e w7 ⟨rfl, hi, hb, hk⟩; refine ⟨_, rfl, ?_⟩; have HK := sd (KeepBut.trans tK hk (.inl rfl)); have HB := sd (hb); have HI0 := sd (hi); clear hb hk hi))
   go_meet
   case rel => exact ⟨_, (false), (c9), (d0), tF, H', ⟨by first | omega | exact Nat.le_refl _⟩, ⟨tI⟩, ⟨tK⟩, ⟨tB⟩⟩
  ·replace c6 := Bool.eq_false_iff.mpr c6
   subst c6
   rw [if_neg (show ¬ (false = true) by decide)] at H
   replace H := Option.bind_eq_some_iff.mp H
   obtain ⟨⟨e7, e8, e9⟩, A80, H⟩ := H
   try dsimp only at H
   have A8 := sd A80
   clear A80
   have H' := sd H
   clear H
   go_wp2_with (first | ((with_reducible refine gate_callee (f := 41) rfl ?_); refine goesL_ (some 6) rfl rfl Tryz.func41 (by kernel_rfl) rfl #[.pointer (some ⟨g, 0, none⟩), .int .u8 48] rfl tM ?_; (with_reducible refine (spec_reader_take.calls g d8 d9 48 false c9 d0 w0 _ ?_ ?_ A5.out).mono ?_); exact tI; exact tB; rintro e w9 ⟨rfl, hi, hb, hk⟩; refine ⟨_, rfl, ?_⟩; have HK := sd (KeepBut.trans tK hk (.inl rfl)); have HB := sd (hb); have HI0 := sd (hi); clear hb hk hi) | (go_at_call 42; (with_reducible refine (spec_reader_digits.calls k g c9 d0 e7 e8 e9 w0 _ ?_ ?_ A8.out).mono ?_); exact tI; exact tB; rintro e w10 ⟨rfl, hi, hb, hk⟩; have HK := sd (KeepBut.trans tK hk (.inl rfl)); have HB := sd (hb); have HI0 := sd (hi); clear hb hk hi))
   go_meet
   case rel => exact ⟨_, (!e7), (e8), (e9), tF, H', ⟨by first | omega | exact Nat.le_refl _⟩, ⟨tI⟩, ⟨tK⟩, ⟨tB⟩⟩
 case rest =>
  clear HC3
  obtain ⟨kq, x12_2, b0, b1, rfl, HA, HJ2, HI0, HK, HB⟩ := hcut
  cases kq with
  | zero => exact absurd HA.out (by simp [spec_reader_number.j0])
  | succ kj2 =>
   have H := HA.out
   clear HA
   simp only [spec_reader_number.j0] at H
   by_cases c11 : x12_2 = true
   ·subst c11
    rw [if_pos rfl] at H
    simp only [Option.some.injEq, Prod.mk.injEq] at H
    obtain ⟨rfl, rfl, rfl⟩ := H
    go_wp2
    go_ret
    exact ⟨tE, tI, tB, tK⟩
   ·replace c11 := Bool.eq_false_iff.mpr c11
    subst c11
    rw [if_neg (show ¬ (false = true) by decide)] at H
    have HC12 := sd H
    clear H
    go_upto_region 4 with (fail)
    go_cut [19] (fun v19 wc => ∃ (kq : Nat) (x19_11 : Bool) (a6 : ByteArray) (a7 : Int), v19 = .bool x19_11 ∧ Aside0 (spec_reader_number.j1 kq x19_11 a6 a7 = some (r1, r2, r3)) ∧ Aside0 (kq ≤ kj2) ∧ Aside0 (IsS70 w0 wc g a6 a7) ∧ Aside0 (KeepBut w wc g none) ∧ Aside0 (Below w0.heap.size w0 wc))
    case first =>
     have H := HC12.out
     clear HC12
     replace H := Option.bind_eq_some_iff.mp H
     obtain ⟨⟨i0, d1, d2⟩, f2, H⟩ := H
     try dsimp only at H
     have A13 := sd f2
     clear f2
     by_cases c14 : i0 = true
     ·subst c14
      rw [if_pos rfl] at H
      replace H := Option.bind_eq_some_iff.mp H
      obtain ⟨⟨f3, f4, f5⟩, f6, H⟩ := H
      try dsimp only at H
      have A15 := sd f6
      clear f6
      have H' := sd H
      clear H
      go_wp2_with (first | ((with_reducible refine gate_callee (f := 41) rfl ?_); refine goesL_ (some 14) rfl rfl Tryz.func41 (by kernel_rfl) rfl #[.pointer (some ⟨g, 0, none⟩), .int .u8 46] rfl tM ?_; (with_reducible refine (spec_reader_take.calls g b0 b1 46 true d1 d2 w0 _ ?_ ?_ A13.out).mono ?_); exact tI; exact tB; rintro e w16 ⟨rfl, hi, hb, hk⟩; refine ⟨_, rfl, ?_⟩; have HK := sd (KeepBut.trans tK hk (.inl rfl)); have HB := sd (hb); have HI0 := sd (hi); clear hb hk hi) | (go_at_call 42; (with_reducible refine (spec_reader_digits.calls kj2 g d1 d2 f3 f4 f5 w0 _ ?_ ?_ A15.out).mono ?_); exact tI; exact tB; rintro e w17 ⟨rfl, hi, hb, hk⟩; have HK := sd (KeepBut.trans tK hk (.inl rfl)); have HB := sd (hb); have HI0 := sd (hi); clear hb hk hi))
      go_meet
      case rel => exact ⟨_, (!f3), (f4), (f5), tF, H', ⟨by have := HJ2.out; first | omega | exact Nat.le_refl _⟩, ⟨tI⟩, ⟨tK⟩, ⟨tB⟩⟩
     ·replace c14 := Bool.eq_false_iff.mpr c14
      subst c14
      rw [if_neg (show ¬ (false = true) by decide)] at H
      have H' := sd H
      clear H
      go_wp2_with (first | ((with_reducible refine gate_callee (f := 41) rfl ?_); refine goesL_ (some 14) rfl rfl Tryz.func41 (by kernel_rfl) rfl #[.pointer (some ⟨g, 0, none⟩), .int .u8 46] rfl tM ?_; (with_reducible refine (spec_reader_take.calls g b0 b1 46 false d1 d2 w0 _ ?_ ?_ A13.out).mono ?_); exact tI; exact tB; rintro e w18 ⟨rfl, hi, hb, hk⟩; refine ⟨_, rfl, ?_⟩; have HK := sd (KeepBut.trans tK hk (.inl rfl)); have HB := sd (hb); have HI0 := sd (hi); clear hb hk hi))
      go_meet
      case rel => exact ⟨_, (false), (d1), (d2), tF, H', ⟨by have := HJ2.out; first | omega | exact Nat.le_refl _⟩, ⟨tI⟩, ⟨tK⟩, ⟨tB⟩⟩
    case rest =>
     clear HC12
     obtain ⟨kq, x19_11, a6, a7, rfl, HA, HJ11, HI0, HK, HB⟩ := hcut
     cases kq with
     | zero => exact absurd HA.out (by simp [spec_reader_number.j1])
     | succ kj11 =>
      have H := HA.out
      clear HA
      simp only [spec_reader_number.j1] at H
      by_cases c19 : x19_11 = true
      ·subst c19
       rw [if_pos rfl] at H
       simp only [Option.some.injEq, Prod.mk.injEq] at H
       obtain ⟨rfl, rfl, rfl⟩ := H
       go_wp2
       go_ret
       exact ⟨tE, tI, tB, tK⟩
      ·replace c19 := Bool.eq_false_iff.mpr c19
       subst c19
       rw [if_neg (show ¬ (false = true) by decide)] at H
       have HC20 := sd H
       clear H
       go_upto_region 6 with (fail)
       go_cut [25] (fun v25 wc => ∃ (kq : Nat) (x25_19 : Bool) (a8 : ByteArray) (a9 : Int), v25 = .bool x25_19 ∧ Aside0 (spec_reader_number.j2 kq x25_19 a8 a9 = some (r1, r2, r3)) ∧ Aside0 (kq ≤ kj11) ∧ Aside0 (IsS70 w0 wc g a8 a9) ∧ Aside0 (KeepBut w wc g none) ∧ Aside0 (Below w0.heap.size w0 wc))
       case first =>
        have H := HC20.out
        clear HC20
        replace H := Option.bind_eq_some_iff.mp H
        obtain ⟨⟨i1, d3, d4⟩, f7, H⟩ := H
        try dsimp only at H
        have A21 := sd f7
        clear f7
        by_cases c22 : i1 = true
        ·subst c22
         rw [if_pos rfl] at H
         have H' := sd H
         clear H
         go_wp2_with (first | ((with_reducible refine gate_callee (f := 41) rfl ?_); refine goesL_ (some 21) rfl rfl Tryz.func41 (by kernel_rfl) rfl #[.pointer (some ⟨g, 0, none⟩), .int .u8 101] rfl tM ?_; (with_reducible refine (spec_reader_take.calls g a6 a7 101 true d3 d4 w0 _ ?_ ?_ A21.out).mono ?_); exact tI; exact tB; rintro e w23 ⟨rfl, hi, hb, hk⟩; refine ⟨_, rfl, ?_⟩; have HK := sd (KeepBut.trans tK hk (.inl rfl)); have HB := sd (hb); have HI0 := sd (hi); clear hb hk hi))
         go_meet
         case rel => exact ⟨_, (true), (d3), (d4), tF, H', ⟨by have := HJ2.out; have := HJ11.out; first | omega | exact Nat.le_refl _⟩, ⟨tI⟩, ⟨tK⟩, ⟨tB⟩⟩
        ·replace c22 := Bool.eq_false_iff.mpr c22
         subst c22
         rw [if_neg (show ¬ (false = true) by decide)] at H
         replace H := Option.bind_eq_some_iff.mp H
         obtain ⟨⟨f8, f9, g0⟩, g1, H⟩ := H
         try dsimp only at H
         have A24 := sd g1
         clear g1
         have H' := sd H
         clear H
         go_wp2_with (first | ((with_reducible refine gate_callee (f := 41) rfl ?_); refine goesL_ (some 21) rfl rfl Tryz.func41 (by kernel_rfl) rfl #[.pointer (some ⟨g, 0, none⟩), .int .u8 101] rfl tM ?_; (with_reducible refine (spec_reader_take.calls g a6 a7 101 false d3 d4 w0 _ ?_ ?_ A21.out).mono ?_); exact tI; exact tB; rintro e w25 ⟨rfl, hi, hb, hk⟩; refine ⟨_, rfl, ?_⟩; have HK := sd (KeepBut.trans tK hk (.inl rfl)); have HB := sd (hb); have HI0 := sd (hi); clear hb hk hi) | (go_at_call 41; (with_reducible refine (spec_reader_take.calls g d3 d4 69 f8 f9 g0 w0 _ ?_ ?_ A24.out).mono ?_); exact tI; exact tB; rintro e w26 ⟨rfl, hi, hb, hk⟩; have HK := sd (KeepBut.trans tK hk (.inl rfl)); have HB := sd (hb); have HI0 := sd (hi); clear hb hk hi))
         go_meet
         case rel => exact ⟨_, (f8), (f9), (g0), tF, H', ⟨by have := HJ2.out; have := HJ11.out; first | omega | exact Nat.le_refl _⟩, ⟨tI⟩, ⟨tK⟩, ⟨tB⟩⟩
       case rest =>
        clear HC20
        obtain ⟨kq, x25_19, a8, a9, rfl, HA, HJ19, HI0, HK, HB⟩ := hcut
        cases kq with
        | zero => exact absurd HA.out (by simp [spec_reader_number.j2])
        | succ kj19 =>
         have H := HA.out
         clear HA
         simp only [spec_reader_number.j2] at H
         by_cases c27 : x25_19 = true
         ·subst c27
          rw [if_pos rfl] at H
          replace H := Option.bind_eq_some_iff.mp H
          obtain ⟨⟨i2, d5, d6⟩, g2, H⟩ := H
          try dsimp only at H
          have A28 := sd g2
          clear g2
          by_cases c29 : i2 = true
          ·subst c29
           rw [if_pos rfl] at H
           replace H := Option.bind_eq_some_iff.mp H
           obtain ⟨⟨i3, i4, i5⟩, g3, H⟩ := H
           try dsimp only at H
           have A30 := sd g3
           clear g3
           simp only [Option.some.injEq, Prod.mk.injEq] at H
           obtain ⟨rfl, rfl, rfl⟩ := H
           go_wp2_with (first | ((with_reducible refine gate_callee (f := 41) rfl ?_); refine goesL_ (some 27) rfl rfl Tryz.func41 (by kernel_rfl) rfl #[.pointer (some ⟨g, 0, none⟩), .int .u8 43] rfl tM ?_; (with_reducible refine (spec_reader_take.calls g a8 a9 43 true d5 d6 w0 _ ?_ ?_ A28.out).mono ?_); exact tI; exact tB; rintro e w31 ⟨rfl, hi, hb, hk⟩; refine ⟨_, rfl, ?_⟩; have HK := sd (KeepBut.trans tK hk (.inl rfl)); have HB := sd (hb); have HI0 := sd (hi); clear hb hk hi) | ((with_reducible refine gate_callee (f := 42) rfl ?_); refine goesL_ (some 32) rfl rfl Tryz.func42 (by kernel_rfl) rfl #[.pointer (some ⟨g, 0, none⟩)] rfl tM ?_; (with_reducible refine (spec_reader_digits.calls kj19 g d5 d6 i3 i4 i5 w0 _ ?_ ?_ A30.out).mono ?_); exact tI; exact tB; rintro e w32 ⟨rfl, hi, hb, hk⟩; refine ⟨_, rfl, ?_⟩; have HK := sd (KeepBut.trans tK hk (.inl rfl)); have HB := sd (hb); have HI0 := sd (hi); clear hb hk hi))
           go_ret
           exact ⟨tE, tI, tB, tK⟩
          ·replace c29 := Bool.eq_false_iff.mpr c29
           subst c29
           rw [if_neg (show ¬ (false = true) by decide)] at H
           replace H := Option.bind_eq_some_iff.mp H
           obtain ⟨⟨i6, g4, g5⟩, g6, H⟩ := H
           try dsimp only at H
           have A33 := sd g6
           clear g6
           replace H := Option.bind_eq_some_iff.mp H
           obtain ⟨⟨i7, i8, i9⟩, g7, H⟩ := H
           try dsimp only at H
           have A34 := sd g7
           clear g7
           simp only [Option.some.injEq, Prod.mk.injEq] at H
           obtain ⟨rfl, rfl, rfl⟩ := H
           go_wp2_with (first | ((with_reducible refine gate_callee (f := 41) rfl ?_); refine goesL_ (some 27) rfl rfl Tryz.func41 (by kernel_rfl) rfl #[.pointer (some ⟨g, 0, none⟩), .int .u8 43] rfl tM ?_; (with_reducible refine (spec_reader_take.calls g a8 a9 43 false d5 d6 w0 _ ?_ ?_ A28.out).mono ?_); exact tI; exact tB; rintro e w35 ⟨rfl, hi, hb, hk⟩; refine ⟨_, rfl, ?_⟩; have HK := sd (KeepBut.trans tK hk (.inl rfl)); have HB := sd (hb); have HI0 := sd (hi); clear hb hk hi) | ((with_reducible refine gate_callee (f := 41) rfl ?_); refine goesL_ (some 30) rfl rfl Tryz.func41 (by kernel_rfl) rfl #[.pointer (some ⟨g, 0, none⟩), .int .u8 45] rfl tM ?_; (with_reducible refine (spec_reader_take.calls g d5 d6 45 i6 g4 g5 w0 _ ?_ ?_ A33.out).mono ?_); exact tI; exact tB; rintro e w36 ⟨rfl, hi, hb, hk⟩; refine ⟨_, rfl, ?_⟩; have HK := sd (KeepBut.trans tK hk (.inl rfl)); have HB := sd (hb); have HI0 := sd (hi); clear hb hk hi) | ((with_reducible refine gate_callee (f := 42) rfl ?_); refine goesL_ (some 32) rfl rfl Tryz.func42 (by kernel_rfl) rfl #[.pointer (some ⟨g, 0, none⟩)] rfl tM ?_; (with_reducible refine (spec_reader_digits.calls kj19 g g4 g5 i7 i8 i9 w0 _ ?_ ?_ A34.out).mono ?_); exact tI; exact tB; rintro e w37 ⟨rfl, hi, hb, hk⟩; refine ⟨_, rfl, ?_⟩; have HK := sd (KeepBut.trans tK hk (.inl rfl)); have HB := sd (hb); have HI0 := sd (hi); clear hb hk hi))
           go_ret
           exact ⟨tE, tI, tB, tK⟩
         ·replace c27 := Bool.eq_false_iff.mpr c27
          subst c27
          rw [if_neg (show ¬ (false = true) by decide)] at H
          simp only [Option.some.injEq, Prod.mk.injEq] at H
          obtain ⟨rfl, rfl, rfl⟩ := H
          go_wp2
          go_ret
          exact ⟨tE, tI, tB, tK⟩
end Go.Proofs.YtaihmpdhaikfkaaGreatDoor.PFnFjFloat
