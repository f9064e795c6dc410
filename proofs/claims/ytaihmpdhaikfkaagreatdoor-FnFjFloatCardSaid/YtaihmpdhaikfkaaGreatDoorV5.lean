/- Walks of the functions that the law calls, printed by program and rewritten. -/
import Derived.Test.YtaihmpdhaikfkaaGreatDoorV0
import Derived.Test.YtaihmpdhaikfkaaGreatDoorV3
import Derived.Test.YtaihmpdhaikfkaaGreatDoorV4
set_option linter.all false
namespace Go.Proofs.YtaihmpdhaikfkaaGreatDoor.PFnFjFloat
open Go.RowKit Go.Proofs.YtaihmpdhaikfkaaGreatDoorW.PrintWords Go.Proofs.YtaihmpdhaikfkaaGreatDoorW.PrintLast Go.Proofs.YtaihmpdhaikfkaaGreatDoorW.PrintMore
attribute [local go_sem] max2_int min2_int max_two min_two max_three min_three max_four min_four
/-! ### spec_reader_value: function 37 -/
/-! ### spec_reader_members: function 61 -/
/-! ### spec_reader_elements: function 62 -/
mutual
def spec_reader_value.j0 : Nat → Bool → Bool → ByteArray → Int → Int → Int → Int → Option (Int × Int × Int × (List (S90)) × (List (S60)) × Bool × ByteArray × Int)
 | 0, _, _, _, _, _, _, _ => none
 | k + 1, x5, x42, f6, e6, q1, g7, ab1 => if x42 = true then ((spec_reader_number.f k f6 e6).bind fun l9 => (some (3, g7, l9.2.2, ([] : List (S90)), ([] : List (S60)), l9.1, l9.2.1, l9.2.2))) else ((spec_reader_word.f f6 e6 (⟨#[110, 117, 108, 108]⟩ : ByteArray)).bind fun i5 => (if i5.1 = true then (some (0, g7, i5.2.2, ([] : List (S90)), ([] : List (S60)), x5, i5.2.1, i5.2.2)) else ((spec_reader_word.f i5.2.1 i5.2.2 (⟨#[102, 97, 108, 115, 101]⟩ : ByteArray)).bind fun i6 => (if i6.1 = true then (some (1, g7, i6.2.2, ([] : List (S90)), ([] : List (S60)), x5, i6.2.1, i6.2.2)) else ((spec_reader_word.f i6.2.1 i6.2.2 (⟨#[116, 114, 117, 101]⟩ : ByteArray)).bind fun g8 => (if g8.1 = true then (some (2, g7, g8.2.2, ([] : List (S90)), ([] : List (S60)), x5, g8.2.1, g8.2.2)) else (some (q1, g7, g8.2.2, ([] : List (S90)), ([] : List (S60)), false, g8.2.1, g8.2.2))))))))
def spec_reader_value.f : Nat → ByteArray → Int → Option (Int × Int × Int × (List (S90)) × (List (S60)) × Bool × ByteArray × Int)
 | 0, _, _ => none
 | k + 1, s0_0, s0_1 => (spec_reader_here.f s0_0 s0_1).bind fun b1 => (if b1.1 = 123 then ((spec_reader_members.f k b1.2.1 b1.2.2).bind fun e5 => (some (6, s0_1, e5.2.2.2.2, e5.1, e5.2.1, e5.2.2.1, e5.2.2.2.1, e5.2.2.2.2))) else (if b1.1 = 91 then ((spec_reader_elements.f k b1.2.1 b1.2.2).bind fun e7 => (some (5, s0_1, e7.2.2.2, ([] : List (S90)), e7.1, e7.2.1, e7.2.2.1, e7.2.2.2))) else (if b1.1 = 34 then ((spec_reader_quoted.f k b1.2.1 b1.2.2).bind fun f7 => (some (4, s0_1, f7.2.2, ([] : List (S90)), ([] : List (S60)), f7.1, f7.2.1, f7.2.2))) else (if b1.1 = 45 then (spec_reader_value.j0 k true true b1.2.1 b1.2.2 0 s0_1 0) else (if 48 ≤ b1.1 then (spec_reader_value.j0 k true (decide (b1.1 ≤ 57)) b1.2.1 b1.2.2 0 s0_1 0) else (spec_reader_value.j0 k true false b1.2.1 b1.2.2 0 s0_1 0))))))
def spec_reader_members.l0 : Nat → List (S90) → List (S60) → ByteArray → Int → Option ((List (S90)) × (List (S60)) × Bool × ByteArray × Int)
 | 0, _, _, _, _ => none
 | k + 1, x5, x6, f6, e6 => (spec_reader_here.f f6 e6).bind fun i9 => (if i9.1 = 34 then ((spec_reader_quoted.f k i9.2.1 i9.2.2).bind fun m8 => (spec_reader_members.j1 k x5 x6 e6 (!m8.1) m8.2.1 m8.2.2)) else (spec_reader_members.j1 k x5 x6 e6 true i9.2.1 i9.2.2))
def spec_reader_members.j1 : Nat → List (S90) → List (S60) → Int → Bool → ByteArray → Int → Option ((List (S90)) × (List (S60)) × Bool × ByteArray × Int)
 | 0, _, _, _, _, _, _ => none
 | k + 1, x5, x6, x7, x32, f6, e6 => if x32 = true then (some (([] : List (S90)), ([] : List (S60)), false, f6, e6)) else (if x5.length < 8796093022208 then ((some (x5 ++ [(⟨x7, e6⟩ : S90)] : List (S90))).bind fun f8 => ((spec_reader_blanks.f k f6 e6).bind fun j2 => ((spec_reader_take.f j2.1 j2.2 58).bind fun e8 => (if e8.1 = true then ((spec_reader_blanks.f k e8.2.1 e8.2.2).bind fun j3 => ((spec_reader_value.f k j3.1 j3.2).bind fun d3 => (if d3.2.2.2.2.2.1 = true then (if x6.length < 1954687338268 then ((some (x6 ++ [(⟨d3.1, d3.2.1, d3.2.2.1, d3.2.2.2.1, d3.2.2.2.2.1⟩ : S60)] : List (S60))).bind fun g9 => ((spec_reader_blanks.f k d3.2.2.2.2.2.2.1 d3.2.2.2.2.2.2.2).bind fun g3 => ((spec_reader_take.f g3.1 g3.2 125).bind fun d6 => (if d6.1 = true then (some (f8, g9, true, d6.2.1, d6.2.2)) else ((spec_reader_take.f d6.2.1 d6.2.2 44).bind fun d7 => (if d7.1 = true then ((spec_reader_blanks.f k d7.2.1 d7.2.2).bind fun g4 => (spec_reader_members.l0 k f8 g9 g4.1 g4.2)) else (some (([] : List (S90)), ([] : List (S60)), false, d7.2.1, d7.2.2)))))))) else (none)) else (some (([] : List (S90)), ([] : List (S60)), false, d3.2.2.2.2.2.2.1, d3.2.2.2.2.2.2.2))))) else (some (([] : List (S90)), ([] : List (S60)), false, e8.2.1, e8.2.2)))))) else (none))
def spec_reader_members.f : Nat → ByteArray → Int → Option ((List (S90)) × (List (S60)) × Bool × ByteArray × Int)
 | 0, _, _ => none
 | k + 1, s0_0, s0_1 => (spec_reader_blanks.f k s0_0 (wrap64 (s0_1 + 1))).bind fun j4 => ((spec_reader_take.f j4.1 j4.2 125).bind fun e9 => (if e9.1 = true then (some (([] : List (S90)), ([] : List (S60)), true, e9.2.1, e9.2.2)) else (spec_reader_members.l0 k ([] : List (S90)) ([] : List (S60)) e9.2.1 e9.2.2)))
def spec_reader_elements.l0 : Nat → List (S60) → ByteArray → Int → Option ((List (S60)) × Bool × ByteArray × Int)
 | 0, _, _, _ => none
 | k + 1, x4, f6, e6 => (spec_reader_value.f k f6 e6).bind fun f5 => (if f5.2.2.2.2.2.1 = true then (if x4.length < 1954687338268 then ((some (x4 ++ [(⟨f5.1, f5.2.1, f5.2.2.1, f5.2.2.2.1, f5.2.2.2.2.1⟩ : S60)] : List (S60))).bind fun l3 => ((spec_reader_blanks.f k f5.2.2.2.2.2.2.1 f5.2.2.2.2.2.2.2).bind fun j5 => ((spec_reader_take.f j5.1 j5.2 93).bind fun f0 => (if f0.1 = true then (some (l3, true, f0.2.1, f0.2.2)) else ((spec_reader_take.f f0.2.1 f0.2.2 44).bind fun f1 => (if f1.1 = true then ((spec_reader_blanks.f k f1.2.1 f1.2.2).bind fun j6 => (spec_reader_elements.l0 k l3 j6.1 j6.2)) else (some (([] : List (S60)), false, f1.2.1, f1.2.2)))))))) else (none)) else (some (([] : List (S60)), false, f5.2.2.2.2.2.2.1, f5.2.2.2.2.2.2.2)))
def spec_reader_elements.f : Nat → ByteArray → Int → Option ((List (S60)) × Bool × ByteArray × Int)
 | 0, _, _ => none
 | k + 1, s0_0, s0_1 => (spec_reader_blanks.f k s0_0 (wrap64 (s0_1 + 1))).bind fun j7 => ((spec_reader_take.f j7.1 j7.2 93).bind fun f2 => (if f2.1 = true then (some (([] : List (S60)), true, f2.2.1, f2.2.2)) else (spec_reader_elements.l0 k ([] : List (S60)) f2.2.1 f2.2.2)))
end
theorem spec_reader_value.mono_g : ∀ k, (∀ y0 y1, LeO (spec_reader_value.f k y0 y1) (spec_reader_value.f (k + 1) y0 y1)) ∧ (∀ y0 y1 y2 y3 y4 y5 y6, LeO (spec_reader_value.j0 k y0 y1 y2 y3 y4 y5 y6) (spec_reader_value.j0 (k + 1) y0 y1 y2 y3 y4 y5 y6)) ∧ (∀ y0 y1, LeO (spec_reader_members.f k y0 y1) (spec_reader_members.f (k + 1) y0 y1)) ∧ (∀ y0 y1 y2 y3, LeO (spec_reader_members.l0 k y0 y1 y2 y3) (spec_reader_members.l0 (k + 1) y0 y1 y2 y3)) ∧ (∀ y0 y1 y2 y3 y4 y5, LeO (spec_reader_members.j1 k y0 y1 y2 y3 y4 y5) (spec_reader_members.j1 (k + 1) y0 y1 y2 y3 y4 y5)) ∧ (∀ y0 y1, LeO (spec_reader_elements.f k y0 y1) (spec_reader_elements.f (k + 1) y0 y1)) ∧ (∀ y0 y1 y2, LeO (spec_reader_elements.l0 k y0 y1 y2) (spec_reader_elements.l0 (k + 1) y0 y1 y2))
 | 0 => ⟨fun _ _ r h => by simp [spec_reader_value.f] at h, fun _ _ _ _ _ _ _ r h => by simp [spec_reader_value.j0] at h, fun _ _ r h => by simp [spec_reader_members.f] at h, fun _ _ _ _ r h => by simp [spec_reader_members.l0] at h, fun _ _ _ _ _ _ r h => by simp [spec_reader_members.j1] at h, fun _ _ r h => by simp [spec_reader_elements.f] at h, fun _ _ _ r h => by simp [spec_reader_elements.l0] at h⟩
 | k + 1 => by
  obtain ⟨ih0, ih1, ih2, ih3, ih4, ih5, ih6⟩ := spec_reader_value.mono_g k
  refine ⟨?_, ?_, ?_, ?_, ?_, ?_, ?_⟩
  ·intro y0 y1
   unfold spec_reader_value.f
   repeat' first
   | (with_reducible exact ih0 _ _)
   | (with_reducible exact ih1 _ _ _ _ _ _ _)
   | (with_reducible exact ih2 _ _)
   | (with_reducible exact ih3 _ _ _ _)
   | (with_reducible exact ih4 _ _ _ _ _ _)
   | (with_reducible exact ih5 _ _)
   | (with_reducible exact ih6 _ _ _)
   | (with_reducible exact spec_reader_blanks.mono _ _ _)
   | (with_reducible exact spec_reader_number.mono _ _ _)
   | (with_reducible exact spec_reader_quoted.mono _ _ _)
   | (with_reducible exact LeO.refl _)
   | (with_reducible exact LeO.none _)
   | (with_reducible refine LeO.ite ?_ ?_)
   | (with_reducible refine LeO.bind ?_ (fun _ => ?_))
   | exact ih0 _ _
   | exact ih1 _ _ _ _ _ _ _
   | exact ih2 _ _
   | exact ih3 _ _ _ _
   | exact ih4 _ _ _ _ _ _
   | exact ih5 _ _
   | exact ih6 _ _ _
   | exact spec_reader_blanks.mono _ _ _
   | exact spec_reader_number.mono _ _ _
   | exact spec_reader_quoted.mono _ _ _
   | exact LeO.none _
   | refine LeO.ite ?_ ?_
   | refine LeO.bind ?_ (fun _ => ?_)
  ·intro y0 y1 y2 y3 y4 y5 y6
   unfold spec_reader_value.j0
   repeat' first
   | (with_reducible exact ih0 _ _)
   | (with_reducible exact ih1 _ _ _ _ _ _ _)
   | (with_reducible exact ih2 _ _)
   | (with_reducible exact ih3 _ _ _ _)
   | (with_reducible exact ih4 _ _ _ _ _ _)
   | (with_reducible exact ih5 _ _)
   | (with_reducible exact ih6 _ _ _)
   | (with_reducible exact spec_reader_blanks.mono _ _ _)
   | (with_reducible exact spec_reader_number.mono _ _ _)
   | (with_reducible exact spec_reader_quoted.mono _ _ _)
   | (with_reducible exact LeO.refl _)
   | (with_reducible exact LeO.none _)
   | (with_reducible refine LeO.ite ?_ ?_)
   | (with_reducible refine LeO.bind ?_ (fun _ => ?_))
   | exact ih0 _ _
   | exact ih1 _ _ _ _ _ _ _
   | exact ih2 _ _
   | exact ih3 _ _ _ _
   | exact ih4 _ _ _ _ _ _
   | exact ih5 _ _
   | exact ih6 _ _ _
   | exact spec_reader_blanks.mono _ _ _
   | exact spec_reader_number.mono _ _ _
   | exact spec_reader_quoted.mono _ _ _
   | exact LeO.none _
   | refine LeO.ite ?_ ?_
   | refine LeO.bind ?_ (fun _ => ?_)
  ·intro y0 y1
   unfold spec_reader_members.f
   repeat' first
   | (with_reducible exact ih0 _ _)
   | (with_reducible exact ih1 _ _ _ _ _ _ _)
   | (with_reducible exact ih2 _ _)
   | (with_reducible exact ih3 _ _ _ _)
   | (with_reducible exact ih4 _ _ _ _ _ _)
   | (with_reducible exact ih5 _ _)
   | (with_reducible exact ih6 _ _ _)
   | (with_reducible exact spec_reader_blanks.mono _ _ _)
   | (with_reducible exact spec_reader_number.mono _ _ _)
   | (with_reducible exact spec_reader_quoted.mono _ _ _)
   | (with_reducible exact LeO.refl _)
   | (with_reducible exact LeO.none _)
   | (with_reducible refine LeO.ite ?_ ?_)
   | (with_reducible refine LeO.bind ?_ (fun _ => ?_))
   | exact ih0 _ _
   | exact ih1 _ _ _ _ _ _ _
   | exact ih2 _ _
   | exact ih3 _ _ _ _
   | exact ih4 _ _ _ _ _ _
   | exact ih5 _ _
   | exact ih6 _ _ _
   | exact spec_reader_blanks.mono _ _ _
   | exact spec_reader_number.mono _ _ _
   | exact spec_reader_quoted.mono _ _ _
   | exact LeO.none _
   | refine LeO.ite ?_ ?_
   | refine LeO.bind ?_ (fun _ => ?_)
  ·intro y0 y1 y2 y3
   unfold spec_reader_members.l0
   repeat' first
   | (with_reducible exact ih0 _ _)
   | (with_reducible exact ih1 _ _ _ _ _ _ _)
   | (with_reducible exact ih2 _ _)
   | (with_reducible exact ih3 _ _ _ _)
   | (with_reducible exact ih4 _ _ _ _ _ _)
   | (with_reducible exact ih5 _ _)
   | (with_reducible exact ih6 _ _ _)
   | (with_reducible exact spec_reader_blanks.mono _ _ _)
   | (with_reducible exact spec_reader_number.mono _ _ _)
   | (with_reducible exact spec_reader_quoted.mono _ _ _)
   | (with_reducible exact LeO.refl _)
   | (with_reducible exact LeO.none _)
   | (with_reducible refine LeO.ite ?_ ?_)
   | (with_reducible refine LeO.bind ?_ (fun _ => ?_))
   | exact ih0 _ _
   | exact ih1 _ _ _ _ _ _ _
   | exact ih2 _ _
   | exact ih3 _ _ _ _
   | exact ih4 _ _ _ _ _ _
   | exact ih5 _ _
   | exact ih6 _ _ _
   | exact spec_reader_blanks.mono _ _ _
   | exact spec_reader_number.mono _ _ _
   | exact spec_reader_quoted.mono _ _ _
   | exact LeO.none _
   | refine LeO.ite ?_ ?_
   | refine LeO.bind ?_ (fun _ => ?_)
  ·intro y0 y1 y2 y3 y4 y5
   unfold spec_reader_members.j1
   repeat' first
   | (with_reducible exact ih0 _ _)
   | (with_reducible exact ih1 _ _ _ _ _ _ _)
   | (with_reducible exact ih2 _ _)
   | (with_reducible exact ih3 _ _ _ _)
   | (with_reducible exact ih4 _ _ _ _ _ _)
   | (with_reducible exact ih5 _ _)
   | (with_reducible exact ih6 _ _ _)
   | (with_reducible exact spec_reader_blanks.mono _ _ _)
   | (with_reducible exact spec_reader_number.mono _ _ _)
   | (with_reducible exact spec_reader_quoted.mono _ _ _)
   | (with_reducible exact LeO.refl _)
   | (with_reducible exact LeO.none _)
   | (with_reducible refine LeO.ite ?_ ?_)
   | (with_reducible refine LeO.bind ?_ (fun _ => ?_))
   | exact ih0 _ _
   | exact ih1 _ _ _ _ _ _ _
   | exact ih2 _ _
   | exact ih3 _ _ _ _
   | exact ih4 _ _ _ _ _ _
   | exact ih5 _ _
   | exact ih6 _ _ _
   | exact spec_reader_blanks.mono _ _ _
   | exact spec_reader_number.mono _ _ _
   | exact spec_reader_quoted.mono _ _ _
   | exact LeO.none _
   | refine LeO.ite ?_ ?_
   | refine LeO.bind ?_ (fun _ => ?_)
  ·intro y0 y1
   unfold spec_reader_elements.f
   repeat' first
   | (with_reducible exact ih0 _ _)
   | (with_reducible exact ih1 _ _ _ _ _ _ _)
   | (with_reducible exact ih2 _ _)
   | (with_reducible exact ih3 _ _ _ _)
   | (with_reducible exact ih4 _ _ _ _ _ _)
   | (with_reducible exact ih5 _ _)
   | (with_reducible exact ih6 _ _ _)
   | (with_reducible exact spec_reader_blanks.mono _ _ _)
   | (with_reducible exact spec_reader_number.mono _ _ _)
   | (with_reducible exact spec_reader_quoted.mono _ _ _)
   | (with_reducible exact LeO.refl _)
   | (with_reducible exact LeO.none _)
   | (with_reducible refine LeO.ite ?_ ?_)
   | (with_reducible refine LeO.bind ?_ (fun _ => ?_))
   | exact ih0 _ _
   | exact ih1 _ _ _ _ _ _ _
   | exact ih2 _ _
   | exact ih3 _ _ _ _
   | exact ih4 _ _ _ _ _ _
   | exact ih5 _ _
   | exact ih6 _ _ _
   | exact spec_reader_blanks.mono _ _ _
   | exact spec_reader_number.mono _ _ _
   | exact spec_reader_quoted.mono _ _ _
   | exact LeO.none _
   | refine LeO.ite ?_ ?_
   | refine LeO.bind ?_ (fun _ => ?_)
  ·intro y0 y1 y2
   unfold spec_reader_elements.l0
   repeat' first
   | (with_reducible exact ih0 _ _)
   | (with_reducible exact ih1 _ _ _ _ _ _ _)
   | (with_reducible exact ih2 _ _)
   | (with_reducible exact ih3 _ _ _ _)
   | (with_reducible exact ih4 _ _ _ _ _ _)
   | (with_reducible exact ih5 _ _)
   | (with_reducible exact ih6 _ _ _)
   | (with_reducible exact spec_reader_blanks.mono _ _ _)
   | (with_reducible exact spec_reader_number.mono _ _ _)
   | (with_reducible exact spec_reader_quoted.mono _ _ _)
   | (with_reducible exact LeO.refl _)
   | (with_reducible exact LeO.none _)
   | (with_reducible refine LeO.ite ?_ ?_)
   | (with_reducible refine LeO.bind ?_ (fun _ => ?_))
   | exact ih0 _ _
   | exact ih1 _ _ _ _ _ _ _
   | exact ih2 _ _
   | exact ih3 _ _ _ _
   | exact ih4 _ _ _ _ _ _
   | exact ih5 _ _
   | exact ih6 _ _ _
   | exact spec_reader_blanks.mono _ _ _
   | exact spec_reader_number.mono _ _ _
   | exact spec_reader_quoted.mono _ _ _
   | exact LeO.none _
   | refine LeO.ite ?_ ?_
   | refine LeO.bind ?_ (fun _ => ?_)
theorem spec_reader_value.mono : ∀ a0 a1 k, LeO (spec_reader_value.f k a0 a1) (spec_reader_value.f (k + 1) a0 a1) := fun a0 a1 k => (spec_reader_value.mono_g k).1 a0 a1
abbrev S37 (j_ : Nat) : Prop := ∀ (g : Nat) (s0_0 : ByteArray) (s0_1 : Int) (r1 : Int) (r2 : Int) (r3 : Int) (r4 : List (S90)) (r5 : List (S60)) (r6 : Bool) (r7 : ByteArray) (r8 : Int) (w0 w : World) (hI : IsS70 w0 w g s0_0 s0_1) (hB : Below w0.heap.size w0 w) (h : spec_reader_value.f j_ s0_0 s0_1 = some (r1, r2, r3, r4, r5, r6, r7, r8)), Calls Tryz.prog 37 #[.pointer (some ⟨g, 0, none⟩)] w fun e w' => ∃ v3_ v4_ : Value, e = .returned (.tuple #[.agg #[.int .i64 r1, .int .i64 r2, .int .i64 r3, v3_, v4_], .bool r6]) ∧ Kd.R k90 90 w' w.heap.size (fun _ => True) v3_ r4 ∧ Kd.R k60 60 w' w.heap.size (fun k_ => some k_ ≠ (v3_ : Value).ownBlock) v4_ r5 ∧ IsS70 w0 w' g r7 r8 ∧ Below w0.heap.size w0 w' ∧ KeepBut w w' g none
abbrev S61 (j_ : Nat) : Prop := ∀ (g : Nat) (s0_0 : ByteArray) (s0_1 : Int) (r1 : List (S90)) (r2 : List (S60)) (r3 : Bool) (r4 : ByteArray) (r5 : Int) (w0 w : World) (hI : IsS70 w0 w g s0_0 s0_1) (hB : Below w0.heap.size w0 w) (h : spec_reader_members.f j_ s0_0 s0_1 = some (r1, r2, r3, r4, r5)), Calls Tryz.prog 61 #[.pointer (some ⟨g, 0, none⟩)] w fun e w' => ∃ v0_ v1_ : Value, e = .returned (.tuple #[v0_, v1_, .bool r3]) ∧ Kd.R k90 90 w' w.heap.size (fun _ => True) v0_ r1 ∧ Kd.R k60 60 w' w.heap.size (fun k_ => some k_ ≠ (v0_ : Value).ownBlock) v1_ r2 ∧ IsS70 w0 w' g r4 r5 ∧ Below w0.heap.size w0 w' ∧ KeepBut w w' g none
abbrev S62 (j_ : Nat) : Prop := ∀ (g : Nat) (s0_0 : ByteArray) (s0_1 : Int) (r1 : List (S60)) (r2 : Bool) (r3 : ByteArray) (r4 : Int) (w0 w : World) (hI : IsS70 w0 w g s0_0 s0_1) (hB : Below w0.heap.size w0 w) (h : spec_reader_elements.f j_ s0_0 s0_1 = some (r1, r2, r3, r4)), Calls Tryz.prog 62 #[.pointer (some ⟨g, 0, none⟩)] w fun e w' => ∃ v0_ : Value, e = .returned (.tuple #[v0_, .bool r2]) ∧ Kd.R k60 60 w' w.heap.size (fun _ => True) v0_ r1 ∧ IsS70 w0 w' g r3 r4 ∧ Below w0.heap.size w0 w' ∧ KeepBut w w' g none
set_option maxHeartbeats 8000000 in
set_option maxRecDepth 100000 in
theorem spec_reader_value.calls_step (k : Nat) (ih_37 : ∀ j_, j_ < k → S37 j_) (ih_61 : ∀ j_, j_ < k → S61 j_) (ih_62 : ∀ j_, j_ < k → S62 j_) : S37 k := by
 intro g s0_0 s0_1 r1 r2 r3 r4 r5 r6 r7 r8 w0 w hI hB h
 cases k with
 | zero => exact absurd h (by simp [spec_reader_value.f])
 | succ k =>
 simp only [spec_reader_value.f] at h
 have hu60 := Tryz.underlying60
 have HI0 := sd hI
 have HK := sd (KeepBut.refl w g none)
 have HL := sd hB.size
 clear hI
 have HW0 := sd hB.size
 have HB := sd hB
 clear hB
 have H : ((spec_reader_here.f s0_0 s0_1).bind fun b1 => (if b1.1 = 123 then ((spec_reader_members.f k b1.2.1 b1.2.2).bind fun e5 => (some (6, s0_1, e5.2.2.2.2, e5.1, e5.2.1, e5.2.2.1, e5.2.2.2.1, e5.2.2.2.2))) else (if b1.1 = 91 then ((spec_reader_elements.f k b1.2.1 b1.2.2).bind fun e7 => (some (5, s0_1, e7.2.2.2, ([] : List (S90)), e7.1, e7.2.1, e7.2.2.1, e7.2.2.2))) else (if b1.1 = 34 then ((spec_reader_quoted.f k b1.2.1 b1.2.2).bind fun f7 => (some (4, s0_1, f7.2.2, ([] : List (S90)), ([] : List (S60)), f7.1, f7.2.1, f7.2.2))) else (if b1.1 = 45 then (spec_reader_value.j0 k true true b1.2.1 b1.2.2 0 s0_1 0) else (if 48 ≤ b1.1 then (spec_reader_value.j0 k true (decide (b1.1 ≤ 57)) b1.2.1 b1.2.2 0 s0_1 0) else (spec_reader_value.j0 k true false b1.2.1 b1.2.2 0 s0_1 0))))))) = some (r1, r2, r3, r4, r5, r6, r7, r8) := h
 clear h
 replace H := Option.bind_eq_some_iff.mp H
 obtain ⟨⟨d0, f3, f4⟩, A20, H⟩ := H
 try dsimp only at H
 have A2 := sd A20
 clear A20
 by_cases c3 : d0 = 123
 ·rw [if_pos c3] at H
  have c3b0 : (d0 == 123) = true := beq_iff_eq.mpr c3
  have c3b1 : (d0 != 123) = false := bne_eq_false_iff_eq.mpr c3
  clear c3
  replace H := Option.bind_eq_some_iff.mp H
  obtain ⟨⟨q2, q3, x9, y7, q4⟩, A40, H⟩ := H
  try dsimp only at H
  have A4 := sd A40
  clear A40
  simp only [Option.some.injEq, Prod.mk.injEq] at H
  obtain ⟨rfl, rfl, rfl, rfl, rfl, rfl, rfl, rfl⟩ := H
  go_enter Tryz.func37, Tryz.ntmps37
  go_wp2_with (first | ((with_reducible refine gate_dst (N := 2) rfl ?_); refine box_event (by rfl) (N := 2) (by rfl) (cs := #[.int .i64 0, .int .i64 0, .int .i64 0, .slice none 0 0, .slice none 0 0]) (t := 60) tS ?_; intro a5 hg w5 hbox hb; have HB := sd (below_step tB hb); have b2 := sd (hbox); have m9 := sd (leK (w := w) (g := g) hg tK); have n0 := sd (Nat.le_trans HW0.out (leK (w := w) (g := g) hg tK)); have HK := sd (KeepBut.trans tK (KeepBut.of_below hb g none) (.inl rfl)); have NB0_166 := sd (neL hg (IsS70.lt (g := g) tI)); have a9 := sd (neR hg (IsS70.lt (g := g) tI)); have HI0 := sd (IsS70.below tI hb); clear hb hbox hg; obtain ⟨z0, z1, y0, y1⟩ := IsS70.cells HI0.out) | ((with_reducible refine gate_dst (N := 4) rfl ?_); refine box_event (by rfl) (N := 4) (by rfl) (cs := #[.int .i64 0, .int .i64 0, .int .i64 0, .slice none 0 0, .slice none 0 0]) (t := 60) tS ?_; intro b7 hg w7 hbox hb; have b2 := sd (blk_below (g := a5) tL hb); have HB := sd (below_step tB hb); have b0 := sd (hbox); have n1 := sd (leK (w := w) (g := g) hg tK); have n2 := sd (Nat.le_trans HW0.out (leK (w := w) (g := g) hg tK)); have HK := sd (KeepBut.trans tK (KeepBut.of_below hb g none) (.inl rfl)); have c8 := sd (neL hg (blk_lt (g := a5) tL)); have c9 := sd (neR hg (blk_lt (g := a5) tL)); have NB0_167 := sd (neL hg (IsS70.lt (g := g) tI)); have a7 := sd (neR hg (IsS70.lt (g := g) tI)); have HI0 := sd (IsS70.below tI hb); clear hb hbox hg; have hnb8 := c9.out; have hnc8 := c8.out; have hnb9 := a7.out; have hnc9 := NB0_167.out; obtain ⟨z0, z1, z2, z3, z4, y0, y1, y2, y3, y4⟩ := blk5 b0.out) | ((with_reducible refine gate_callee (f := 60) rfl ?_); refine goesL_ (some 13) rfl rfl Tryz.func60 (by kernel_rfl) rfl #[.pointer (some ⟨g, 0, none⟩)] rfl tM ?_; (with_reducible refine (spec_reader_here.calls g s0_0 s0_1 d0 f3 f4 w0 _ ?_ ?_ A2.out).mono ?_); exact tI; exact tB; rintro e w11 ⟨rfl, hi, hb, hk⟩; refine ⟨_, rfl, ?_⟩; have b2 := sd (KeepBut.blk hk (g' := a5) tC a9.out (by simp)); have b0 := sd (KeepBut.blk hk (g' := b7) tC a7.out (by simp)); have HK := sd (KeepBut.trans tK hk (.inl rfl)); have HB := sd (hb); have HI0 := sd (hi); clear hb hk hi; obtain ⟨z0, z1, z2, z3, z4, y0, y1, y2, y3, y4⟩ := blk5 b0.out) | ((with_reducible refine gate_callee (f := 61) rfl ?_); refine goesL_ (some 20) rfl rfl Tryz.func61 (by kernel_rfl) rfl #[.pointer (some ⟨g, 0, none⟩)] rfl tM ?_; (with_reducible refine (ih_61 k (by omega) g f3 f4 q2 q3 x9 y7 q4 w0 _ ?_ ?_ A4.out).mono ?_); exact tI; exact tB; rintro e w13 ⟨ab8, ab9, rfl, ho0, ho1, hi, hb, hk⟩; refine ⟨_, rfl, ?_⟩; have b2 := sd (KeepBut.blk hk (g' := a5) tC a9.out (by simp)); have b0 := sd (KeepBut.blk hk (g' := b7) tC a7.out (by simp)); have p8 := sd (Kd.R_lower ho0 (keep_size (w := w) (g := g) (row := none) tK)); have p9 := sd (Kd.R_lower (Kd.R_newB (Kd.R_newB ho1 (g := a5) tC) (g := b7) tC) (keep_size (w := w) (g := g) (row := none) tK)); have HK := sd (KeepBut.trans tK hk (.inl rfl)); have HB := sd (hb); have HI0 := sd (hi); clear hb hk hi ho0 ho1; obtain ⟨Ao14, co14, eo14⟩ := Kd.R_slice p8.out; subst eo14; obtain ⟨z0, z1, z2, z3, z4, y0, y1, y2, y3, y4⟩ := blk5 b0.out; obtain ⟨Ao16, co16, eo16⟩ := Kd.R_slice p9.out; subst eo16; obtain ⟨z0, z1, y0, y1⟩ := IsS70.cells HI0.out; have hnb18 := a9.out; have hnc18 := NB0_166.out; obtain ⟨z0, z1, z2, z3, z4, y0, y1, y2, y3, y4⟩ := blk5 b2.out))
  refine bodyPost_ret (results_ct rfl _ _ a5 60 #[.int .i64 6, .int .i64 s0_1, .int .i64 q4, .slice Ao14 q2.length co14, .slice Ao16 q3.length co16] (0, 0) _ rfl tC Tryz.underlying60 rfl (by kernel_rfl)) rfl ?_
  exact ⟨_, _, tE, Kd.R_mono (uR (Kd.R_types (Kd.R_types p8.out b0.out (by decide)) b2.out (by decide))) (fun _ hk => trivial), Kd.R_mono (uR (Kd.R_mono (Kd.R_mono p9.out (fun k_ hk => (⟨hk, hk.2⟩ : _ ∧ k_ ≠ b7))) (fun k_ hk => (⟨hk, hk.1.1.2⟩ : _ ∧ k_ ≠ a5)))) (fun _ hk => hk.1.1.1.1), tI, tB, tK⟩
 ·rw [if_neg c3] at H
  have c3b0 : (d0 == 123) = false := beq_eq_false_iff_ne.mpr c3
  have c3b1 : (d0 != 123) = true := bne_iff_ne.mpr c3
  by_cases c20 : d0 = 91
  ·rw [if_pos c20] at H
   have c20b0 : (d0 == 91) = true := beq_iff_eq.mpr c20
   have c20b1 : (d0 != 91) = false := bne_eq_false_iff_eq.mpr c20
   clear c20
   replace H := Option.bind_eq_some_iff.mp H
   obtain ⟨⟨q5, y8, y9, q6⟩, m0, H⟩ := H
   try dsimp only at H
   have A21 := sd m0
   clear m0
   simp only [Option.some.injEq, Prod.mk.injEq] at H
   obtain ⟨rfl, rfl, rfl, rfl, rfl, rfl, rfl, rfl⟩ := H
   go_enter Tryz.func37, Tryz.ntmps37
   go_wp2_with (first | ((with_reducible refine gate_dst (N := 2) rfl ?_); refine box_event (by rfl) (N := 2) (by rfl) (cs := #[.int .i64 0, .int .i64 0, .int .i64 0, .slice none 0 0, .slice none 0 0]) (t := 60) tS ?_; intro a5 hg w22 hbox hb; have HB := sd (below_step tB hb); have b2 := sd (hbox); have m9 := sd (leK (w := w) (g := g) hg tK); have n0 := sd (Nat.le_trans HW0.out (leK (w := w) (g := g) hg tK)); have HK := sd (KeepBut.trans tK (KeepBut.of_below hb g none) (.inl rfl)); have NB0_166 := sd (neL hg (IsS70.lt (g := g) tI)); have a9 := sd (neR hg (IsS70.lt (g := g) tI)); have HI0 := sd (IsS70.below tI hb); clear hb hbox hg; obtain ⟨z0, z1, y0, y1⟩ := IsS70.cells HI0.out) | ((with_reducible refine gate_dst (N := 4) rfl ?_); refine box_event (by rfl) (N := 4) (by rfl) (cs := #[.int .i64 0, .int .i64 0, .int .i64 0, .slice none 0 0, .slice none 0 0]) (t := 60) tS ?_; intro b7 hg w24 hbox hb; have b2 := sd (blk_below (g := a5) tL hb); have HB := sd (below_step tB hb); have b0 := sd (hbox); have n1 := sd (leK (w := w) (g := g) hg tK); have n2 := sd (Nat.le_trans HW0.out (leK (w := w) (g := g) hg tK)); have HK := sd (KeepBut.trans tK (KeepBut.of_below hb g none) (.inl rfl)); have c8 := sd (neL hg (blk_lt (g := a5) tL)); have c9 := sd (neR hg (blk_lt (g := a5) tL)); have NB0_167 := sd (neL hg (IsS70.lt (g := g) tI)); have a7 := sd (neR hg (IsS70.lt (g := g) tI)); have HI0 := sd (IsS70.below tI hb); clear hb hbox hg; have hnb25 := c9.out; have hnc25 := c8.out; have hnb26 := a7.out; have hnc26 := NB0_167.out; obtain ⟨z0, z1, z2, z3, z4, y0, y1, y2, y3, y4⟩ := blk5 b0.out) | ((with_reducible refine gate_callee (f := 60) rfl ?_); refine goesL_ (some 13) rfl rfl Tryz.func60 (by kernel_rfl) rfl #[.pointer (some ⟨g, 0, none⟩)] rfl tM ?_; (with_reducible refine (spec_reader_here.calls g s0_0 s0_1 d0 f3 f4 w0 _ ?_ ?_ A2.out).mono ?_); exact tI; exact tB; rintro e w28 ⟨rfl, hi, hb, hk⟩; refine ⟨_, rfl, ?_⟩; have b2 := sd (KeepBut.blk hk (g' := a5) tC a9.out (by simp)); have b0 := sd (KeepBut.blk hk (g' := b7) tC a7.out (by simp)); have HK := sd (KeepBut.trans tK hk (.inl rfl)); have HB := sd (hb); have HI0 := sd (hi); clear hb hk hi; obtain ⟨z0, z1, z2, z3, z4, y0, y1, y2, y3, y4⟩ := blk5 b0.out) | ((with_reducible refine gate_callee (f := 62) rfl ?_); refine goesL_ (some 32) rfl rfl Tryz.func62 (by kernel_rfl) rfl #[.pointer (some ⟨g, 0, none⟩)] rfl tM ?_; (with_reducible refine (ih_62 k (by omega) g f3 f4 q5 y8 y9 q6 w0 _ ?_ ?_ A21.out).mono ?_); exact tI; exact tB; rintro e w30 ⟨ac0, rfl, ho0, hi, hb, hk⟩; refine ⟨_, rfl, ?_⟩; have b2 := sd (KeepBut.blk hk (g' := a5) tC a9.out (by simp)); have b0 := sd (KeepBut.blk hk (g' := b7) tC a7.out (by simp)); have q0 := sd (Kd.R_lower (Kd.R_newB (Kd.R_newB ho0 (g := a5) tC) (g := b7) tC) (keep_size (w := w) (g := g) (row := none) tK)); have HK := sd (KeepBut.trans tK hk (.inl rfl)); have HB := sd (hb); have HI0 := sd (hi); clear hb hk hi ho0; obtain ⟨Ao31, co31, eo31⟩ := Kd.R_slice q0.out; subst eo31; obtain ⟨z0, z1, z2, z3, z4, y0, y1, y2, y3, y4⟩ := blk5 b0.out; obtain ⟨z0, z1, y0, y1⟩ := IsS70.cells HI0.out; have hnb34 := a9.out; have hnc34 := NB0_166.out; obtain ⟨z0, z1, z2, z3, z4, y0, y1, y2, y3, y4⟩ := blk5 b2.out))
   refine bodyPost_ret (results_ct rfl _ _ a5 60 #[.int .i64 5, .int .i64 s0_1, .int .i64 q6, .slice none 0 0, .slice Ao31 q5.length co31] (0, 0) _ rfl tC Tryz.underlying60 rfl (by kernel_rfl)) rfl ?_
   exact ⟨_, _, tE, tN, Kd.R_mono (uR (Kd.R_mono (Kd.R_mono q0.out (fun k_ hk => (⟨hk, hk.2⟩ : _ ∧ k_ ≠ b7))) (fun k_ hk => (⟨hk, hk.1.1.2⟩ : _ ∧ k_ ≠ a5)))) (fun _ hk => (by simp [Value.ownBlock])), tI, tB, tK⟩
  ·rw [if_neg c20] at H
   have c20b0 : (d0 == 91) = false := beq_eq_false_iff_ne.mpr c20
   have c20b1 : (d0 != 91) = true := bne_iff_ne.mpr c20
   by_cases c36 : d0 = 34
   ·rw [if_pos c36] at H
    have c36b0 : (d0 == 34) = true := beq_iff_eq.mpr c36
    have c36b1 : (d0 != 34) = false := bne_eq_false_iff_eq.mpr c36
    clear c36
    replace H := Option.bind_eq_some_iff.mp H
    obtain ⟨⟨z5, z6, q7⟩, q8, H⟩ := H
    try dsimp only at H
    have A37 := sd q8
    clear q8
    simp only [Option.some.injEq, Prod.mk.injEq] at H
    obtain ⟨rfl, rfl, rfl, rfl, rfl, rfl, rfl, rfl⟩ := H
    go_enter Tryz.func37, Tryz.ntmps37
    go_wp2_with (first | ((with_reducible refine gate_dst (N := 2) rfl ?_); refine box_event (by rfl) (N := 2) (by rfl) (cs := #[.int .i64 0, .int .i64 0, .int .i64 0, .slice none 0 0, .slice none 0 0]) (t := 60) tS ?_; intro a5 hg w38 hbox hb; have HB := sd (below_step tB hb); have b2 := sd (hbox); have m9 := sd (leK (w := w) (g := g) hg tK); have n0 := sd (Nat.le_trans HW0.out (leK (w := w) (g := g) hg tK)); have HK := sd (KeepBut.trans tK (KeepBut.of_below hb g none) (.inl rfl)); have NB0_166 := sd (neL hg (IsS70.lt (g := g) tI)); have a9 := sd (neR hg (IsS70.lt (g := g) tI)); have HI0 := sd (IsS70.below tI hb); clear hb hbox hg; obtain ⟨z0, z1, y0, y1⟩ := IsS70.cells HI0.out) | ((with_reducible refine gate_dst (N := 4) rfl ?_); refine box_event (by rfl) (N := 4) (by rfl) (cs := #[.int .i64 0, .int .i64 0, .int .i64 0, .slice none 0 0, .slice none 0 0]) (t := 60) tS ?_; intro b7 hg w40 hbox hb; have b2 := sd (blk_below (g := a5) tL hb); have HB := sd (below_step tB hb); have b0 := sd (hbox); have n1 := sd (leK (w := w) (g := g) hg tK); have n2 := sd (Nat.le_trans HW0.out (leK (w := w) (g := g) hg tK)); have HK := sd (KeepBut.trans tK (KeepBut.of_below hb g none) (.inl rfl)); have c8 := sd (neL hg (blk_lt (g := a5) tL)); have c9 := sd (neR hg (blk_lt (g := a5) tL)); have NB0_167 := sd (neL hg (IsS70.lt (g := g) tI)); have a7 := sd (neR hg (IsS70.lt (g := g) tI)); have HI0 := sd (IsS70.below tI hb); clear hb hbox hg; have hnb41 := c9.out; have hnc41 := c8.out; have hnb42 := a7.out; have hnc42 := NB0_167.out; obtain ⟨z0, z1, z2, z3, z4, y0, y1, y2, y3, y4⟩ := blk5 b0.out) | ((with_reducible refine gate_callee (f := 60) rfl ?_); refine goesL_ (some 13) rfl rfl Tryz.func60 (by kernel_rfl) rfl #[.pointer (some ⟨g, 0, none⟩)] rfl tM ?_; (with_reducible refine (spec_reader_here.calls g s0_0 s0_1 d0 f3 f4 w0 _ ?_ ?_ A2.out).mono ?_); exact tI; exact tB; rintro e w44 ⟨rfl, hi, hb, hk⟩; refine ⟨_, rfl, ?_⟩; have b2 := sd (KeepBut.blk hk (g' := a5) tC a9.out (by simp)); have b0 := sd (KeepBut.blk hk (g' := b7) tC a7.out (by simp)); have HK := sd (KeepBut.trans tK hk (.inl rfl)); have HB := sd (hb); have HI0 := sd (hi); clear hb hk hi; obtain ⟨z0, z1, z2, z3, z4, y0, y1, y2, y3, y4⟩ := blk5 b0.out) | ((with_reducible refine gate_callee (f := 63) rfl ?_); refine goesL_ (some 41) rfl rfl Tryz.func63 (by kernel_rfl) rfl #[.pointer (some ⟨g, 0, none⟩)] rfl tM ?_; (with_reducible refine (spec_reader_quoted.calls k g f3 f4 z5 z6 q7 w0 _ ?_ ?_ A37.out).mono ?_); exact tI; exact tB; rintro e w46 ⟨rfl, hi, hb, hk⟩; refine ⟨_, rfl, ?_⟩; have b2 := sd (KeepBut.blk hk (g' := a5) tC a9.out (by simp)); have b0 := sd (KeepBut.blk hk (g' := b7) tC a7.out (by simp)); have HK := sd (KeepBut.trans tK hk (.inl rfl)); have HB := sd (hb); have HI0 := sd (hi); clear hb hk hi; obtain ⟨z0, z1, y0, y1⟩ := IsS70.cells HI0.out; obtain ⟨z0, z1, z2, z3, z4, y0, y1, y2, y3, y4⟩ := blk5 b0.out; have hnb49 := a9.out; have hnc49 := NB0_166.out; obtain ⟨z0, z1, z2, z3, z4, y0, y1, y2, y3, y4⟩ := blk5 b2.out))
    refine bodyPost_ret (results_ct rfl _ _ a5 60 #[.int .i64 4, .int .i64 s0_1, .int .i64 q7, .slice none 0 0, .slice none 0 0] (0, 0) _ rfl tC Tryz.underlying60 rfl (by kernel_rfl)) rfl ?_
    exact ⟨_, _, tE, tN, tN, tI, tB, tK⟩
   ·rw [if_neg c36] at H
    have c36b0 : (d0 == 34) = false := beq_eq_false_iff_ne.mpr c36
    have c36b1 : (d0 != 34) = true := bne_iff_ne.mpr c36
    have HC51 := sd H
    clear H
    go_enter Tryz.func37, Tryz.ntmps37
    go_upto_region 14 with (first | ((with_reducible refine gate_dst (N := 2) rfl ?_); refine box_event (by rfl) (N := 2) (by rfl) (cs := #[.int .i64 0, .int .i64 0, .int .i64 0, .slice none 0 0, .slice none 0 0]) (t := 60) tS ?_; intro a5 hg w52 hbox hb; have HB := sd (below_step tB hb); have b2 := sd (hbox); have m9 := sd (leK (w := w) (g := g) hg tK); have n0 := sd (Nat.le_trans HW0.out (leK (w := w) (g := g) hg tK)); have HK := sd (KeepBut.trans tK (KeepBut.of_below hb g none) (.inl rfl)); have NB0_166 := sd (neL hg (IsS70.lt (g := g) tI)); have a9 := sd (neR hg (IsS70.lt (g := g) tI)); have HI0 := sd (IsS70.below tI hb); clear hb hbox hg; obtain ⟨z0, z1, y0, y1⟩ := IsS70.cells HI0.out) | ((with_reducible refine gate_dst (N := 4) rfl ?_); refine box_event (by rfl) (N := 4) (by rfl) (cs := #[.int .i64 0, .int .i64 0, .int .i64 0, .slice none 0 0, .slice none 0 0]) (t := 60) tS ?_; intro b7 hg w54 hbox hb; have b2 := sd (blk_below (g := a5) tL hb); have HB := sd (below_step tB hb); have b0 := sd (hbox); have n1 := sd (leK (w := w) (g := g) hg tK); have n2 := sd (Nat.le_trans HW0.out (leK (w := w) (g := g) hg tK)); have HK := sd (KeepBut.trans tK (KeepBut.of_below hb g none) (.inl rfl)); have c8 := sd (neL hg (blk_lt (g := a5) tL)); have c9 := sd (neR hg (blk_lt (g := a5) tL)); have NB0_167 := sd (neL hg (IsS70.lt (g := g) tI)); have a7 := sd (neR hg (IsS70.lt (g := g) tI)); have HI0 := sd (IsS70.below tI hb); clear hb hbox hg; have hnb55 := c9.out; have hnc55 := c8.out; have hnb56 := a7.out; have hnc56 := NB0_167.out; obtain ⟨z0, z1, z2, z3, z4, y0, y1, y2, y3, y4⟩ := blk5 b0.out) | ((with_reducible refine gate_callee (f := 60) rfl ?_); refine goesL_ (some 13) rfl rfl Tryz.func60 (by kernel_rfl) rfl #[.pointer (some ⟨g, 0, none⟩)] rfl tM ?_; (with_reducible refine (spec_reader_here.calls g s0_0 s0_1 d0 f3 f4 w0 _ ?_ ?_ A2.out).mono ?_); exact tI; exact tB; rintro e w58 ⟨rfl, hi, hb, hk⟩; refine ⟨_, rfl, ?_⟩; have b2 := sd (KeepBut.blk hk (g' := a5) tC a9.out (by simp)); have b0 := sd (KeepBut.blk hk (g' := b7) tC a7.out (by simp)); have HK := sd (KeepBut.trans tK hk (.inl rfl)); have HB := sd (hb); have HI0 := sd (hi); clear hb hk hi))
    (try simp only [Act.put, List.setIfInBounds_toArray, List.set_cons_zero, List.set_cons_succ])
    go_cut [42] (fun v42 wc => ∃ (kq : Nat) (x42_50 : Bool), v42 = .bool x42_50 ∧ Aside0 (spec_reader_value.j0 kq true x42_50 f3 f4 0 s0_1 0 = some (r1, r2, r3, r4, r5, r6, r7, r8)) ∧ Aside0 (kq ≤ k) ∧ Aside0 (wc.heap[a5]? = some (.cells #[.int .i64 0, .int .i64 0, .int .i64 0, (.slice none 0 0), (.slice none 0 0)] 60 (0, 0))) ∧ Aside0 (wc.heap[b7]? = some (.cells #[.int .i64 0, .int .i64 s0_1, .int .i64 0, (.slice none 0 0), (.slice none 0 0)] 60 (0, 0))) ∧ Aside0 (IsS70 w0 wc g f3 f4) ∧ Aside0 (KeepBut w wc g none) ∧ Aside0 (Below w0.heap.size w0 wc))
    case first =>
     have H := HC51.out
     clear HC51
     by_cases c59 : d0 = 45
     ·rw [if_pos c59] at H
      have c59b0 : (d0 == 45) = true := beq_iff_eq.mpr c59
      have c59b1 : (d0 != 45) = false := bne_eq_false_iff_eq.mpr c59
      clear c59
      (first | rw [c59b0] | (simp only [i64_w, i32_w]; rw [c59b0]) | skip)
      have H' := sd H
      clear H
      go_wp2
      go_meet
      case rel => exact ⟨_, (true), tF, H', ⟨by first | omega | exact Nat.le_refl _⟩, ⟨tL⟩, ⟨tL⟩, ⟨tI⟩, ⟨tK⟩, ⟨tB⟩⟩
     ·rw [if_neg c59] at H
      have c59b0 : (d0 == 45) = false := beq_eq_false_iff_ne.mpr c59
      have c59b1 : (d0 != 45) = true := bne_iff_ne.mpr c59
      (first | rw [c59b0] | (simp only [i64_w, i32_w]; rw [c59b0]) | skip)
      by_cases c60 : 48 ≤ d0
      ·rw [if_pos c60] at H
       have c60b0 : decide (48 ≤ d0) = true := decide_eq_true c60
       clear c60
       have H' := sd H
       clear H
       go_wp2
       go_meet
       case rel => exact ⟨_, (decide (d0 ≤ 57)), tF, H', ⟨by first | omega | exact Nat.le_refl _⟩, ⟨tL⟩, ⟨tL⟩, ⟨tI⟩, ⟨tK⟩, ⟨tB⟩⟩
      ·rw [if_neg c60] at H
       have c60b0 : decide (48 ≤ d0) = false := decide_eq_false c60
       clear c60
       have H' := sd H
       clear H
       go_wp2
       go_meet
       case rel => exact ⟨_, (false), tF, H', ⟨by first | omega | exact Nat.le_refl _⟩, ⟨tL⟩, ⟨tL⟩, ⟨tI⟩, ⟨tK⟩, ⟨tB⟩⟩
    case rest =>
     clear HC51
     obtain ⟨kq, x42_50, rfl, HA, HJ50, b2, b0, HI0, HK, HB⟩ := hcut
     cases kq with
     | zero => exact absurd HA.out (by simp [spec_reader_value.j0])
     | succ kj50 =>
      have H := HA.out
      clear HA
      simp only [spec_reader_value.j0] at H
      by_cases c61 : x42_50 = true
      ·subst c61
       rw [if_pos rfl] at H
       replace H := Option.bind_eq_some_iff.mp H
       obtain ⟨⟨z7, z8, q9⟩, r0, H⟩ := H
       try dsimp only at H
       have A62 := sd r0
       clear r0
       simp only [Option.some.injEq, Prod.mk.injEq] at H
       obtain ⟨rfl, rfl, rfl, rfl, rfl, rfl, rfl, rfl⟩ := H
       have hnb63 := c9.out
       have hnc63 := c8.out
       have hnb64 := a7.out
       have hnc64 := NB0_167.out
       obtain ⟨z0, z1, z2, z3, z4, y0, y1, y2, y3, y4⟩ := blk5 b0.out
       go_wp2_with (first | ((with_reducible refine gate_callee (f := 27) rfl ?_); refine goesL_ (some 55) rfl rfl Tryz.func27 (by kernel_rfl) rfl #[.pointer (some ⟨g, 0, none⟩)] rfl tM ?_; (with_reducible refine (spec_reader_number.calls kj50 g f3 f4 z7 z8 q9 w0 _ ?_ ?_ A62.out).mono ?_); exact tI; exact tB; rintro e w66 ⟨rfl, hi, hb, hk⟩; refine ⟨_, rfl, ?_⟩; have b2 := sd (KeepBut.blk hk (g' := a5) tC a9.out (by simp)); have b0 := sd (KeepBut.blk hk (g' := b7) tC a7.out (by simp)); have HK := sd (KeepBut.trans tK hk (.inl rfl)); have HB := sd (hb); have HI0 := sd (hi); clear hb hk hi; obtain ⟨z0, z1, y0, y1⟩ := IsS70.cells HI0.out; obtain ⟨z0, z1, z2, z3, z4, y0, y1, y2, y3, y4⟩ := blk5 b0.out; have hnb69 := a9.out; have hnc69 := NB0_166.out; obtain ⟨z0, z1, z2, z3, z4, y0, y1, y2, y3, y4⟩ := blk5 b2.out))
       refine bodyPost_ret (results_ct rfl _ _ a5 60 #[.int .i64 3, .int .i64 s0_1, .int .i64 q9, .slice none 0 0, .slice none 0 0] (0, 0) _ rfl tC Tryz.underlying60 rfl (by kernel_rfl)) rfl ?_
       exact ⟨_, _, tE, tN, tN, tI, tB, tK⟩
      ·replace c61 := Bool.eq_false_iff.mpr c61
       subst c61
       rw [if_neg (show ¬ (false = true) by decide)] at H
       replace H := Option.bind_eq_some_iff.mp H
       obtain ⟨⟨z9, i7, i2⟩, r9, H⟩ := H
       try dsimp only at H
       have A71 := sd r9
       clear r9
       by_cases c72 : z9 = true
       ·subst c72
        rw [if_pos rfl] at H
        simp only [Option.some.injEq, Prod.mk.injEq] at H
        obtain ⟨rfl, rfl, rfl, rfl, rfl, rfl, rfl, rfl⟩ := H
        go_wp2_with (first | ((with_reducible refine gate_callee (f := 64) rfl ?_); refine goesL_ (some 58) rfl rfl Tryz.func64 (by kernel_rfl) rfl #[.pointer (some ⟨g, 0, none⟩), .string (⟨#[110, 117, 108, 108]⟩ : ByteArray)] rfl tM ?_; (with_reducible refine (spec_reader_word.calls g f3 f4 (⟨#[110, 117, 108, 108]⟩ : ByteArray) true i7 i2 w0 _ ?_ ?_ A71.out).mono ?_); exact tI; exact tB; rintro e w73 ⟨rfl, hi, hb, hk⟩; refine ⟨_, rfl, ?_⟩; have b2 := sd (KeepBut.blk hk (g' := a5) tL a9.out (by simp)); have b0 := sd (KeepBut.blk hk (g' := b7) tL a7.out (by simp)); have HK := sd (KeepBut.trans tK hk (.inl rfl)); have HB := sd (hb); have HI0 := sd (hi); clear hb hk hi; have hnb74 := c9.out; have hnc74 := c8.out; have hnb75 := a7.out; have hnc75 := NB0_167.out; obtain ⟨z0, z1, z2, z3, z4, y0, y1, y2, y3, y4⟩ := blk5 b0.out; obtain ⟨z0, z1, y0, y1⟩ := IsS70.cells HI0.out; have hnb78 := a9.out; have hnc78 := NB0_166.out; obtain ⟨z0, z1, z2, z3, z4, y0, y1, y2, y3, y4⟩ := blk5 b2.out))
        refine bodyPost_ret (results_ct rfl _ _ a5 60 #[.int .i64 0, .int .i64 s0_1, .int .i64 i2, .slice none 0 0, .slice none 0 0] (0, 0) _ rfl tC Tryz.underlying60 rfl (by kernel_rfl)) rfl ?_
        exact ⟨_, _, tE, tN, tN, tI, tB, tK⟩
       ·replace c72 := Bool.eq_false_iff.mpr c72
        subst c72
        rw [if_neg (show ¬ (false = true) by decide)] at H
        replace H := Option.bind_eq_some_iff.mp H
        obtain ⟨⟨aa0, m1, l4⟩, s0, H⟩ := H
        try dsimp only at H
        have A80 := sd s0
        clear s0
        by_cases c81 : aa0 = true
        ·subst c81
         rw [if_pos rfl] at H
         simp only [Option.some.injEq, Prod.mk.injEq] at H
         obtain ⟨rfl, rfl, rfl, rfl, rfl, rfl, rfl, rfl⟩ := H
         go_wp2_with (first | ((with_reducible refine gate_callee (f := 64) rfl ?_); refine goesL_ (some 58) rfl rfl Tryz.func64 (by kernel_rfl) rfl #[.pointer (some ⟨g, 0, none⟩), .string (⟨#[110, 117, 108, 108]⟩ : ByteArray)] rfl tM ?_; (with_reducible refine (spec_reader_word.calls g f3 f4 (⟨#[110, 117, 108, 108]⟩ : ByteArray) false i7 i2 w0 _ ?_ ?_ A71.out).mono ?_); exact tI; exact tB; rintro e w82 ⟨rfl, hi, hb, hk⟩; refine ⟨_, rfl, ?_⟩; have b2 := sd (KeepBut.blk hk (g' := a5) tL a9.out (by simp)); have b0 := sd (KeepBut.blk hk (g' := b7) tL a7.out (by simp)); have HK := sd (KeepBut.trans tK hk (.inl rfl)); have HB := sd (hb); have HI0 := sd (hi); clear hb hk hi) | ((with_reducible refine gate_callee (f := 64) rfl ?_); refine goesL_ (some 62) rfl rfl Tryz.func64 (by kernel_rfl) rfl #[.pointer (some ⟨g, 0, none⟩), .string (⟨#[102, 97, 108, 115, 101]⟩ : ByteArray)] rfl tM ?_; (with_reducible refine (spec_reader_word.calls g i7 i2 (⟨#[102, 97, 108, 115, 101]⟩ : ByteArray) true m1 l4 w0 _ ?_ ?_ A80.out).mono ?_); exact tI; exact tB; rintro e w83 ⟨rfl, hi, hb, hk⟩; refine ⟨_, rfl, ?_⟩; have b2 := sd (KeepBut.blk hk (g' := a5) tL a9.out (by simp)); have b0 := sd (KeepBut.blk hk (g' := b7) tL a7.out (by simp)); have HK := sd (KeepBut.trans tK hk (.inl rfl)); have HB := sd (hb); have HI0 := sd (hi); clear hb hk hi; have hnb84 := c9.out; have hnc84 := c8.out; have hnb85 := a7.out; have hnc85 := NB0_167.out; obtain ⟨z0, z1, z2, z3, z4, y0, y1, y2, y3, y4⟩ := blk5 b0.out; obtain ⟨z0, z1, y0, y1⟩ := IsS70.cells HI0.out; have hnb88 := a9.out; have hnc88 := NB0_166.out; obtain ⟨z0, z1, z2, z3, z4, y0, y1, y2, y3, y4⟩ := blk5 b2.out))
         refine bodyPost_ret (results_ct rfl _ _ a5 60 #[.int .i64 1, .int .i64 s0_1, .int .i64 l4, .slice none 0 0, .slice none 0 0] (0, 0) _ rfl tC Tryz.underlying60 rfl (by kernel_rfl)) rfl ?_
         exact ⟨_, _, tE, tN, tN, tI, tB, tK⟩
        ·replace c81 := Bool.eq_false_iff.mpr c81
         subst c81
         rw [if_neg (show ¬ (false = true) by decide)] at H
         replace H := Option.bind_eq_some_iff.mp H
         obtain ⟨⟨aa1, s1, n3⟩, s2, H⟩ := H
         try dsimp only at H
         have A90 := sd s2
         clear s2
         by_cases c91 : aa1 = true
         ·subst c91
          rw [if_pos rfl] at H
          simp only [Option.some.injEq, Prod.mk.injEq] at H
          obtain ⟨rfl, rfl, rfl, rfl, rfl, rfl, rfl, rfl⟩ := H
          go_wp2_with (first | ((with_reducible refine gate_callee (f := 64) rfl ?_); refine goesL_ (some 58) rfl rfl Tryz.func64 (by kernel_rfl) rfl #[.pointer (some ⟨g, 0, none⟩), .string (⟨#[110, 117, 108, 108]⟩ : ByteArray)] rfl tM ?_; (with_reducible refine (spec_reader_word.calls g f3 f4 (⟨#[110, 117, 108, 108]⟩ : ByteArray) false i7 i2 w0 _ ?_ ?_ A71.out).mono ?_); exact tI; exact tB; rintro e w92 ⟨rfl, hi, hb, hk⟩; refine ⟨_, rfl, ?_⟩; have b2 := sd (KeepBut.blk hk (g' := a5) tL a9.out (by simp)); have b0 := sd (KeepBut.blk hk (g' := b7) tL a7.out (by simp)); have HK := sd (KeepBut.trans tK hk (.inl rfl)); have HB := sd (hb); have HI0 := sd (hi); clear hb hk hi) | ((with_reducible refine gate_callee (f := 64) rfl ?_); refine goesL_ (some 62) rfl rfl Tryz.func64 (by kernel_rfl) rfl #[.pointer (some ⟨g, 0, none⟩), .string (⟨#[102, 97, 108, 115, 101]⟩ : ByteArray)] rfl tM ?_; (with_reducible refine (spec_reader_word.calls g i7 i2 (⟨#[102, 97, 108, 115, 101]⟩ : ByteArray) false m1 l4 w0 _ ?_ ?_ A80.out).mono ?_); exact tI; exact tB; rintro e w93 ⟨rfl, hi, hb, hk⟩; refine ⟨_, rfl, ?_⟩; have b2 := sd (KeepBut.blk hk (g' := a5) tL a9.out (by simp)); have b0 := sd (KeepBut.blk hk (g' := b7) tL a7.out (by simp)); have HK := sd (KeepBut.trans tK hk (.inl rfl)); have HB := sd (hb); have HI0 := sd (hi); clear hb hk hi) | ((with_reducible refine gate_callee (f := 64) rfl ?_); refine goesL_ (some 66) rfl rfl Tryz.func64 (by kernel_rfl) rfl #[.pointer (some ⟨g, 0, none⟩), .string (⟨#[116, 114, 117, 101]⟩ : ByteArray)] rfl tM ?_; (with_reducible refine (spec_reader_word.calls g m1 l4 (⟨#[116, 114, 117, 101]⟩ : ByteArray) true s1 n3 w0 _ ?_ ?_ A90.out).mono ?_); exact tI; exact tB; rintro e w94 ⟨rfl, hi, hb, hk⟩; refine ⟨_, rfl, ?_⟩; have b2 := sd (KeepBut.blk hk (g' := a5) tL a9.out (by simp)); have b0 := sd (KeepBut.blk hk (g' := b7) tL a7.out (by simp)); have HK := sd (KeepBut.trans tK hk (.inl rfl)); have HB := sd (hb); have HI0 := sd (hi); clear hb hk hi; have hnb95 := c9.out; have hnc95 := c8.out; have hnb96 := a7.out; have hnc96 := NB0_167.out; obtain ⟨z0, z1, z2, z3, z4, y0, y1, y2, y3, y4⟩ := blk5 b0.out; obtain ⟨z0, z1, y0, y1⟩ := IsS70.cells HI0.out; have hnb99 := a9.out; have hnc99 := NB0_166.out; obtain ⟨z0, z1, z2, z3, z4, y0, y1, y2, y3, y4⟩ := blk5 b2.out))
          refine bodyPost_ret (results_ct rfl _ _ a5 60 #[.int .i64 2, .int .i64 s0_1, .int .i64 n3, .slice none 0 0, .slice none 0 0] (0, 0) _ rfl tC Tryz.underlying60 rfl (by kernel_rfl)) rfl ?_
          exact ⟨_, _, tE, tN, tN, tI, tB, tK⟩
         ·replace c91 := Bool.eq_false_iff.mpr c91
          subst c91
          rw [if_neg (show ¬ (false = true) by decide)] at H
          simp only [Option.some.injEq, Prod.mk.injEq] at H
          obtain ⟨rfl, rfl, rfl, rfl, rfl, rfl, rfl, rfl⟩ := H
          go_wp2_with (first | ((with_reducible refine gate_callee (f := 64) rfl ?_); refine goesL_ (some 58) rfl rfl Tryz.func64 (by kernel_rfl) rfl #[.pointer (some ⟨g, 0, none⟩), .string (⟨#[110, 117, 108, 108]⟩ : ByteArray)] rfl tM ?_; (with_reducible refine (spec_reader_word.calls g f3 f4 (⟨#[110, 117, 108, 108]⟩ : ByteArray) false i7 i2 w0 _ ?_ ?_ A71.out).mono ?_); exact tI; exact tB; rintro e ac1 ⟨rfl, hi, hb, hk⟩; refine ⟨_, rfl, ?_⟩; have b2 := sd (KeepBut.blk hk (g' := a5) tL a9.out (by simp)); have b0 := sd (KeepBut.blk hk (g' := b7) tL a7.out (by simp)); have HK := sd (KeepBut.trans tK hk (.inl rfl)); have HB := sd (hb); have HI0 := sd (hi); clear hb hk hi) | ((with_reducible refine gate_callee (f := 64) rfl ?_); refine goesL_ (some 62) rfl rfl Tryz.func64 (by kernel_rfl) rfl #[.pointer (some ⟨g, 0, none⟩), .string (⟨#[102, 97, 108, 115, 101]⟩ : ByteArray)] rfl tM ?_; (with_reducible refine (spec_reader_word.calls g i7 i2 (⟨#[102, 97, 108, 115, 101]⟩ : ByteArray) false m1 l4 w0 _ ?_ ?_ A80.out).mono ?_); exact tI; exact tB; rintro e ac2 ⟨rfl, hi, hb, hk⟩; refine ⟨_, rfl, ?_⟩; have b2 := sd (KeepBut.blk hk (g' := a5) tL a9.out (by simp)); have b0 := sd (KeepBut.blk hk (g' := b7) tL a7.out (by simp)); have HK := sd (KeepBut.trans tK hk (.inl rfl)); have HB := sd (hb); have HI0 := sd (hi); clear hb hk hi) | ((with_reducible refine gate_callee (f := 64) rfl ?_); refine goesL_ (some 66) rfl rfl Tryz.func64 (by kernel_rfl) rfl #[.pointer (some ⟨g, 0, none⟩), .string (⟨#[116, 114, 117, 101]⟩ : ByteArray)] rfl tM ?_; (with_reducible refine (spec_reader_word.calls g m1 l4 (⟨#[116, 114, 117, 101]⟩ : ByteArray) false s1 n3 w0 _ ?_ ?_ A90.out).mono ?_); exact tI; exact tB; rintro e ac3 ⟨rfl, hi, hb, hk⟩; refine ⟨_, rfl, ?_⟩; have b2 := sd (KeepBut.blk hk (g' := a5) tL a9.out (by simp)); have b0 := sd (KeepBut.blk hk (g' := b7) tL a7.out (by simp)); have HK := sd (KeepBut.trans tK hk (.inl rfl)); have HB := sd (hb); have HI0 := sd (hi); clear hb hk hi; obtain ⟨z0, z1, y0, y1⟩ := IsS70.cells HI0.out; have ab2 := c9.out; have ab3 := c8.out; have ab4 := a7.out; have ab5 := NB0_167.out; obtain ⟨z0, z1, z2, z3, z4, y0, y1, y2, y3, y4⟩ := blk5 b0.out; have ab6 := a9.out; have ab7 := NB0_166.out; obtain ⟨z0, z1, z2, z3, z4, y0, y1, y2, y3, y4⟩ := blk5 b2.out))
          refine bodyPost_ret (results_ct rfl _ _ a5 60 #[.int .i64 0, .int .i64 s0_1, .int .i64 n3, .slice none 0 0, .slice none 0 0] (0, 0) _ rfl tC Tryz.underlying60 rfl (by kernel_rfl)) rfl ?_
          exact ⟨_, _, tE, tN, tN, tI, tB, tK⟩
set_option maxHeartbeats 8000000 in
set_option maxRecDepth 100000 in
theorem spec_reader_members.calls_step (k : Nat) (ih_37 : ∀ j_, j_ < k → S37 j_) (ih_61 : ∀ j_, j_ < k → S61 j_) (ih_62 : ∀ j_, j_ < k → S62 j_) : S61 k := by
 intro g s0_0 s0_1 r1 r2 r3 r4 r5 w0 w hI hB h
 cases k with
 | zero => exact absurd h (by simp [spec_reader_members.f])
 | succ k =>
 simp only [spec_reader_members.f] at h
 have hu90 := Tryz.underlying90
 have hu60 := Tryz.underlying60
 have HI0 := sd hI
 have HK := sd (KeepBut.refl w g none)
 have HL := sd hB.size
 clear hI
 have HW0 := sd hB.size
 have HB := sd hB
 clear hB
 have H : ((spec_reader_blanks.f k s0_0 (wrap64 (s0_1 + 1))).bind fun j4 => ((spec_reader_take.f j4.1 j4.2 125).bind fun e9 => (if e9.1 = true then (some (([] : List (S90)), ([] : List (S60)), true, e9.2.1, e9.2.2)) else (spec_reader_members.l0 k ([] : List (S90)) ([] : List (S60)) e9.2.1 e9.2.2)))) = some (r1, r2, r3, r4, r5) := h
 clear h
 replace H := Option.bind_eq_some_iff.mp H
 obtain ⟨⟨n4, n5⟩, A20, H⟩ := H
 try dsimp only at H
 have A2 := sd A20
 clear A20
 replace H := Option.bind_eq_some_iff.mp H
 obtain ⟨⟨aa2, o6, o7⟩, A30, H⟩ := H
 try dsimp only at H
 have A3 := sd A30
 clear A30
 by_cases c4 : aa2 = true
 ·subst c4
  rw [if_pos rfl] at H
  simp only [Option.some.injEq, Prod.mk.injEq] at H
  obtain ⟨rfl, rfl, rfl, rfl, rfl⟩ := H
  obtain ⟨z0, z1, y0, y1⟩ := IsS70.cells HI0.out
  go_enter Tryz.func61, Tryz.ntmps61
  go_wp2_with (first | ((with_reducible refine gate_callee (f := 36) rfl ?_); refine goesL_ (some 18) rfl rfl Tryz.func36 (by kernel_rfl) rfl #[.pointer (some ⟨g, 0, none⟩)] rfl tM ?_; (with_reducible refine (spec_reader_blanks.calls k g s0_0 (wrap64 (s0_1 + 1)) n4 n5 w0 _ ?_ ?_ A2.out).mono ?_); exact tI; exact tB; rintro e w6 ⟨rfl, hi, hb, hk⟩; refine ⟨_, rfl, ?_⟩; have HK := sd (KeepBut.trans tK hk (.inl rfl)); have HB := sd (hb); have HI0 := sd (hi); clear hb hk hi) | ((with_reducible refine gate_callee (f := 41) rfl ?_); refine goesL_ (some 20) rfl rfl Tryz.func41 (by kernel_rfl) rfl #[.pointer (some ⟨g, 0, none⟩), .int .u8 125] rfl tM ?_; (with_reducible refine (spec_reader_take.calls g n4 n5 125 true o6 o7 w0 _ ?_ ?_ A3.out).mono ?_); exact tI; exact tB; rintro e w7 ⟨rfl, hi, hb, hk⟩; refine ⟨_, rfl, ?_⟩; have HK := sd (KeepBut.trans tK hk (.inl rfl)); have HB := sd (hb); have HI0 := sd (hi); clear hb hk hi))
  go_ret3
  exact ⟨_, _, tE, tN, tN, tI, tB, tK⟩
 ·replace c4 := Bool.eq_false_iff.mpr c4
  subst c4
  rw [if_neg (show ¬ (false = true) by decide)] at H
  have H' := sd H
  clear H
  obtain ⟨z0, z1, y0, y1⟩ := IsS70.cells HI0.out
  go_enter Tryz.func61, Tryz.ntmps61
  go_wp2_with (first | ((with_reducible refine gate_callee (f := 36) rfl ?_); refine goesL_ (some 18) rfl rfl Tryz.func36 (by kernel_rfl) rfl #[.pointer (some ⟨g, 0, none⟩)] rfl tM ?_; (with_reducible refine (spec_reader_blanks.calls k g s0_0 (wrap64 (s0_1 + 1)) n4 n5 w0 _ ?_ ?_ A2.out).mono ?_); exact tI; exact tB; rintro e w9 ⟨rfl, hi, hb, hk⟩; refine ⟨_, rfl, ?_⟩; have HK := sd (KeepBut.trans tK hk (.inl rfl)); have HB := sd (hb); have HI0 := sd (hi); clear hb hk hi) | ((with_reducible refine gate_callee (f := 41) rfl ?_); refine goesL_ (some 20) rfl rfl Tryz.func41 (by kernel_rfl) rfl #[.pointer (some ⟨g, 0, none⟩), .int .u8 125] rfl tM ?_; (with_reducible refine (spec_reader_take.calls g n4 n5 125 false o6 o7 w0 _ ?_ ?_ A3.out).mono ?_); exact tI; exact tB; rintro e w10 ⟨rfl, hi, hb, hk⟩; refine ⟨_, rfl, ?_⟩; have HK := sd (KeepBut.trans tK hk (.inl rfl)); have HB := sd (hb); have HI0 := sd (hi); clear hb hk hi))
  (try simp only [Act.put, List.setIfInBounds_toArray, List.set_cons_zero, List.set_cons_succ])
  go_loopg [5, 6] k (fun kq v5 v6 w' => ∃ (x5_1 : List (S90)) (x6_1 : List (S60)) (d4 : ByteArray) (a6 : Int), Aside0 (spec_reader_members.l0 kq x5_1 x6_1 d4 a6 = some (r1, r2, r3, r4, r5)) ∧ Aside0 (kq ≤ k) ∧ Aside0 (Kd.R k90 90 w' w.heap.size (fun _ => True) v5 x5_1) ∧ Aside0 (Kd.R k60 60 w' w.heap.size (fun k_ => some k_ ≠ (v5 : Value).ownBlock) v6 x6_1) ∧ Aside0 (IsS70 w0 w' g d4 a6) ∧ Aside0 (KeepBut w w' g none) ∧ Aside0 (Below w0.heap.size w0 w'))
  case atStart => exact ⟨(([] : List (S90))), (([] : List (S60))), (o6), (o7), H', ⟨Nat.le_refl _⟩, ⟨tN⟩, ⟨tN⟩, ⟨tI⟩, ⟨tK⟩, ⟨tB⟩⟩
  case round =>
   clear H'
   obtain ⟨x5_1, x6_1, d4, a6, HA, HK1, HO_5, HO_6, HI0, HK, HB⟩ := hrel
   cases gk with
   | zero => exact absurd HA.out (by simp [spec_reader_members.l0])
   | succ k1 =>
    have H := HA.out
    clear HA
    simp only [spec_reader_members.l0] at H
    have HC11 := sd H
    clear H
    obtain ⟨z0, z1, y0, y1⟩ := IsS70.cells HI0.out
    go_upto_region 8 with (fail)
    go_cut [32] (fun v32 wc => ∃ (kq : Nat) (x32_10 : Bool) (e4 : ByteArray) (a8 : Int), v32 = .bool x32_10 ∧ Aside0 (spec_reader_members.j1 kq x5_1 x6_1 a6 x32_10 e4 a8 = some (r1, r2, r3, r4, r5)) ∧ Aside0 (kq ≤ k1) ∧ Aside0 (Kd.R k90 90 wc w.heap.size (fun _ => True) u5 x5_1) ∧ Aside0 (Kd.R k60 60 wc w.heap.size (fun k_ => some k_ ≠ (u5 : Value).ownBlock) u6 x6_1) ∧ Aside0 (IsS70 w0 wc g e4 a8) ∧ Aside0 (KeepBut w wc g none) ∧ Aside0 (Below w0.heap.size w0 wc))
    case first =>
     have H := HC11.out
     clear HC11
     replace H := Option.bind_eq_some_iff.mp H
     obtain ⟨⟨i8, n6, n7⟩, s3, H⟩ := H
     try dsimp only at H
     have A13 := sd s3
     clear s3
     by_cases c14 : i8 = 34
     ·rw [if_pos c14] at H
      have c14b0 : (i8 == 34) = true := beq_iff_eq.mpr c14
      have c14b1 : (i8 != 34) = false := bne_eq_false_iff_eq.mpr c14
      clear c14
      (first | rw [c14b0] | (simp only [i64_w, i32_w]; rw [c14b0]) | skip)
      replace H := Option.bind_eq_some_iff.mp H
      obtain ⟨⟨s4, s5, s6⟩, m2, H⟩ := H
      try dsimp only at H
      have A15 := sd m2
      clear m2
      have H' := sd H
      clear H
      go_wp2_with (first | ((with_reducible refine gate_callee (f := 60) rfl ?_); refine goesL_ (some 26) rfl rfl Tryz.func60 (by kernel_rfl) rfl #[.pointer (some ⟨g, 0, none⟩)] rfl tM ?_; (with_reducible refine (spec_reader_here.calls g d4 a6 i8 n6 n7 w0 _ ?_ ?_ A13.out).mono ?_); exact tI; exact tB; rintro e w16 ⟨rfl, hi, hb, hk⟩; refine ⟨_, rfl, ?_⟩; have HO_5 := sd (IsS70.kp tI (uR HO_5.out) (by decide) hk); have HO_6 := sd (IsS70.kp tI (uR HO_6.out) (by decide) hk); have HK := sd (KeepBut.trans tK hk (.inl rfl)); have HB := sd (hb); have HI0 := sd (hi); clear hb hk hi) | (go_at_call 63; (with_reducible refine (spec_reader_quoted.calls k1 g n6 n7 s4 s5 s6 w0 _ ?_ ?_ A15.out).mono ?_); exact tI; exact tB; rintro e w17 ⟨rfl, hi, hb, hk⟩; have HO_5 := sd (IsS70.kp tI (uR HO_5.out) (by decide) hk); have HO_6 := sd (IsS70.kp tI (uR HO_6.out) (by decide) hk); have HK := sd (KeepBut.trans tK hk (.inl rfl)); have HB := sd (hb); have HI0 := sd (hi); clear hb hk hi))
      go_meet
      case rel => exact ⟨_, (!s4), (s5), (s6), tF, H', ⟨by have := HK1.out; first | omega | exact Nat.le_refl _⟩, ⟨uR HO_5.out⟩, ⟨uR HO_6.out⟩, ⟨tI⟩, ⟨tK⟩, ⟨tB⟩⟩
     ·rw [if_neg c14] at H
      have c14b0 : (i8 == 34) = false := beq_eq_false_iff_ne.mpr c14
      have c14b1 : (i8 != 34) = true := bne_iff_ne.mpr c14
      (first | rw [c14b0] | (simp only [i64_w, i32_w]; rw [c14b0]) | skip)
      have H' := sd H
      clear H
      go_wp2_with (first | ((with_reducible refine gate_callee (f := 60) rfl ?_); refine goesL_ (some 26) rfl rfl Tryz.func60 (by kernel_rfl) rfl #[.pointer (some ⟨g, 0, none⟩)] rfl tM ?_; (with_reducible refine (spec_reader_here.calls g d4 a6 i8 n6 n7 w0 _ ?_ ?_ A13.out).mono ?_); exact tI; exact tB; rintro e w18 ⟨rfl, hi, hb, hk⟩; refine ⟨_, rfl, ?_⟩; have HO_5 := sd (IsS70.kp tI (uR HO_5.out) (by decide) hk); have HO_6 := sd (IsS70.kp tI (uR HO_6.out) (by decide) hk); have HK := sd (KeepBut.trans tK hk (.inl rfl)); have HB := sd (hb); have HI0 := sd (hi); clear hb hk hi))
      go_meet
      case rel => exact ⟨_, (true), (n6), (n7), tF, H', ⟨by have := HK1.out; first | omega | exact Nat.le_refl _⟩, ⟨uR HO_5.out⟩, ⟨uR HO_6.out⟩, ⟨tI⟩, ⟨tK⟩, ⟨tB⟩⟩
    case rest =>
     clear HC11
     obtain ⟨kq, x32_10, e4, a8, rfl, HA, HJ10, HO_5, HO_6, HI0, HK, HB⟩ := hcut
     cases kq with
     | zero => exact absurd HA.out (by simp [spec_reader_members.j1])
     | succ kj10 =>
      have H := HA.out
      clear HA
      simp only [spec_reader_members.j1] at H
      by_cases c19 : x32_10 = true
      ·subst c19
       rw [if_pos rfl] at H
       simp only [Option.some.injEq, Prod.mk.injEq] at H
       obtain ⟨rfl, rfl, rfl, rfl, rfl⟩ := H
       go_wp2
       go_ret3
       exact ⟨_, _, tE, tN, tN, tI, tB, tK⟩
      ·replace c19 := Bool.eq_false_iff.mpr c19
       subst c19
       rw [if_neg (show ¬ (false = true) by decide)] at H
       by_cases c20 : x5_1.length < 8796093022208
       ·rw [if_pos c20] at H
        have LMc20 := sd c20
        clear c20
        obtain ⟨f8, j8⟩ : ∃ y_ : List (S90), y_ = (x5_1 ++ [(⟨a6, a8⟩ : S90)]) := ⟨_, rfl⟩
        replace H : ((spec_reader_blanks.f kj10 e4 a8).bind fun j2 => ((spec_reader_take.f j2.1 j2.2 58).bind fun e8 => (if e8.1 = true then ((spec_reader_blanks.f kj10 e8.2.1 e8.2.2).bind fun j3 => ((spec_reader_value.f kj10 j3.1 j3.2).bind fun d3 => (if d3.2.2.2.2.2.1 = true then (if x6_1.length < 1954687338268 then ((some (x6_1 ++ [(⟨d3.1, d3.2.1, d3.2.2.1, d3.2.2.2.1, d3.2.2.2.2.1⟩ : S60)] : List (S60))).bind fun g9 => ((spec_reader_blanks.f kj10 d3.2.2.2.2.2.2.1 d3.2.2.2.2.2.2.2).bind fun g3 => ((spec_reader_take.f g3.1 g3.2 125).bind fun d6 => (if d6.1 = true then (some (f8, g9, true, d6.2.1, d6.2.2)) else ((spec_reader_take.f d6.2.1 d6.2.2 44).bind fun d7 => (if d7.1 = true then ((spec_reader_blanks.f kj10 d7.2.1 d7.2.2).bind fun g4 => (spec_reader_members.l0 kj10 f8 g9 g4.1 g4.2)) else (some (([] : List (S90)), ([] : List (S60)), false, d7.2.1, d7.2.2)))))))) else (none)) else (some (([] : List (S90)), ([] : List (S60)), false, d3.2.2.2.2.2.2.1, d3.2.2.2.2.2.2.2))))) else (some (([] : List (S90)), ([] : List (S60)), false, e8.2.1, e8.2.2))))) = some (r1, r2, r3, r4, r5) := by first | (rw [j8]; with_reducible exact H) | (have H2_ := (Option.bind_some _ _).symm.trans H; rw [j8]; with_reducible exact H2_) | (have H2_ := (Option.bind_some _ _).symm.trans H; with_reducible exact H2_) | with_reducible exact H | (rw [j8]; exact H) | exact H
        have j9 := sd j8
        clear j8
        replace H := Option.bind_eq_some_iff.mp H
        obtain ⟨⟨g5, g6⟩, m0, H⟩ := H
        try dsimp only at H
        have A21 := sd m0
        clear m0
        replace H := Option.bind_eq_some_iff.mp H
        obtain ⟨⟨aa3, i0, i1⟩, s7, H⟩ := H
        try dsimp only at H
        have A22 := sd s7
        clear s7
        by_cases c23 : aa3 = true
        ·subst c23
         rw [if_pos rfl] at H
         replace H := Option.bind_eq_some_iff.mp H
         obtain ⟨⟨i3, i4⟩, s8, H⟩ := H
         try dsimp only at H
         have A24 := sd s8
         clear s8
         replace H := Option.bind_eq_some_iff.mp H
         obtain ⟨⟨d8, d9, e0, b5, c2, aa4, f9, g0⟩, s9, H⟩ := H
         try dsimp only at H
         have A25 := sd s9
         clear s9
         by_cases c26 : aa4 = true
         ·subst c26
          rw [if_pos rfl] at H
          by_cases c27 : x6_1.length < 1954687338268
          ·rw [if_pos c27] at H
           have LMc27 := sd c27
           clear c27
           obtain ⟨g9, l1⟩ : ∃ y_ : List (S60), y_ = (x6_1 ++ [(⟨d8, d9, e0, b5, c2⟩ : S60)]) := ⟨_, rfl⟩
           replace H : ((spec_reader_blanks.f kj10 f9 g0).bind fun g3 => ((spec_reader_take.f g3.1 g3.2 125).bind fun d6 => (if d6.1 = true then (some (f8, g9, true, d6.2.1, d6.2.2)) else ((spec_reader_take.f d6.2.1 d6.2.2 44).bind fun d7 => (if d7.1 = true then ((spec_reader_blanks.f kj10 d7.2.1 d7.2.2).bind fun g4 => (spec_reader_members.l0 kj10 f8 g9 g4.1 g4.2)) else (some (([] : List (S90)), ([] : List (S60)), false, d7.2.1, d7.2.2))))))) = some (r1, r2, r3, r4, r5) := by first | (rw [l1]; with_reducible exact H) | (have H2_ := (Option.bind_some _ _).symm.trans H; rw [l1]; with_reducible exact H2_) | (have H2_ := (Option.bind_some _ _).symm.trans H; with_reducible exact H2_) | with_reducible exact H | (rw [l1]; exact H) | exact H
           have n8 := sd l1
           clear l1
           replace H := Option.bind_eq_some_iff.mp H
           obtain ⟨⟨l5, l6⟩, m3, H⟩ := H
           try dsimp only at H
           have A28 := sd m3
           clear m3
           replace H := Option.bind_eq_some_iff.mp H
           obtain ⟨⟨aa5, m4, m5⟩, v0, H⟩ := H
           try dsimp only at H
           have A29 := sd v0
           clear v0
           by_cases c30 : aa5 = true
           ·subst c30
            rw [if_pos rfl] at H
            simp only [Option.some.injEq, Prod.mk.injEq] at H
            obtain ⟨rfl, rfl, rfl, rfl, rfl⟩ := H
            obtain ⟨z0, z1, y0, y1⟩ := IsS70.cells HI0.out
            go_wp2_with (first | ((with_reducible refine gate_builtin (b := .append) (xs := #[.tmp 33, .tmp 40]) rfl ?_); at_builtin; refine Kd.R_append k90 w.heap.size rfl (.tmp 33) (.tmp 40) 57 90 (.agg #[(.int .i64 0), (.int .i64 0)]) 16 rfl Tryz.underlying57 info90 rfl (by decide) (by omega) u5 x5_1 (⟨a6, a8⟩ : S90) [.int .i64 a6, .int .i64 a8] (fun _ => True) (fun _ => False) rfl rfl ?aP (fun _ hk => hk.elim) ?aF ?aO (Below.refl _ _) ?aS ?aL ?_; (case aP => exact k90_mkM _ _ _ (⟨a6, a8⟩ : S90)); (case aF => exact (fun _ _ => trivial)); (case aO => exact (uR HO_5.out)); (case aS => exact (keep_size (w := w) (g := g) (row := none) tK)); (case aL => have := LMc20.out; omega); intro d5 w32 ho hb hg hat; rw [← j9.out] at ho; have HO_6 := sd (Kd.R_after (ok := (fun _ => True)) (Kd.R_mono (uR HO_6.out) (fun _ hk => ⟨trivial, hk⟩)) hg hat); have HB := sd (below_weaken tB HL.out hb); have HI0 := sd (IsS70.grown tI hg (IsS70.own_ne HI0.out HO_5.out (by decide))); have HK := sd (KeepBut.trans tK (KeepBut.of_grown hg g) (Kd.R_base2 HO_5.out)); have a2 := sd (ho); clear ho hb hg hat) | ((with_reducible refine gate_callee (f := 36) rfl ?_); refine goesL_ (some 43) rfl rfl Tryz.func36 (by kernel_rfl) rfl #[.pointer (some ⟨g, 0, none⟩)] rfl tM ?_; (with_reducible refine (spec_reader_blanks.calls kj10 g e4 a8 g5 g6 w0 _ ?_ ?_ A21.out).mono ?_); exact tI; exact tB; rintro e w33 ⟨rfl, hi, hb, hk⟩; refine ⟨_, rfl, ?_⟩; have HO_6 := sd (IsS70.kp tI (uR HO_6.out) (by decide) hk); have a2 := sd (IsS70.kp tI (uR a2.out) (by decide) hk); have HK := sd (KeepBut.trans tK hk (.inl rfl)); have HB := sd (hb); have HI0 := sd (hi); clear hb hk hi) | ((with_reducible refine gate_callee (f := 41) rfl ?_); refine goesL_ (some 45) rfl rfl Tryz.func41 (by kernel_rfl) rfl #[.pointer (some ⟨g, 0, none⟩), .int .u8 58] rfl tM ?_; (with_reducible refine (spec_reader_take.calls g g5 g6 58 true i0 i1 w0 _ ?_ ?_ A22.out).mono ?_); exact tI; exact tB; rintro e w34 ⟨rfl, hi, hb, hk⟩; refine ⟨_, rfl, ?_⟩; have HO_6 := sd (IsS70.kp tI (uR HO_6.out) (by decide) hk); have a2 := sd (IsS70.kp tI (uR a2.out) (by decide) hk); have HK := sd (KeepBut.trans tK hk (.inl rfl)); have HB := sd (hb); have HI0 := sd (hi); clear hb hk hi) | ((with_reducible refine gate_callee (f := 36) rfl ?_); refine goesL_ (some 48) rfl rfl Tryz.func36 (by kernel_rfl) rfl #[.pointer (some ⟨g, 0, none⟩)] rfl tM ?_; (with_reducible refine (spec_reader_blanks.calls kj10 g i0 i1 i3 i4 w0 _ ?_ ?_ A24.out).mono ?_); exact tI; exact tB; rintro e w35 ⟨rfl, hi, hb, hk⟩; refine ⟨_, rfl, ?_⟩; have HO_6 := sd (IsS70.kp tI (uR HO_6.out) (by decide) hk); have a2 := sd (IsS70.kp tI (uR a2.out) (by decide) hk); have HK := sd (KeepBut.trans tK hk (.inl rfl)); have HB := sd (hb); have HI0 := sd (hi); clear hb hk hi) | ((with_reducible refine gate_callee (f := 37) rfl ?_); refine goesL_ (some 51) rfl rfl Tryz.func37 (by kernel_rfl) rfl #[.pointer (some ⟨g, 0, none⟩)] rfl tM ?_; (with_reducible refine (ih_37 kj10 (by have := HK1.out; have := HJ10.out; omega) g i3 i4 d8 d9 e0 b5 c2 true f9 g0 w0 _ ?_ ?_ A25.out).mono ?_); exact tI; exact tB; rintro e w36 ⟨o8, o9, rfl, ho0, ho1, hi, hb, hk⟩; refine ⟨_, rfl, ?_⟩; have b8 := sd (Kd.R_lower (Kd.R_new' ho0 (Kd.R_lt (uR a2.out))) (keep_size (w := w) (g := g) (row := none) tK)); have b9 := sd (Kd.R_lower (Kd.R_new' (Kd.R_new' ho1 (Kd.R_lt (uR HO_6.out))) (Kd.R_lt (uR a2.out))) (keep_size (w := w) (g := g) (row := none) tK)); have HO_6 := sd (Kd.R_mono (Kd.R_told (Kd.R_told (Kd.R_oldK (IsS70.apart (g := g) tI (uR HO_6.out) (by decide)) hk) (Kd.R_base ho0)) (Kd.R_base ho1)) (fun _ h_ => h_.1)); have a2 := sd (Kd.R_mono (Kd.R_told (Kd.R_oldK (IsS70.apart (g := g) tI (uR a2.out) (by decide)) hk) (Kd.R_base ho0)) (fun _ h_ => h_.1)); have HK := sd (KeepBut.trans tK hk (.inl rfl)); have HB := sd (hb); have HI0 := sd (hi); clear hb hk hi ho0 ho1) | ((with_reducible refine gate_dst (N := 8) rfl ?_); refine box_event (by rfl) (N := 8) (by rfl) (cs := #[.int .i64 0, .int .i64 0, .int .i64 0, .slice none 0 0, .slice none 0 0]) (t := 60) tS ?_; intro a3 hg w37 hbox hb; have HO_6 := sd (Kd.R_below (Kd.R_elderB (uR HO_6.out) a3 (Nat.le_of_eq hg.symm)) hb); have a2 := sd (Kd.R_below (uR a2.out) hb); have b8 := sd (Kd.R_below (uR b8.out) hb); have b9 := sd (Kd.R_below (Kd.R_elderB (uR b9.out) a3 (Nat.le_of_eq hg.symm)) hb); have HB := sd (below_step tB hb); have b3 := sd (hbox); have n9 := sd (leK (w := w) (g := g) hg tK); have o0 := sd (Nat.le_trans HW0.out (leK (w := w) (g := g) hg tK)); have HK := sd (KeepBut.trans tK (KeepBut.of_below hb g none) (.inl rfl)); have NB0_234 := sd (neL hg (IsS70.lt (g := g) tI)); have c6 := sd (neR hg (IsS70.lt (g := g) tI)); have HI0 := sd (IsS70.below tI hb); clear hb hbox hg; have hnb38 := c6.out; have hnc38 := NB0_234.out; obtain ⟨z0, z1, z2, z3, z4, y0, y1, y2, y3, y4⟩ := blk5 b3.out; obtain ⟨Ao40, co40, eo40⟩ := Kd.R_slice b8.out; subst eo40; obtain ⟨Ao41, co41, eo41⟩ := Kd.R_slice b9.out; subst eo41) | ((with_reducible refine gate_store (t := 60) (p := 8) rfl ?_); refine store_event (t := 60) (p := 8) (v := ?vo_w42) (w1 := (((((w37.setCell ⟨a3, 0, none⟩ (.int .i64 d8)).setCell ⟨a3, 1, none⟩ (.int .i64 d9)).setCell ⟨a3, 2, none⟩ (.int .i64 e0)).setCell ⟨a3, 3, none⟩ (.slice Ao40 b5.length co40)).setCell ⟨a3, 4, none⟩ (.slice Ao41 c2.length co41))) (by rfl) (by rfl) (by rfl) tS ?_; intro w42 hw; have HO_6 : Aside0 (Kd.R k60 60 w42 w.heap.size (fun k_ => some k_ ≠ (d5 : Value).ownBlock ∧ some k_ ≠ (.slice Ao40 b5.length co40 : Value).ownBlock ∧ some k_ ≠ (.slice Ao41 c2.length co41 : Value).ownBlock ∧ k_ ≠ a3) u6 x6_1) := ⟨(by rw [hw]; exact (Kd.R_mono (uR (Kd.R_mono HO_6.out (fun k_ hk => (⟨hk, hk.2⟩ : _ ∧ k_ ≠ a3)))) (fun _ hk => ⟨hk.1.1.1.1.2, ⟨hk.1.1.1.2, ⟨hk.1.1.2, hk.1.2⟩⟩⟩)))⟩; have a2 : Aside0 (Kd.R k90 90 w42 w.heap.size (fun k_ => some k_ ≠ (.slice Ao40 b5.length co40 : Value).ownBlock) d5 f8) := ⟨(by rw [hw]; exact (Kd.R_mono (uR (Kd.R_types a2.out b3.out (by decide))) (fun _ hk => hk.1.2)))⟩; have b8 : Aside0 (Kd.R k90 90 w42 w.heap.size (fun k_ => some k_ ≠ (d5 : Value).ownBlock) (.slice Ao40 b5.length co40) b5) := ⟨(by rw [hw]; exact (Kd.R_mono (uR (Kd.R_types b8.out b3.out (by decide))) (fun _ hk => hk.1.2)))⟩; have b9 : Aside0 (Kd.R k60 60 w42 w.heap.size (fun k_ => some k_ ≠ (u6 : Value).ownBlock ∧ some k_ ≠ (d5 : Value).ownBlock ∧ some k_ ≠ (.slice Ao40 b5.length co40 : Value).ownBlock ∧ k_ ≠ a3) (.slice Ao41 c2.length co41) c2) := ⟨(by rw [hw]; exact (Kd.R_mono (uR (Kd.R_mono b9.out (fun k_ hk => (⟨hk, hk.2⟩ : _ ∧ k_ ≠ a3)))) (fun _ hk => ⟨hk.1.1.1.2, ⟨hk.1.1.2, ⟨hk.1.1.1.1, hk.1.2⟩⟩⟩)))⟩; have b3 : Aside0 (w42.heap[a3]? = some (.cells #[.int .i64 d8, .int .i64 d9, .int .i64 e0, .slice Ao40 b5.length co40, .slice Ao41 c2.length co41] 60 (0, 0))) := ⟨tWC⟩; have HK : Aside0 (KeepBut w w42 g none) := ⟨tWK⟩; have HB : Aside0 (Below w0.heap.size w0 w42) := ⟨tWB⟩; have HI0 : Aside0 (IsS70 w0 w42 g f9 g0) := ⟨tWI⟩; clear hw; obtain ⟨z0, z1, z2, z3, z4, y0, y1, y2, y3, y4⟩ := blk5 b3.out) | ((with_reducible refine gate_builtin (b := .append) (xs := #[.tmp 56, .tmp 58]) rfl ?_); at_builtin; refine Kd.R_append k60 w.heap.size rfl (.tmp 56) (.tmp 58) 58 60 (.agg #[(.int .i64 0), (.int .i64 0), (.int .i64 0), (.slice none 0 0), (.slice none 0 0)]) 72 rfl Tryz.underlying58 info60 rfl (by decide) (by omega) u6 x6_1 (⟨d8, d9, e0, b5, c2⟩ : S60) [.int .i64 d8, .int .i64 d9, .int .i64 e0, .slice Ao40 b5.length co40, .slice Ao41 c2.length co41] (fun k_ => some k_ ≠ (d5 : Value).ownBlock ∧ k_ ≠ a3) (fun k_ => ((fun k_ => some k_ ≠ (d5 : Value).ownBlock ∧ k_ ≠ a3)) k_ ∧ some k_ ≠ (u6 : Value).ownBlock) rfl rfl ?aP (fun _ hk => hk) ?aF ?aO (Below.refl _ _) ?aS ?aL ?_; (case aP => exact k60_mkM _ _ _ (⟨d8, d9, e0, b5, c2⟩ : S60) (Kd.R_mono (Kd.R_types (Kd.R_apart' (b8.out) (Kd.R_typed HO_6.out) (by decide)) b3.out (by decide)) (fun k_ hk => ⟨⟨hk.1.1, hk.2⟩, hk.1.2⟩)) (Kd.R_mono (b9.out) (fun k_ hk => ⟨⟨hk.2.1, hk.2.2.2⟩, hk.1⟩))); (case aF => exact (fun k_ hk => ⟨Kd.fresh' (Kd.R_lt (uR a2.out)) k_ hk, Kd.freshB (g := a3) tL k_ hk⟩)); (case aO => exact (Kd.R_mono (uR HO_6.out) (fun _ hk => ⟨hk.1, hk.2.2.2⟩))); (case aS => exact (keep_size (w := w) (g := g) (row := none) tK)); (case aL => have := LMc27.out; omega); intro v1 w44 ho hb hg hat; rw [← n8.out] at ho; have a2 := sd (Kd.R_over' (uR a2.out) (Kd.R_typed (uR HO_6.out)) (by decide) hg); have b3 := sd (blk_grown (g := a3) tL hg (Kd.R_away HO_6.out (fun _ hk => hk.2.2.2))); have HB := sd (below_weaken tB HL.out hb); have HI0 := sd (IsS70.grown tI hg (IsS70.own_ne HI0.out HO_6.out (by decide))); have HK := sd (KeepBut.trans tK (KeepBut.of_grown hg g) (Kd.R_base2 HO_6.out)); have d1 := sd (ho); clear ho hb hg hat) | ((with_reducible refine gate_callee (f := 36) rfl ?_); refine goesL_ (some 61) rfl rfl Tryz.func36 (by kernel_rfl) rfl #[.pointer (some ⟨g, 0, none⟩)] rfl tM ?_; (with_reducible refine (spec_reader_blanks.calls kj10 g f9 g0 l5 l6 w0 _ ?_ ?_ A28.out).mono ?_); exact tI; exact tB; rintro e w45 ⟨rfl, hi, hb, hk⟩; refine ⟨_, rfl, ?_⟩; have a2 := sd (IsS70.kp tI (uR a2.out) (by decide) hk); have b3 := sd (KeepBut.blk hk (g' := a3) tL c6.out (by simp)); have d1 := sd (IsS70.kp tI (uR d1.out) (by decide) hk); have HK := sd (KeepBut.trans tK hk (.inl rfl)); have HB := sd (hb); have HI0 := sd (hi); clear hb hk hi) | ((with_reducible refine gate_callee (f := 41) rfl ?_); refine goesL_ (some 63) rfl rfl Tryz.func41 (by kernel_rfl) rfl #[.pointer (some ⟨g, 0, none⟩), .int .u8 125] rfl tM ?_; (with_reducible refine (spec_reader_take.calls g l5 l6 125 true m4 m5 w0 _ ?_ ?_ A29.out).mono ?_); exact tI; exact tB; rintro e w46 ⟨rfl, hi, hb, hk⟩; refine ⟨_, rfl, ?_⟩; have a2 := sd (IsS70.kp tI (uR a2.out) (by decide) hk); have b3 := sd (KeepBut.blk hk (g' := a3) tL c6.out (by simp)); have d1 := sd (IsS70.kp tI (uR d1.out) (by decide) hk); have HK := sd (KeepBut.trans tK hk (.inl rfl)); have HB := sd (hb); have HI0 := sd (hi); clear hb hk hi))
            go_ret3
            exact ⟨_, _, tE, Kd.R_mono (uR a2.out) (fun _ hk => trivial), Kd.R_mono (uR d1.out) (fun _ hk => hk.1), tI, tB, tK⟩
           ·replace c30 := Bool.eq_false_iff.mpr c30
            subst c30
            rw [if_neg (show ¬ (false = true) by decide)] at H
            replace H := Option.bind_eq_some_iff.mp H
            obtain ⟨⟨aa6, p0, p1⟩, v2, H⟩ := H
            try dsimp only at H
            have A47 := sd v2
            clear v2
            by_cases c48 : aa6 = true
            ·subst c48
             rw [if_pos rfl] at H
             replace H := Option.bind_eq_some_iff.mp H
             obtain ⟨⟨v3, v7⟩, v8, H⟩ := H
             try dsimp only at H
             have A49 := sd v8
             clear v8
             have H' := sd H
             clear H
             obtain ⟨z0, z1, y0, y1⟩ := IsS70.cells HI0.out
             go_wp2_with (first | ((with_reducible refine gate_builtin (b := .append) (xs := #[.tmp 33, .tmp 40]) rfl ?_); at_builtin; refine Kd.R_append k90 w.heap.size rfl (.tmp 33) (.tmp 40) 57 90 (.agg #[(.int .i64 0), (.int .i64 0)]) 16 rfl Tryz.underlying57 info90 rfl (by decide) (by omega) u5 x5_1 (⟨a6, a8⟩ : S90) [.int .i64 a6, .int .i64 a8] (fun _ => True) (fun _ => False) rfl rfl ?aP (fun _ hk => hk.elim) ?aF ?aO (Below.refl _ _) ?aS ?aL ?_; (case aP => exact k90_mkM _ _ _ (⟨a6, a8⟩ : S90)); (case aF => exact (fun _ _ => trivial)); (case aO => exact (uR HO_5.out)); (case aS => exact (keep_size (w := w) (g := g) (row := none) tK)); (case aL => have := LMc20.out; omega); intro d5 w51 ho hb hg hat; rw [← j9.out] at ho; have HO_6 := sd (Kd.R_after (ok := (fun _ => True)) (Kd.R_mono (uR HO_6.out) (fun _ hk => ⟨trivial, hk⟩)) hg hat); have HB := sd (below_weaken tB HL.out hb); have HI0 := sd (IsS70.grown tI hg (IsS70.own_ne HI0.out HO_5.out (by decide))); have HK := sd (KeepBut.trans tK (KeepBut.of_grown hg g) (Kd.R_base2 HO_5.out)); have a2 := sd (ho); clear ho hb hg hat) | ((with_reducible refine gate_callee (f := 36) rfl ?_); refine goesL_ (some 43) rfl rfl Tryz.func36 (by kernel_rfl) rfl #[.pointer (some ⟨g, 0, none⟩)] rfl tM ?_; (with_reducible refine (spec_reader_blanks.calls kj10 g e4 a8 g5 g6 w0 _ ?_ ?_ A21.out).mono ?_); exact tI; exact tB; rintro e w52 ⟨rfl, hi, hb, hk⟩; refine ⟨_, rfl, ?_⟩; have HO_6 := sd (IsS70.kp tI (uR HO_6.out) (by decide) hk); have a2 := sd (IsS70.kp tI (uR a2.out) (by decide) hk); have HK := sd (KeepBut.trans tK hk (.inl rfl)); have HB := sd (hb); have HI0 := sd (hi); clear hb hk hi) | ((with_reducible refine gate_callee (f := 41) rfl ?_); refine goesL_ (some 45) rfl rfl Tryz.func41 (by kernel_rfl) rfl #[.pointer (some ⟨g, 0, none⟩), .int .u8 58] rfl tM ?_; (with_reducible refine (spec_reader_take.calls g g5 g6 58 true i0 i1 w0 _ ?_ ?_ A22.out).mono ?_); exact tI; exact tB; rintro e w53 ⟨rfl, hi, hb, hk⟩; refine ⟨_, rfl, ?_⟩; have HO_6 := sd (IsS70.kp tI (uR HO_6.out) (by decide) hk); have a2 := sd (IsS70.kp tI (uR a2.out) (by decide) hk); have HK := sd (KeepBut.trans tK hk (.inl rfl)); have HB := sd (hb); have HI0 := sd (hi); clear hb hk hi) | ((with_reducible refine gate_callee (f := 36) rfl ?_); refine goesL_ (some 48) rfl rfl Tryz.func36 (by kernel_rfl) rfl #[.pointer (some ⟨g, 0, none⟩)] rfl tM ?_; (with_reducible refine (spec_reader_blanks.calls kj10 g i0 i1 i3 i4 w0 _ ?_ ?_ A24.out).mono ?_); exact tI; exact tB; rintro e w54 ⟨rfl, hi, hb, hk⟩; refine ⟨_, rfl, ?_⟩; have HO_6 := sd (IsS70.kp tI (uR HO_6.out) (by decide) hk); have a2 := sd (IsS70.kp tI (uR a2.out) (by decide) hk); have HK := sd (KeepBut.trans tK hk (.inl rfl)); have HB := sd (hb); have HI0 := sd (hi); clear hb hk hi) | ((with_reducible refine gate_callee (f := 37) rfl ?_); refine goesL_ (some 51) rfl rfl Tryz.func37 (by kernel_rfl) rfl #[.pointer (some ⟨g, 0, none⟩)] rfl tM ?_; (with_reducible refine (ih_37 kj10 (by have := HK1.out; have := HJ10.out; omega) g i3 i4 d8 d9 e0 b5 c2 true f9 g0 w0 _ ?_ ?_ A25.out).mono ?_); exact tI; exact tB; rintro e w55 ⟨o8, o9, rfl, ho0, ho1, hi, hb, hk⟩; refine ⟨_, rfl, ?_⟩; have b8 := sd (Kd.R_lower (Kd.R_new' ho0 (Kd.R_lt (uR a2.out))) (keep_size (w := w) (g := g) (row := none) tK)); have b9 := sd (Kd.R_lower (Kd.R_new' (Kd.R_new' ho1 (Kd.R_lt (uR HO_6.out))) (Kd.R_lt (uR a2.out))) (keep_size (w := w) (g := g) (row := none) tK)); have HO_6 := sd (Kd.R_mono (Kd.R_told (Kd.R_told (Kd.R_oldK (IsS70.apart (g := g) tI (uR HO_6.out) (by decide)) hk) (Kd.R_base ho0)) (Kd.R_base ho1)) (fun _ h_ => h_.1)); have a2 := sd (Kd.R_mono (Kd.R_told (Kd.R_oldK (IsS70.apart (g := g) tI (uR a2.out) (by decide)) hk) (Kd.R_base ho0)) (fun _ h_ => h_.1)); have HK := sd (KeepBut.trans tK hk (.inl rfl)); have HB := sd (hb); have HI0 := sd (hi); clear hb hk hi ho0 ho1) | ((with_reducible refine gate_dst (N := 8) rfl ?_); refine box_event (by rfl) (N := 8) (by rfl) (cs := #[.int .i64 0, .int .i64 0, .int .i64 0, .slice none 0 0, .slice none 0 0]) (t := 60) tS ?_; intro a3 hg w56 hbox hb; have HO_6 := sd (Kd.R_below (Kd.R_elderB (uR HO_6.out) a3 (Nat.le_of_eq hg.symm)) hb); have a2 := sd (Kd.R_below (uR a2.out) hb); have b8 := sd (Kd.R_below (uR b8.out) hb); have b9 := sd (Kd.R_below (Kd.R_elderB (uR b9.out) a3 (Nat.le_of_eq hg.symm)) hb); have HB := sd (below_step tB hb); have b3 := sd (hbox); have n9 := sd (leK (w := w) (g := g) hg tK); have o0 := sd (Nat.le_trans HW0.out (leK (w := w) (g := g) hg tK)); have HK := sd (KeepBut.trans tK (KeepBut.of_below hb g none) (.inl rfl)); have NB0_234 := sd (neL hg (IsS70.lt (g := g) tI)); have c6 := sd (neR hg (IsS70.lt (g := g) tI)); have HI0 := sd (IsS70.below tI hb); clear hb hbox hg; have hnb57 := c6.out; have hnc57 := NB0_234.out; obtain ⟨z0, z1, z2, z3, z4, y0, y1, y2, y3, y4⟩ := blk5 b3.out; obtain ⟨Ao59, co59, eo59⟩ := Kd.R_slice b8.out; subst eo59; obtain ⟨Ao60, co60, eo60⟩ := Kd.R_slice b9.out; subst eo60) | ((with_reducible refine gate_store (t := 60) (p := 8) rfl ?_); refine store_event (t := 60) (p := 8) (v := ?vo_w61) (w1 := (((((w56.setCell ⟨a3, 0, none⟩ (.int .i64 d8)).setCell ⟨a3, 1, none⟩ (.int .i64 d9)).setCell ⟨a3, 2, none⟩ (.int .i64 e0)).setCell ⟨a3, 3, none⟩ (.slice Ao59 b5.length co59)).setCell ⟨a3, 4, none⟩ (.slice Ao60 c2.length co60))) (by rfl) (by rfl) (by rfl) tS ?_; intro w61 hw; have HO_6 : Aside0 (Kd.R k60 60 w61 w.heap.size (fun k_ => some k_ ≠ (d5 : Value).ownBlock ∧ some k_ ≠ (.slice Ao59 b5.length co59 : Value).ownBlock ∧ some k_ ≠ (.slice Ao60 c2.length co60 : Value).ownBlock ∧ k_ ≠ a3) u6 x6_1) := ⟨(by rw [hw]; exact (Kd.R_mono (uR (Kd.R_mono HO_6.out (fun k_ hk => (⟨hk, hk.2⟩ : _ ∧ k_ ≠ a3)))) (fun _ hk => ⟨hk.1.1.1.1.2, ⟨hk.1.1.1.2, ⟨hk.1.1.2, hk.1.2⟩⟩⟩)))⟩; have a2 : Aside0 (Kd.R k90 90 w61 w.heap.size (fun k_ => some k_ ≠ (.slice Ao59 b5.length co59 : Value).ownBlock) d5 f8) := ⟨(by rw [hw]; exact (Kd.R_mono (uR (Kd.R_types a2.out b3.out (by decide))) (fun _ hk => hk.1.2)))⟩; have b8 : Aside0 (Kd.R k90 90 w61 w.heap.size (fun k_ => some k_ ≠ (d5 : Value).ownBlock) (.slice Ao59 b5.length co59) b5) := ⟨(by rw [hw]; exact (Kd.R_mono (uR (Kd.R_types b8.out b3.out (by decide))) (fun _ hk => hk.1.2)))⟩; have b9 : Aside0 (Kd.R k60 60 w61 w.heap.size (fun k_ => some k_ ≠ (u6 : Value).ownBlock ∧ some k_ ≠ (d5 : Value).ownBlock ∧ some k_ ≠ (.slice Ao59 b5.length co59 : Value).ownBlock ∧ k_ ≠ a3) (.slice Ao60 c2.length co60) c2) := ⟨(by rw [hw]; exact (Kd.R_mono (uR (Kd.R_mono b9.out (fun k_ hk => (⟨hk, hk.2⟩ : _ ∧ k_ ≠ a3)))) (fun _ hk => ⟨hk.1.1.1.2, ⟨hk.1.1.2, ⟨hk.1.1.1.1, hk.1.2⟩⟩⟩)))⟩; have b3 : Aside0 (w61.heap[a3]? = some (.cells #[.int .i64 d8, .int .i64 d9, .int .i64 e0, .slice Ao59 b5.length co59, .slice Ao60 c2.length co60] 60 (0, 0))) := ⟨tWC⟩; have HK : Aside0 (KeepBut w w61 g none) := ⟨tWK⟩; have HB : Aside0 (Below w0.heap.size w0 w61) := ⟨tWB⟩; have HI0 : Aside0 (IsS70 w0 w61 g f9 g0) := ⟨tWI⟩; clear hw; obtain ⟨z0, z1, z2, z3, z4, y0, y1, y2, y3, y4⟩ := blk5 b3.out) | ((with_reducible refine gate_builtin (b := .append) (xs := #[.tmp 56, .tmp 58]) rfl ?_); at_builtin; refine Kd.R_append k60 w.heap.size rfl (.tmp 56) (.tmp 58) 58 60 (.agg #[(.int .i64 0), (.int .i64 0), (.int .i64 0), (.slice none 0 0), (.slice none 0 0)]) 72 rfl Tryz.underlying58 info60 rfl (by decide) (by omega) u6 x6_1 (⟨d8, d9, e0, b5, c2⟩ : S60) [.int .i64 d8, .int .i64 d9, .int .i64 e0, .slice Ao59 b5.length co59, .slice Ao60 c2.length co60] (fun k_ => some k_ ≠ (d5 : Value).ownBlock ∧ k_ ≠ a3) (fun k_ => ((fun k_ => some k_ ≠ (d5 : Value).ownBlock ∧ k_ ≠ a3)) k_ ∧ some k_ ≠ (u6 : Value).ownBlock) rfl rfl ?aP (fun _ hk => hk) ?aF ?aO (Below.refl _ _) ?aS ?aL ?_; (case aP => exact k60_mkM _ _ _ (⟨d8, d9, e0, b5, c2⟩ : S60) (Kd.R_mono (Kd.R_types (Kd.R_apart' (b8.out) (Kd.R_typed HO_6.out) (by decide)) b3.out (by decide)) (fun k_ hk => ⟨⟨hk.1.1, hk.2⟩, hk.1.2⟩)) (Kd.R_mono (b9.out) (fun k_ hk => ⟨⟨hk.2.1, hk.2.2.2⟩, hk.1⟩))); (case aF => exact (fun k_ hk => ⟨Kd.fresh' (Kd.R_lt (uR a2.out)) k_ hk, Kd.freshB (g := a3) tL k_ hk⟩)); (case aO => exact (Kd.R_mono (uR HO_6.out) (fun _ hk => ⟨hk.1, hk.2.2.2⟩))); (case aS => exact (keep_size (w := w) (g := g) (row := none) tK)); (case aL => have := LMc27.out; omega); intro v1 w63 ho hb hg hat; rw [← n8.out] at ho; have a2 := sd (Kd.R_over' (uR a2.out) (Kd.R_typed (uR HO_6.out)) (by decide) hg); have b3 := sd (blk_grown (g := a3) tL hg (Kd.R_away HO_6.out (fun _ hk => hk.2.2.2))); have HB := sd (below_weaken tB HL.out hb); have HI0 := sd (IsS70.grown tI hg (IsS70.own_ne HI0.out HO_6.out (by decide))); have HK := sd (KeepBut.trans tK (KeepBut.of_grown hg g) (Kd.R_base2 HO_6.out)); have d1 := sd (ho); clear ho hb hg hat) | ((with_reducible refine gate_callee (f := 36) rfl ?_); refine goesL_ (some 61) rfl rfl Tryz.func36 (by kernel_rfl) rfl #[.pointer (some ⟨g, 0, none⟩)] rfl tM ?_; (with_reducible refine (spec_reader_blanks.calls kj10 g f9 g0 l5 l6 w0 _ ?_ ?_ A28.out).mono ?_); exact tI; exact tB; rintro e w64 ⟨rfl, hi, hb, hk⟩; refine ⟨_, rfl, ?_⟩; have a2 := sd (IsS70.kp tI (uR a2.out) (by decide) hk); have b3 := sd (KeepBut.blk hk (g' := a3) tL c6.out (by simp)); have d1 := sd (IsS70.kp tI (uR d1.out) (by decide) hk); have HK := sd (KeepBut.trans tK hk (.inl rfl)); have HB := sd (hb); have HI0 := sd (hi); clear hb hk hi) | ((with_reducible refine gate_callee (f := 41) rfl ?_); refine goesL_ (some 63) rfl rfl Tryz.func41 (by kernel_rfl) rfl #[.pointer (some ⟨g, 0, none⟩), .int .u8 125] rfl tM ?_; (with_reducible refine (spec_reader_take.calls g l5 l6 125 false m4 m5 w0 _ ?_ ?_ A29.out).mono ?_); exact tI; exact tB; rintro e w65 ⟨rfl, hi, hb, hk⟩; refine ⟨_, rfl, ?_⟩; have a2 := sd (IsS70.kp tI (uR a2.out) (by decide) hk); have b3 := sd (KeepBut.blk hk (g' := a3) tL c6.out (by simp)); have d1 := sd (IsS70.kp tI (uR d1.out) (by decide) hk); have HK := sd (KeepBut.trans tK hk (.inl rfl)); have HB := sd (hb); have HI0 := sd (hi); clear hb hk hi) | ((with_reducible refine gate_callee (f := 41) rfl ?_); refine goesL_ (some 67) rfl rfl Tryz.func41 (by kernel_rfl) rfl #[.pointer (some ⟨g, 0, none⟩), .int .u8 44] rfl tM ?_; (with_reducible refine (spec_reader_take.calls g m4 m5 44 true p0 p1 w0 _ ?_ ?_ A47.out).mono ?_); exact tI; exact tB; rintro e w66 ⟨rfl, hi, hb, hk⟩; refine ⟨_, rfl, ?_⟩; have a2 := sd (IsS70.kp tI (uR a2.out) (by decide) hk); have b3 := sd (KeepBut.blk hk (g' := a3) tL c6.out (by simp)); have d1 := sd (IsS70.kp tI (uR d1.out) (by decide) hk); have HK := sd (KeepBut.trans tK hk (.inl rfl)); have HB := sd (hb); have HI0 := sd (hi); clear hb hk hi) | ((with_reducible refine gate_callee (f := 36) rfl ?_); refine goesL_ (some 70) rfl rfl Tryz.func36 (by kernel_rfl) rfl #[.pointer (some ⟨g, 0, none⟩)] rfl tM ?_; (with_reducible refine (spec_reader_blanks.calls kj10 g p0 p1 v3 v7 w0 _ ?_ ?_ A49.out).mono ?_); exact tI; exact tB; rintro e w67 ⟨rfl, hi, hb, hk⟩; refine ⟨_, rfl, ?_⟩; have a2 := sd (IsS70.kp tI (uR a2.out) (by decide) hk); have b3 := sd (KeepBut.blk hk (g' := a3) tL c6.out (by simp)); have d1 := sd (IsS70.kp tI (uR d1.out) (by decide) hk); have HK := sd (KeepBut.trans tK hk (.inl rfl)); have HB := sd (hb); have HI0 := sd (hi); clear hb hk hi))
             go_roundg kj10
             case measure => have := HK1.out; have := HJ10.out; omega
             case rel => exact ⟨(f8), (g9), (v3), (v7), H', ⟨by have := HK1.out; have := HJ10.out; omega⟩, ⟨Kd.R_mono (uR a2.out) (fun _ hk => trivial)⟩, ⟨Kd.R_mono (uR d1.out) (fun _ hk => hk.1)⟩, ⟨tI⟩, ⟨tK⟩, ⟨tB⟩⟩
            ·replace c48 := Bool.eq_false_iff.mpr c48
             subst c48
             rw [if_neg (show ¬ (false = true) by decide)] at H
             simp only [Option.some.injEq, Prod.mk.injEq] at H
             obtain ⟨rfl, rfl, rfl, rfl, rfl⟩ := H
             obtain ⟨z0, z1, y0, y1⟩ := IsS70.cells HI0.out
             go_wp2_with (first | ((with_reducible refine gate_builtin (b := .append) (xs := #[.tmp 33, .tmp 40]) rfl ?_); at_builtin; refine Kd.R_append k90 w.heap.size rfl (.tmp 33) (.tmp 40) 57 90 (.agg #[(.int .i64 0), (.int .i64 0)]) 16 rfl Tryz.underlying57 info90 rfl (by decide) (by omega) u5 x5_1 (⟨a6, a8⟩ : S90) [.int .i64 a6, .int .i64 a8] (fun _ => True) (fun _ => False) rfl rfl ?aP (fun _ hk => hk.elim) ?aF ?aO (Below.refl _ _) ?aS ?aL ?_; (case aP => exact k90_mkM _ _ _ (⟨a6, a8⟩ : S90)); (case aF => exact (fun _ _ => trivial)); (case aO => exact (uR HO_5.out)); (case aS => exact (keep_size (w := w) (g := g) (row := none) tK)); (case aL => have := LMc20.out; omega); intro d5 w69 ho hb hg hat; rw [← j9.out] at ho; have HO_6 := sd (Kd.R_after (ok := (fun _ => True)) (Kd.R_mono (uR HO_6.out) (fun _ hk => ⟨trivial, hk⟩)) hg hat); have HB := sd (below_weaken tB HL.out hb); have HI0 := sd (IsS70.grown tI hg (IsS70.own_ne HI0.out HO_5.out (by decide))); have HK := sd (KeepBut.trans tK (KeepBut.of_grown hg g) (Kd.R_base2 HO_5.out)); have a2 := sd (ho); clear ho hb hg hat) | ((with_reducible refine gate_callee (f := 36) rfl ?_); refine goesL_ (some 43) rfl rfl Tryz.func36 (by kernel_rfl) rfl #[.pointer (some ⟨g, 0, none⟩)] rfl tM ?_; (with_reducible refine (spec_reader_blanks.calls kj10 g e4 a8 g5 g6 w0 _ ?_ ?_ A21.out).mono ?_); exact tI; exact tB; rintro e w70 ⟨rfl, hi, hb, hk⟩; refine ⟨_, rfl, ?_⟩; have HO_6 := sd (IsS70.kp tI (uR HO_6.out) (by decide) hk); have a2 := sd (IsS70.kp tI (uR a2.out) (by decide) hk); have HK := sd (KeepBut.trans tK hk (.inl rfl)); have HB := sd (hb); have HI0 := sd (hi); clear hb hk hi) | ((with_reducible refine gate_callee (f := 41) rfl ?_); refine goesL_ (some 45) rfl rfl Tryz.func41 (by kernel_rfl) rfl #[.pointer (some ⟨g, 0, none⟩), .int .u8 58] rfl tM ?_; (with_reducible refine (spec_reader_take.calls g g5 g6 58 true i0 i1 w0 _ ?_ ?_ A22.out).mono ?_); exact tI; exact tB; rintro e w71 ⟨rfl, hi, hb, hk⟩; refine ⟨_, rfl, ?_⟩; have HO_6 := sd (IsS70.kp tI (uR HO_6.out) (by decide) hk); have a2 := sd (IsS70.kp tI (uR a2.out) (by decide) hk); have HK := sd (KeepBut.trans tK hk (.inl rfl)); have HB := sd (hb); have HI0 := sd (hi); clear hb hk hi) | ((with_reducible refine gate_callee (f := 36) rfl ?_); refine goesL_ (some 48) rfl rfl Tryz.func36 (by kernel_rfl) rfl #[.pointer (some ⟨g, 0, none⟩)] rfl tM ?_; (with_reducible refine (spec_reader_blanks.calls kj10 g i0 i1 i3 i4 w0 _ ?_ ?_ A24.out).mono ?_); exact tI; exact tB; rintro e w72 ⟨rfl, hi, hb, hk⟩; refine ⟨_, rfl, ?_⟩; have HO_6 := sd (IsS70.kp tI (uR HO_6.out) (by decide) hk); have a2 := sd (IsS70.kp tI (uR a2.out) (by decide) hk); have HK := sd (KeepBut.trans tK hk (.inl rfl)); have HB := sd (hb); have HI0 := sd (hi); clear hb hk hi) | ((with_reducible refine gate_callee (f := 37) rfl ?_); refine goesL_ (some 51) rfl rfl Tryz.func37 (by kernel_rfl) rfl #[.pointer (some ⟨g, 0, none⟩)] rfl tM ?_; (with_reducible refine (ih_37 kj10 (by have := HK1.out; have := HJ10.out; omega) g i3 i4 d8 d9 e0 b5 c2 true f9 g0 w0 _ ?_ ?_ A25.out).mono ?_); exact tI; exact tB; rintro e w73 ⟨o8, o9, rfl, ho0, ho1, hi, hb, hk⟩; refine ⟨_, rfl, ?_⟩; have b8 := sd (Kd.R_lower (Kd.R_new' ho0 (Kd.R_lt (uR a2.out))) (keep_size (w := w) (g := g) (row := none) tK)); have b9 := sd (Kd.R_lower (Kd.R_new' (Kd.R_new' ho1 (Kd.R_lt (uR HO_6.out))) (Kd.R_lt (uR a2.out))) (keep_size (w := w) (g := g) (row := none) tK)); have HO_6 := sd (Kd.R_mono (Kd.R_told (Kd.R_told (Kd.R_oldK (IsS70.apart (g := g) tI (uR HO_6.out) (by decide)) hk) (Kd.R_base ho0)) (Kd.R_base ho1)) (fun _ h_ => h_.1)); have a2 := sd (Kd.R_mono (Kd.R_told (Kd.R_oldK (IsS70.apart (g := g) tI (uR a2.out) (by decide)) hk) (Kd.R_base ho0)) (fun _ h_ => h_.1)); have HK := sd (KeepBut.trans tK hk (.inl rfl)); have HB := sd (hb); have HI0 := sd (hi); clear hb hk hi ho0 ho1) | ((with_reducible refine gate_dst (N := 8) rfl ?_); refine box_event (by rfl) (N := 8) (by rfl) (cs := #[.int .i64 0, .int .i64 0, .int .i64 0, .slice none 0 0, .slice none 0 0]) (t := 60) tS ?_; intro a3 hg w74 hbox hb; have HO_6 := sd (Kd.R_below (Kd.R_elderB (uR HO_6.out) a3 (Nat.le_of_eq hg.symm)) hb); have a2 := sd (Kd.R_below (uR a2.out) hb); have b8 := sd (Kd.R_below (uR b8.out) hb); have b9 := sd (Kd.R_below (Kd.R_elderB (uR b9.out) a3 (Nat.le_of_eq hg.symm)) hb); have HB := sd (below_step tB hb); have b3 := sd (hbox); have n9 := sd (leK (w := w) (g := g) hg tK); have o0 := sd (Nat.le_trans HW0.out (leK (w := w) (g := g) hg tK)); have HK := sd (KeepBut.trans tK (KeepBut.of_below hb g none) (.inl rfl)); have NB0_234 := sd (neL hg (IsS70.lt (g := g) tI)); have c6 := sd (neR hg (IsS70.lt (g := g) tI)); have HI0 := sd (IsS70.below tI hb); clear hb hbox hg; have hnb75 := c6.out; have hnc75 := NB0_234.out; obtain ⟨z0, z1, z2, z3, z4, y0, y1, y2, y3, y4⟩ := blk5 b3.out; obtain ⟨Ao77, co77, eo77⟩ := Kd.R_slice b8.out; subst eo77; obtain ⟨Ao78, co78, eo78⟩ := Kd.R_slice b9.out; subst eo78) | ((with_reducible refine gate_store (t := 60) (p := 8) rfl ?_); refine store_event (t := 60) (p := 8) (v := ?vo_w79) (w1 := (((((w74.setCell ⟨a3, 0, none⟩ (.int .i64 d8)).setCell ⟨a3, 1, none⟩ (.int .i64 d9)).setCell ⟨a3, 2, none⟩ (.int .i64 e0)).setCell ⟨a3, 3, none⟩ (.slice Ao77 b5.length co77)).setCell ⟨a3, 4, none⟩ (.slice Ao78 c2.length co78))) (by rfl) (by rfl) (by rfl) tS ?_; intro w79 hw; have HO_6 : Aside0 (Kd.R k60 60 w79 w.heap.size (fun k_ => some k_ ≠ (d5 : Value).ownBlock ∧ some k_ ≠ (.slice Ao77 b5.length co77 : Value).ownBlock ∧ some k_ ≠ (.slice Ao78 c2.length co78 : Value).ownBlock ∧ k_ ≠ a3) u6 x6_1) := ⟨(by rw [hw]; exact (Kd.R_mono (uR (Kd.R_mono HO_6.out (fun k_ hk => (⟨hk, hk.2⟩ : _ ∧ k_ ≠ a3)))) (fun _ hk => ⟨hk.1.1.1.1.2, ⟨hk.1.1.1.2, ⟨hk.1.1.2, hk.1.2⟩⟩⟩)))⟩; have a2 : Aside0 (Kd.R k90 90 w79 w.heap.size (fun k_ => some k_ ≠ (.slice Ao77 b5.length co77 : Value).ownBlock) d5 f8) := ⟨(by rw [hw]; exact (Kd.R_mono (uR (Kd.R_types a2.out b3.out (by decide))) (fun _ hk => hk.1.2)))⟩; have b8 : Aside0 (Kd.R k90 90 w79 w.heap.size (fun k_ => some k_ ≠ (d5 : Value).ownBlock) (.slice Ao77 b5.length co77) b5) := ⟨(by rw [hw]; exact (Kd.R_mono (uR (Kd.R_types b8.out b3.out (by decide))) (fun _ hk => hk.1.2)))⟩; have b9 : Aside0 (Kd.R k60 60 w79 w.heap.size (fun k_ => some k_ ≠ (u6 : Value).ownBlock ∧ some k_ ≠ (d5 : Value).ownBlock ∧ some k_ ≠ (.slice Ao77 b5.length co77 : Value).ownBlock ∧ k_ ≠ a3) (.slice Ao78 c2.length co78) c2) := ⟨(by rw [hw]; exact (Kd.R_mono (uR (Kd.R_mono b9.out (fun k_ hk => (⟨hk, hk.2⟩ : _ ∧ k_ ≠ a3)))) (fun _ hk => ⟨hk.1.1.1.2, ⟨hk.1.1.2, ⟨hk.1.1.1.1, hk.1.2⟩⟩⟩)))⟩; have b3 : Aside0 (w79.heap[a3]? = some (.cells #[.int .i64 d8, .int .i64 d9, .int .i64 e0, .slice Ao77 b5.length co77, .slice Ao78 c2.length co78] 60 (0, 0))) := ⟨tWC⟩; have HK : Aside0 (KeepBut w w79 g none) := ⟨tWK⟩; have HB : Aside0 (Below w0.heap.size w0 w79) := ⟨tWB⟩; have HI0 : Aside0 (IsS70 w0 w79 g f9 g0) := ⟨tWI⟩; clear hw; obtain ⟨z0, z1, z2, z3, z4, y0, y1, y2, y3, y4⟩ := blk5 b3.out) | ((with_reducible refine gate_builtin (b := .append) (xs := #[.tmp 56, .tmp 58]) rfl ?_); at_builtin; refine Kd.R_append k60 w.heap.size rfl (.tmp 56) (.tmp 58) 58 60 (.agg #[(.int .i64 0), (.int .i64 0), (.int .i64 0), (.slice none 0 0), (.slice none 0 0)]) 72 rfl Tryz.underlying58 info60 rfl (by decide) (by omega) u6 x6_1 (⟨d8, d9, e0, b5, c2⟩ : S60) [.int .i64 d8, .int .i64 d9, .int .i64 e0, .slice Ao77 b5.length co77, .slice Ao78 c2.length co78] (fun k_ => some k_ ≠ (d5 : Value).ownBlock ∧ k_ ≠ a3) (fun k_ => ((fun k_ => some k_ ≠ (d5 : Value).ownBlock ∧ k_ ≠ a3)) k_ ∧ some k_ ≠ (u6 : Value).ownBlock) rfl rfl ?aP (fun _ hk => hk) ?aF ?aO (Below.refl _ _) ?aS ?aL ?_; (case aP => exact k60_mkM _ _ _ (⟨d8, d9, e0, b5, c2⟩ : S60) (Kd.R_mono (Kd.R_types (Kd.R_apart' (b8.out) (Kd.R_typed HO_6.out) (by decide)) b3.out (by decide)) (fun k_ hk => ⟨⟨hk.1.1, hk.2⟩, hk.1.2⟩)) (Kd.R_mono (b9.out) (fun k_ hk => ⟨⟨hk.2.1, hk.2.2.2⟩, hk.1⟩))); (case aF => exact (fun k_ hk => ⟨Kd.fresh' (Kd.R_lt (uR a2.out)) k_ hk, Kd.freshB (g := a3) tL k_ hk⟩)); (case aO => exact (Kd.R_mono (uR HO_6.out) (fun _ hk => ⟨hk.1, hk.2.2.2⟩))); (case aS => exact (keep_size (w := w) (g := g) (row := none) tK)); (case aL => have := LMc27.out; omega); intro v1 w81 ho hb hg hat; rw [← n8.out] at ho; have a2 := sd (Kd.R_over' (uR a2.out) (Kd.R_typed (uR HO_6.out)) (by decide) hg); have b3 := sd (blk_grown (g := a3) tL hg (Kd.R_away HO_6.out (fun _ hk => hk.2.2.2))); have HB := sd (below_weaken tB HL.out hb); have HI0 := sd (IsS70.grown tI hg (IsS70.own_ne HI0.out HO_6.out (by decide))); have HK := sd (KeepBut.trans tK (KeepBut.of_grown hg g) (Kd.R_base2 HO_6.out)); have d1 := sd (ho); clear ho hb hg hat) | ((with_reducible refine gate_callee (f := 36) rfl ?_); refine goesL_ (some 61) rfl rfl Tryz.func36 (by kernel_rfl) rfl #[.pointer (some ⟨g, 0, none⟩)] rfl tM ?_; (with_reducible refine (spec_reader_blanks.calls kj10 g f9 g0 l5 l6 w0 _ ?_ ?_ A28.out).mono ?_); exact tI; exact tB; rintro e w82 ⟨rfl, hi, hb, hk⟩; refine ⟨_, rfl, ?_⟩; have a2 := sd (IsS70.kp tI (uR a2.out) (by decide) hk); have b3 := sd (KeepBut.blk hk (g' := a3) tL c6.out (by simp)); have d1 := sd (IsS70.kp tI (uR d1.out) (by decide) hk); have HK := sd (KeepBut.trans tK hk (.inl rfl)); have HB := sd (hb); have HI0 := sd (hi); clear hb hk hi) | ((with_reducible refine gate_callee (f := 41) rfl ?_); refine goesL_ (some 63) rfl rfl Tryz.func41 (by kernel_rfl) rfl #[.pointer (some ⟨g, 0, none⟩), .int .u8 125] rfl tM ?_; (with_reducible refine (spec_reader_take.calls g l5 l6 125 false m4 m5 w0 _ ?_ ?_ A29.out).mono ?_); exact tI; exact tB; rintro e w83 ⟨rfl, hi, hb, hk⟩; refine ⟨_, rfl, ?_⟩; have a2 := sd (IsS70.kp tI (uR a2.out) (by decide) hk); have b3 := sd (KeepBut.blk hk (g' := a3) tL c6.out (by simp)); have d1 := sd (IsS70.kp tI (uR d1.out) (by decide) hk); have HK := sd (KeepBut.trans tK hk (.inl rfl)); have HB := sd (hb); have HI0 := sd (hi); clear hb hk hi) | ((with_reducible refine gate_callee (f := 41) rfl ?_); refine goesL_ (some 67) rfl rfl Tryz.func41 (by kernel_rfl) rfl #[.pointer (some ⟨g, 0, none⟩), .int .u8 44] rfl tM ?_; (with_reducible refine (spec_reader_take.calls g m4 m5 44 false p0 p1 w0 _ ?_ ?_ A47.out).mono ?_); exact tI; exact tB; rintro e w84 ⟨rfl, hi, hb, hk⟩; refine ⟨_, rfl, ?_⟩; have a2 := sd (IsS70.kp tI (uR a2.out) (by decide) hk); have b3 := sd (KeepBut.blk hk (g' := a3) tL c6.out (by simp)); have d1 := sd (IsS70.kp tI (uR d1.out) (by decide) hk); have HK := sd (KeepBut.trans tK hk (.inl rfl)); have HB := sd (hb); have HI0 := sd (hi); clear hb hk hi))
             go_ret3
             exact ⟨_, _, tE, tN, tN, tI, tB, tK⟩
          ·rw [if_neg c27] at H
           exact absurd H (by simp)
         ·replace c26 := Bool.eq_false_iff.mpr c26
          subst c26
          rw [if_neg (show ¬ (false = true) by decide)] at H
          simp only [Option.some.injEq, Prod.mk.injEq] at H
          obtain ⟨rfl, rfl, rfl, rfl, rfl⟩ := H
          obtain ⟨z0, z1, y0, y1⟩ := IsS70.cells HI0.out
          go_wp2_with (first | ((with_reducible refine gate_builtin (b := .append) (xs := #[.tmp 33, .tmp 40]) rfl ?_); at_builtin; refine Kd.R_append k90 w.heap.size rfl (.tmp 33) (.tmp 40) 57 90 (.agg #[(.int .i64 0), (.int .i64 0)]) 16 rfl Tryz.underlying57 info90 rfl (by decide) (by omega) u5 x5_1 (⟨a6, a8⟩ : S90) [.int .i64 a6, .int .i64 a8] (fun _ => True) (fun _ => False) rfl rfl ?aP (fun _ hk => hk.elim) ?aF ?aO (Below.refl _ _) ?aS ?aL ?_; (case aP => exact k90_mkM _ _ _ (⟨a6, a8⟩ : S90)); (case aF => exact (fun _ _ => trivial)); (case aO => exact (uR HO_5.out)); (case aS => exact (keep_size (w := w) (g := g) (row := none) tK)); (case aL => have := LMc20.out; omega); intro d5 w86 ho hb hg hat; rw [← j9.out] at ho; have HO_6 := sd (Kd.R_after (ok := (fun _ => True)) (Kd.R_mono (uR HO_6.out) (fun _ hk => ⟨trivial, hk⟩)) hg hat); have HB := sd (below_weaken tB HL.out hb); have HI0 := sd (IsS70.grown tI hg (IsS70.own_ne HI0.out HO_5.out (by decide))); have HK := sd (KeepBut.trans tK (KeepBut.of_grown hg g) (Kd.R_base2 HO_5.out)); have a2 := sd (ho); clear ho hb hg hat) | ((with_reducible refine gate_callee (f := 36) rfl ?_); refine goesL_ (some 43) rfl rfl Tryz.func36 (by kernel_rfl) rfl #[.pointer (some ⟨g, 0, none⟩)] rfl tM ?_; (with_reducible refine (spec_reader_blanks.calls kj10 g e4 a8 g5 g6 w0 _ ?_ ?_ A21.out).mono ?_); exact tI; exact tB; rintro e w87 ⟨rfl, hi, hb, hk⟩; refine ⟨_, rfl, ?_⟩; have HO_6 := sd (IsS70.kp tI (uR HO_6.out) (by decide) hk); have a2 := sd (IsS70.kp tI (uR a2.out) (by decide) hk); have HK := sd (KeepBut.trans tK hk (.inl rfl)); have HB := sd (hb); have HI0 := sd (hi); clear hb hk hi) | ((with_reducible refine gate_callee (f := 41) rfl ?_); refine goesL_ (some 45) rfl rfl Tryz.func41 (by kernel_rfl) rfl #[.pointer (some ⟨g, 0, none⟩), .int .u8 58] rfl tM ?_; (with_reducible refine (spec_reader_take.calls g g5 g6 58 true i0 i1 w0 _ ?_ ?_ A22.out).mono ?_); exact tI; exact tB; rintro e w88 ⟨rfl, hi, hb, hk⟩; refine ⟨_, rfl, ?_⟩; have HO_6 := sd (IsS70.kp tI (uR HO_6.out) (by decide) hk); have a2 := sd (IsS70.kp tI (uR a2.out) (by decide) hk); have HK := sd (KeepBut.trans tK hk (.inl rfl)); have HB := sd (hb); have HI0 := sd (hi); clear hb hk hi) | ((with_reducible refine gate_callee (f := 36) rfl ?_); refine goesL_ (some 48) rfl rfl Tryz.func36 (by kernel_rfl) rfl #[.pointer (some ⟨g, 0, none⟩)] rfl tM ?_; (with_reducible refine (spec_reader_blanks.calls kj10 g i0 i1 i3 i4 w0 _ ?_ ?_ A24.out).mono ?_); exact tI; exact tB; rintro e w89 ⟨rfl, hi, hb, hk⟩; refine ⟨_, rfl, ?_⟩; have HO_6 := sd (IsS70.kp tI (uR HO_6.out) (by decide) hk); have a2 := sd (IsS70.kp tI (uR a2.out) (by decide) hk); have HK := sd (KeepBut.trans tK hk (.inl rfl)); have HB := sd (hb); have HI0 := sd (hi); clear hb hk hi) | ((with_reducible refine gate_callee (f := 37) rfl ?_); refine goesL_ (some 51) rfl rfl Tryz.func37 (by kernel_rfl) rfl #[.pointer (some ⟨g, 0, none⟩)] rfl tM ?_; (with_reducible refine (ih_37 kj10 (by have := HK1.out; have := HJ10.out; omega) g i3 i4 d8 d9 e0 b5 c2 false f9 g0 w0 _ ?_ ?_ A25.out).mono ?_); exact tI; exact tB; rintro e w90 ⟨o8, o9, rfl, ho0, ho1, hi, hb, hk⟩; refine ⟨_, rfl, ?_⟩; have b8 := sd (Kd.R_lower (Kd.R_new' ho0 (Kd.R_lt (uR a2.out))) (keep_size (w := w) (g := g) (row := none) tK)); have b9 := sd (Kd.R_lower (Kd.R_new' (Kd.R_new' ho1 (Kd.R_lt (uR HO_6.out))) (Kd.R_lt (uR a2.out))) (keep_size (w := w) (g := g) (row := none) tK)); have HO_6 := sd (Kd.R_mono (Kd.R_told (Kd.R_told (Kd.R_oldK (IsS70.apart (g := g) tI (uR HO_6.out) (by decide)) hk) (Kd.R_base ho0)) (Kd.R_base ho1)) (fun _ h_ => h_.1)); have a2 := sd (Kd.R_mono (Kd.R_told (Kd.R_oldK (IsS70.apart (g := g) tI (uR a2.out) (by decide)) hk) (Kd.R_base ho0)) (fun _ h_ => h_.1)); have HK := sd (KeepBut.trans tK hk (.inl rfl)); have HB := sd (hb); have HI0 := sd (hi); clear hb hk hi ho0 ho1) | ((with_reducible refine gate_dst (N := 8) rfl ?_); refine box_event (by rfl) (N := 8) (by rfl) (cs := #[.int .i64 0, .int .i64 0, .int .i64 0, .slice none 0 0, .slice none 0 0]) (t := 60) tS ?_; intro a3 hg w91 hbox hb; have HO_6 := sd (Kd.R_below (Kd.R_elderB (uR HO_6.out) a3 (Nat.le_of_eq hg.symm)) hb); have a2 := sd (Kd.R_below (uR a2.out) hb); have b8 := sd (Kd.R_below (uR b8.out) hb); have b9 := sd (Kd.R_below (Kd.R_elderB (uR b9.out) a3 (Nat.le_of_eq hg.symm)) hb); have HB := sd (below_step tB hb); have b3 := sd (hbox); have n9 := sd (leK (w := w) (g := g) hg tK); have o0 := sd (Nat.le_trans HW0.out (leK (w := w) (g := g) hg tK)); have HK := sd (KeepBut.trans tK (KeepBut.of_below hb g none) (.inl rfl)); have NB0_234 := sd (neL hg (IsS70.lt (g := g) tI)); have c6 := sd (neR hg (IsS70.lt (g := g) tI)); have HI0 := sd (IsS70.below tI hb); clear hb hbox hg; have hnb92 := c6.out; have hnc92 := NB0_234.out; obtain ⟨z0, z1, z2, z3, z4, y0, y1, y2, y3, y4⟩ := blk5 b3.out; obtain ⟨Ao94, co94, eo94⟩ := Kd.R_slice b8.out; subst eo94; obtain ⟨Ao95, co95, eo95⟩ := Kd.R_slice b9.out; subst eo95))
          go_ret3
          exact ⟨_, _, tE, tN, tN, tI, tB, tK⟩
        ·replace c23 := Bool.eq_false_iff.mpr c23
         subst c23
         rw [if_neg (show ¬ (false = true) by decide)] at H
         simp only [Option.some.injEq, Prod.mk.injEq] at H
         obtain ⟨rfl, rfl, rfl, rfl, rfl⟩ := H
         obtain ⟨z0, z1, y0, y1⟩ := IsS70.cells HI0.out
         go_wp2_with (first | ((with_reducible refine gate_builtin (b := .append) (xs := #[.tmp 33, .tmp 40]) rfl ?_); at_builtin; refine Kd.R_append k90 w.heap.size rfl (.tmp 33) (.tmp 40) 57 90 (.agg #[(.int .i64 0), (.int .i64 0)]) 16 rfl Tryz.underlying57 info90 rfl (by decide) (by omega) u5 x5_1 (⟨a6, a8⟩ : S90) [.int .i64 a6, .int .i64 a8] (fun _ => True) (fun _ => False) rfl rfl ?aP (fun _ hk => hk.elim) ?aF ?aO (Below.refl _ _) ?aS ?aL ?_; (case aP => exact k90_mkM _ _ _ (⟨a6, a8⟩ : S90)); (case aF => exact (fun _ _ => trivial)); (case aO => exact (uR HO_5.out)); (case aS => exact (keep_size (w := w) (g := g) (row := none) tK)); (case aL => have := LMc20.out; omega); intro d5 w97 ho hb hg hat; rw [← j9.out] at ho; have HO_6 := sd (Kd.R_after (ok := (fun _ => True)) (Kd.R_mono (uR HO_6.out) (fun _ hk => ⟨trivial, hk⟩)) hg hat); have HB := sd (below_weaken tB HL.out hb); have HI0 := sd (IsS70.grown tI hg (IsS70.own_ne HI0.out HO_5.out (by decide))); have HK := sd (KeepBut.trans tK (KeepBut.of_grown hg g) (Kd.R_base2 HO_5.out)); have a2 := sd (ho); clear ho hb hg hat) | ((with_reducible refine gate_callee (f := 36) rfl ?_); refine goesL_ (some 43) rfl rfl Tryz.func36 (by kernel_rfl) rfl #[.pointer (some ⟨g, 0, none⟩)] rfl tM ?_; (with_reducible refine (spec_reader_blanks.calls kj10 g e4 a8 g5 g6 w0 _ ?_ ?_ A21.out).mono ?_); exact tI; exact tB; rintro e w98 ⟨rfl, hi, hb, hk⟩; refine ⟨_, rfl, ?_⟩; have HO_6 := sd (IsS70.kp tI (uR HO_6.out) (by decide) hk); have a2 := sd (IsS70.kp tI (uR a2.out) (by decide) hk); have HK := sd (KeepBut.trans tK hk (.inl rfl)); have HB := sd (hb); have HI0 := sd (hi); clear hb hk hi) | ((with_reducible refine gate_callee (f := 41) rfl ?_); refine goesL_ (some 45) rfl rfl Tryz.func41 (by kernel_rfl) rfl #[.pointer (some ⟨g, 0, none⟩), .int .u8 58] rfl tM ?_; (with_reducible refine (spec_reader_take.calls g g5 g6 58 false i0 i1 w0 _ ?_ ?_ A22.out).mono ?_); exact tI; exact tB; rintro e w99 ⟨rfl, hi, hb, hk⟩; refine ⟨_, rfl, ?_⟩; have HO_6 := sd (IsS70.kp tI (uR HO_6.out) (by decide) hk); have a2 := sd (IsS70.kp tI (uR a2.out) (by decide) hk); have HK := sd (KeepBut.trans tK hk (.inl rfl)); have HB := sd (hb); have HI0 := sd (hi); clear hb hk hi))
         go_ret3
         exact ⟨_, _, tE, tN, tN, tI, tB, tK⟩
       ·rw [if_neg c20] at H
        exact absurd H (by simp)
set_option maxHeartbeats 8000000 in
set_option maxRecDepth 100000 in
theorem spec_reader_elements.calls_step (k : Nat) (ih_37 : ∀ j_, j_ < k → S37 j_) (ih_61 : ∀ j_, j_ < k → S61 j_) (ih_62 : ∀ j_, j_ < k → S62 j_) : S62 k := by
 intro g s0_0 s0_1 r1 r2 r3 r4 w0 w hI hB h
 cases k with
 | zero => exact absurd h (by simp [spec_reader_elements.f])
 | succ k =>
 simp only [spec_reader_elements.f] at h
 have hu60 := Tryz.underlying60
 have HI0 := sd hI
 have HK := sd (KeepBut.refl w g none)
 have HL := sd hB.size
 clear hI
 have HW0 := sd hB.size
 have HB := sd hB
 clear hB
 have H : ((spec_reader_blanks.f k s0_0 (wrap64 (s0_1 + 1))).bind fun j7 => ((spec_reader_take.f j7.1 j7.2 93).bind fun f2 => (if f2.1 = true then (some (([] : List (S60)), true, f2.2.1, f2.2.2)) else (spec_reader_elements.l0 k ([] : List (S60)) f2.2.1 f2.2.2)))) = some (r1, r2, r3, r4) := h
 clear h
 replace H := Option.bind_eq_some_iff.mp H
 obtain ⟨⟨o1, o2⟩, A20, H⟩ := H
 try dsimp only at H
 have A2 := sd A20
 clear A20
 replace H := Option.bind_eq_some_iff.mp H
 obtain ⟨⟨aa7, p2, p3⟩, A30, H⟩ := H
 try dsimp only at H
 have A3 := sd A30
 clear A30
 by_cases c4 : aa7 = true
 ·subst c4
  rw [if_pos rfl] at H
  simp only [Option.some.injEq, Prod.mk.injEq] at H
  obtain ⟨rfl, rfl, rfl, rfl⟩ := H
  obtain ⟨z0, z1, y0, y1⟩ := IsS70.cells HI0.out
  go_enter Tryz.func62, Tryz.ntmps62
  go_wp2_with (first | ((with_reducible refine gate_callee (f := 36) rfl ?_); refine goesL_ (some 15) rfl rfl Tryz.func36 (by kernel_rfl) rfl #[.pointer (some ⟨g, 0, none⟩)] rfl tM ?_; (with_reducible refine (spec_reader_blanks.calls k g s0_0 (wrap64 (s0_1 + 1)) o1 o2 w0 _ ?_ ?_ A2.out).mono ?_); exact tI; exact tB; rintro e w6 ⟨rfl, hi, hb, hk⟩; refine ⟨_, rfl, ?_⟩; have HK := sd (KeepBut.trans tK hk (.inl rfl)); have HB := sd (hb); have HI0 := sd (hi); clear hb hk hi) | ((with_reducible refine gate_callee (f := 41) rfl ?_); refine goesL_ (some 17) rfl rfl Tryz.func41 (by kernel_rfl) rfl #[.pointer (some ⟨g, 0, none⟩), .int .u8 93] rfl tM ?_; (with_reducible refine (spec_reader_take.calls g o1 o2 93 true p2 p3 w0 _ ?_ ?_ A3.out).mono ?_); exact tI; exact tB; rintro e w7 ⟨rfl, hi, hb, hk⟩; refine ⟨_, rfl, ?_⟩; have HK := sd (KeepBut.trans tK hk (.inl rfl)); have HB := sd (hb); have HI0 := sd (hi); clear hb hk hi))
  go_ret2
  exact ⟨_, tE, tN, tI, tB, tK⟩
 ·replace c4 := Bool.eq_false_iff.mpr c4
  subst c4
  rw [if_neg (show ¬ (false = true) by decide)] at H
  have H' := sd H
  clear H
  obtain ⟨z0, z1, y0, y1⟩ := IsS70.cells HI0.out
  go_enter Tryz.func62, Tryz.ntmps62
  go_wp2_with (first | ((with_reducible refine gate_callee (f := 36) rfl ?_); refine goesL_ (some 15) rfl rfl Tryz.func36 (by kernel_rfl) rfl #[.pointer (some ⟨g, 0, none⟩)] rfl tM ?_; (with_reducible refine (spec_reader_blanks.calls k g s0_0 (wrap64 (s0_1 + 1)) o1 o2 w0 _ ?_ ?_ A2.out).mono ?_); exact tI; exact tB; rintro e w9 ⟨rfl, hi, hb, hk⟩; refine ⟨_, rfl, ?_⟩; have HK := sd (KeepBut.trans tK hk (.inl rfl)); have HB := sd (hb); have HI0 := sd (hi); clear hb hk hi) | ((with_reducible refine gate_callee (f := 41) rfl ?_); refine goesL_ (some 17) rfl rfl Tryz.func41 (by kernel_rfl) rfl #[.pointer (some ⟨g, 0, none⟩), .int .u8 93] rfl tM ?_; (with_reducible refine (spec_reader_take.calls g o1 o2 93 false p2 p3 w0 _ ?_ ?_ A3.out).mono ?_); exact tI; exact tB; rintro e w10 ⟨rfl, hi, hb, hk⟩; refine ⟨_, rfl, ?_⟩; have HK := sd (KeepBut.trans tK hk (.inl rfl)); have HB := sd (hb); have HI0 := sd (hi); clear hb hk hi))
  (try simp only [Act.put, List.setIfInBounds_toArray, List.set_cons_zero, List.set_cons_succ])
  go_loopg [4] k (fun kq v4 w' => ∃ (x4_1 : List (S60)) (d4 : ByteArray) (a6 : Int), Aside0 (spec_reader_elements.l0 kq x4_1 d4 a6 = some (r1, r2, r3, r4)) ∧ Aside0 (kq ≤ k) ∧ Aside0 (Kd.R k60 60 w' w.heap.size (fun _ => True) v4 x4_1) ∧ Aside0 (IsS70 w0 w' g d4 a6) ∧ Aside0 (KeepBut w w' g none) ∧ Aside0 (Below w0.heap.size w0 w'))
  case atStart => exact ⟨(([] : List (S60))), (p2), (p3), H', ⟨Nat.le_refl _⟩, ⟨tN⟩, ⟨tI⟩, ⟨tK⟩, ⟨tB⟩⟩
  case round =>
   clear H'
   obtain ⟨x4_1, d4, a6, HA, HK1, HO_4, HI0, HK, HB⟩ := hrel
   cases gk with
   | zero => exact absurd HA.out (by simp [spec_reader_elements.l0])
   | succ k1 =>
    have H := HA.out
    clear HA
    simp only [spec_reader_elements.l0] at H
    replace H := Option.bind_eq_some_iff.mp H
    obtain ⟨⟨e1, e2, e3, b6, c5, aa8, g1, g2⟩, v9, H⟩ := H
    try dsimp only at H
    have A11 := sd v9
    clear v9
    by_cases c12 : aa8 = true
    ·subst c12
     rw [if_pos rfl] at H
     by_cases c13 : x4_1.length < 1954687338268
     ·rw [if_pos c13] at H
      have LMc13 := sd c13
      clear c13
      obtain ⟨l3, l2⟩ : ∃ y_ : List (S60), y_ = (x4_1 ++ [(⟨e1, e2, e3, b6, c5⟩ : S60)]) := ⟨_, rfl⟩
      replace H : ((spec_reader_blanks.f k1 g1 g2).bind fun j5 => ((spec_reader_take.f j5.1 j5.2 93).bind fun f0 => (if f0.1 = true then (some (l3, true, f0.2.1, f0.2.2)) else ((spec_reader_take.f f0.2.1 f0.2.2 44).bind fun f1 => (if f1.1 = true then ((spec_reader_blanks.f k1 f1.2.1 f1.2.2).bind fun j6 => (spec_reader_elements.l0 k1 l3 j6.1 j6.2)) else (some (([] : List (S60)), false, f1.2.1, f1.2.2))))))) = some (r1, r2, r3, r4) := by first | (rw [l2]; with_reducible exact H) | (have H2_ := (Option.bind_some _ _).symm.trans H; rw [l2]; with_reducible exact H2_) | (have H2_ := (Option.bind_some _ _).symm.trans H; with_reducible exact H2_) | with_reducible exact H | (rw [l2]; exact H) | exact H
      have o3 := sd l2
      clear l2
      replace H := Option.bind_eq_some_iff.mp H
      obtain ⟨⟨l7, l8⟩, x0, H⟩ := H
      try dsimp only at H
      have A14 := sd x0
      clear x0
      replace H := Option.bind_eq_some_iff.mp H
      obtain ⟨⟨aa9, m6, m7⟩, m2, H⟩ := H
      try dsimp only at H
      have A15 := sd m2
      clear m2
      by_cases c16 : aa9 = true
      ·subst c16
       rw [if_pos rfl] at H
       simp only [Option.some.injEq, Prod.mk.injEq] at H
       obtain ⟨rfl, rfl, rfl, rfl⟩ := H
       go_wp2_with (first | ((with_reducible refine gate_callee (f := 37) rfl ?_); refine goesL_ (some 20) rfl rfl Tryz.func37 (by kernel_rfl) rfl #[.pointer (some ⟨g, 0, none⟩)] rfl tM ?_; (with_reducible refine (ih_37 k1 (by have := HK1.out; omega) g d4 a6 e1 e2 e3 b6 c5 true g1 g2 w0 _ ?_ ?_ A11.out).mono ?_); exact tI; exact tB; rintro e w17 ⟨p4, p5, rfl, ho0, ho1, hi, hb, hk⟩; refine ⟨_, rfl, ?_⟩; have c0 := sd (Kd.R_lower ho0 (keep_size (w := w) (g := g) (row := none) tK)); have c1 := sd (Kd.R_lower (Kd.R_new' ho1 (Kd.R_lt (uR HO_4.out))) (keep_size (w := w) (g := g) (row := none) tK)); have HO_4 := sd (Kd.R_mono (Kd.R_told (Kd.R_told (Kd.R_oldK (IsS70.apart (g := g) tI (uR HO_4.out) (by decide)) hk) (Kd.R_base ho0)) (Kd.R_base ho1)) (fun _ h_ => h_.1)); have HK := sd (KeepBut.trans tK hk (.inl rfl)); have HB := sd (hb); have HI0 := sd (hi); clear hb hk hi ho0 ho1) | ((with_reducible refine gate_dst (N := 5) rfl ?_); refine box_event (by rfl) (N := 5) (by rfl) (cs := #[.int .i64 0, .int .i64 0, .int .i64 0, .slice none 0 0, .slice none 0 0]) (t := 60) tS ?_; intro a4 hg w18 hbox hb; have HO_4 := sd (Kd.R_below (Kd.R_elderB (uR HO_4.out) a4 (Nat.le_of_eq hg.symm)) hb); have c0 := sd (Kd.R_below (uR c0.out) hb); have c1 := sd (Kd.R_below (Kd.R_elderB (uR c1.out) a4 (Nat.le_of_eq hg.symm)) hb); have HB := sd (below_step tB hb); have b4 := sd (hbox); have o4 := sd (leK (w := w) (g := g) hg tK); have o5 := sd (Nat.le_trans HW0.out (leK (w := w) (g := g) hg tK)); have HK := sd (KeepBut.trans tK (KeepBut.of_below hb g none) (.inl rfl)); have NB0_265 := sd (neL hg (IsS70.lt (g := g) tI)); have c7 := sd (neR hg (IsS70.lt (g := g) tI)); have HI0 := sd (IsS70.below tI hb); clear hb hbox hg; have hnb19 := c7.out; have hnc19 := NB0_265.out; obtain ⟨z0, z1, z2, z3, z4, y0, y1, y2, y3, y4⟩ := blk5 b4.out; obtain ⟨Ao21, co21, eo21⟩ := Kd.R_slice c0.out; subst eo21; obtain ⟨Ao22, co22, eo22⟩ := Kd.R_slice c1.out; subst eo22) | ((with_reducible refine gate_store (t := 60) (p := 5) rfl ?_); refine store_event (t := 60) (p := 5) (v := ?vo_w23) (w1 := (((((w18.setCell ⟨a4, 0, none⟩ (.int .i64 e1)).setCell ⟨a4, 1, none⟩ (.int .i64 e2)).setCell ⟨a4, 2, none⟩ (.int .i64 e3)).setCell ⟨a4, 3, none⟩ (.slice Ao21 b6.length co21)).setCell ⟨a4, 4, none⟩ (.slice Ao22 c5.length co22))) (by rfl) (by rfl) (by rfl) tS ?_; intro w23 hw; have HO_4 : Aside0 (Kd.R k60 60 w23 w.heap.size (fun k_ => some k_ ≠ (.slice Ao21 b6.length co21 : Value).ownBlock ∧ some k_ ≠ (.slice Ao22 c5.length co22 : Value).ownBlock ∧ k_ ≠ a4) u4 x4_1) := ⟨(by rw [hw]; exact (Kd.R_mono (uR (Kd.R_mono HO_4.out (fun k_ hk => (⟨hk, hk.2⟩ : _ ∧ k_ ≠ a4)))) (fun _ hk => ⟨hk.1.1.1.2, ⟨hk.1.1.2, hk.1.2⟩⟩)))⟩; have c0 : Aside0 (Kd.R k90 90 w23 w.heap.size (fun _ => True) (.slice Ao21 b6.length co21) b6) := ⟨(by rw [hw]; exact (Kd.R_mono (uR (Kd.R_types c0.out b4.out (by decide))) (fun _ hk => trivial)))⟩; have c1 : Aside0 (Kd.R k60 60 w23 w.heap.size (fun k_ => some k_ ≠ (u4 : Value).ownBlock ∧ some k_ ≠ (.slice Ao21 b6.length co21 : Value).ownBlock ∧ k_ ≠ a4) (.slice Ao22 c5.length co22) c5) := ⟨(by rw [hw]; exact (Kd.R_mono (uR (Kd.R_mono c1.out (fun k_ hk => (⟨hk, hk.2⟩ : _ ∧ k_ ≠ a4)))) (fun _ hk => ⟨hk.1.1.2, ⟨hk.1.1.1, hk.1.2⟩⟩)))⟩; have b4 : Aside0 (w23.heap[a4]? = some (.cells #[.int .i64 e1, .int .i64 e2, .int .i64 e3, .slice Ao21 b6.length co21, .slice Ao22 c5.length co22] 60 (0, 0))) := ⟨tWC⟩; have HK : Aside0 (KeepBut w w23 g none) := ⟨tWK⟩; have HB : Aside0 (Below w0.heap.size w0 w23) := ⟨tWB⟩; have HI0 : Aside0 (IsS70 w0 w23 g g1 g2) := ⟨tWI⟩; clear hw; obtain ⟨z0, z1, z2, z3, z4, y0, y1, y2, y3, y4⟩ := blk5 b4.out) | ((with_reducible refine gate_builtin (b := .append) (xs := #[.tmp 25, .tmp 27]) rfl ?_); at_builtin; refine Kd.R_append k60 w.heap.size rfl (.tmp 25) (.tmp 27) 58 60 (.agg #[(.int .i64 0), (.int .i64 0), (.int .i64 0), (.slice none 0 0), (.slice none 0 0)]) 72 rfl Tryz.underlying58 info60 rfl (by decide) (by omega) u4 x4_1 (⟨e1, e2, e3, b6, c5⟩ : S60) [.int .i64 e1, .int .i64 e2, .int .i64 e3, .slice Ao21 b6.length co21, .slice Ao22 c5.length co22] (fun k_ => k_ ≠ a4) (fun k_ => ((fun k_ => k_ ≠ a4)) k_ ∧ some k_ ≠ (u4 : Value).ownBlock) rfl rfl ?aP (fun _ hk => hk) ?aF ?aO (Below.refl _ _) ?aS ?aL ?_; (case aP => exact k60_mkM _ _ _ (⟨e1, e2, e3, b6, c5⟩ : S60) (Kd.R_mono (Kd.R_types (Kd.R_apart' (c0.out) (Kd.R_typed HO_4.out) (by decide)) b4.out (by decide)) (fun k_ hk => ⟨hk.2, hk.1.2⟩)) (Kd.R_mono (c1.out) (fun k_ hk => ⟨hk.2.2, hk.1⟩))); (case aF => exact (fun k_ hk => Kd.freshB (g := a4) tL k_ hk)); (case aO => exact (Kd.R_mono (uR HO_4.out) (fun _ hk => hk.2.2))); (case aS => exact (keep_size (w := w) (g := g) (row := none) tK)); (case aL => have := LMc13.out; omega); intro x1 w25 ho hb hg hat; rw [← o3.out] at ho; have b4 := sd (blk_grown (g := a4) tL hg (Kd.R_away HO_4.out (fun _ hk => hk.2.2))); have HB := sd (below_weaken tB HL.out hb); have HI0 := sd (IsS70.grown tI hg (IsS70.own_ne HI0.out HO_4.out (by decide))); have HK := sd (KeepBut.trans tK (KeepBut.of_grown hg g) (Kd.R_base2 HO_4.out)); have d2 := sd (ho); clear ho hb hg hat) | ((with_reducible refine gate_callee (f := 36) rfl ?_); refine goesL_ (some 30) rfl rfl Tryz.func36 (by kernel_rfl) rfl #[.pointer (some ⟨g, 0, none⟩)] rfl tM ?_; (with_reducible refine (spec_reader_blanks.calls k1 g g1 g2 l7 l8 w0 _ ?_ ?_ A14.out).mono ?_); exact tI; exact tB; rintro e w26 ⟨rfl, hi, hb, hk⟩; refine ⟨_, rfl, ?_⟩; have b4 := sd (KeepBut.blk hk (g' := a4) tL c7.out (by simp)); have d2 := sd (IsS70.kp tI (uR d2.out) (by decide) hk); have HK := sd (KeepBut.trans tK hk (.inl rfl)); have HB := sd (hb); have HI0 := sd (hi); clear hb hk hi) | ((with_reducible refine gate_callee (f := 41) rfl ?_); refine goesL_ (some 32) rfl rfl Tryz.func41 (by kernel_rfl) rfl #[.pointer (some ⟨g, 0, none⟩), .int .u8 93] rfl tM ?_; (with_reducible refine (spec_reader_take.calls g l7 l8 93 true m6 m7 w0 _ ?_ ?_ A15.out).mono ?_); exact tI; exact tB; rintro e w27 ⟨rfl, hi, hb, hk⟩; refine ⟨_, rfl, ?_⟩; have b4 := sd (KeepBut.blk hk (g' := a4) tL c7.out (by simp)); have d2 := sd (IsS70.kp tI (uR d2.out) (by decide) hk); have HK := sd (KeepBut.trans tK hk (.inl rfl)); have HB := sd (hb); have HI0 := sd (hi); clear hb hk hi))
       go_ret2
       exact ⟨_, tE, Kd.R_mono (uR d2.out) (fun _ hk => trivial), tI, tB, tK⟩
      ·replace c16 := Bool.eq_false_iff.mpr c16
       subst c16
       rw [if_neg (show ¬ (false = true) by decide)] at H
       replace H := Option.bind_eq_some_iff.mp H
       obtain ⟨⟨ab0, p6, p7⟩, m3, H⟩ := H
       try dsimp only at H
       have A28 := sd m3
       clear m3
       by_cases c29 : ab0 = true
       ·subst c29
        rw [if_pos rfl] at H
        replace H := Option.bind_eq_some_iff.mp H
        obtain ⟨⟨x2, x3⟩, x8, H⟩ := H
        try dsimp only at H
        have A30 := sd x8
        clear x8
        have H' := sd H
        clear H
        go_wp2_with (first | ((with_reducible refine gate_callee (f := 37) rfl ?_); refine goesL_ (some 20) rfl rfl Tryz.func37 (by kernel_rfl) rfl #[.pointer (some ⟨g, 0, none⟩)] rfl tM ?_; (with_reducible refine (ih_37 k1 (by have := HK1.out; omega) g d4 a6 e1 e2 e3 b6 c5 true g1 g2 w0 _ ?_ ?_ A11.out).mono ?_); exact tI; exact tB; rintro e w31 ⟨p4, p5, rfl, ho0, ho1, hi, hb, hk⟩; refine ⟨_, rfl, ?_⟩; have c0 := sd (Kd.R_lower ho0 (keep_size (w := w) (g := g) (row := none) tK)); have c1 := sd (Kd.R_lower (Kd.R_new' ho1 (Kd.R_lt (uR HO_4.out))) (keep_size (w := w) (g := g) (row := none) tK)); have HO_4 := sd (Kd.R_mono (Kd.R_told (Kd.R_told (Kd.R_oldK (IsS70.apart (g := g) tI (uR HO_4.out) (by decide)) hk) (Kd.R_base ho0)) (Kd.R_base ho1)) (fun _ h_ => h_.1)); have HK := sd (KeepBut.trans tK hk (.inl rfl)); have HB := sd (hb); have HI0 := sd (hi); clear hb hk hi ho0 ho1) | ((with_reducible refine gate_dst (N := 5) rfl ?_); refine box_event (by rfl) (N := 5) (by rfl) (cs := #[.int .i64 0, .int .i64 0, .int .i64 0, .slice none 0 0, .slice none 0 0]) (t := 60) tS ?_; intro a4 hg w32 hbox hb; have HO_4 := sd (Kd.R_below (Kd.R_elderB (uR HO_4.out) a4 (Nat.le_of_eq hg.symm)) hb); have c0 := sd (Kd.R_below (uR c0.out) hb); have c1 := sd (Kd.R_below (Kd.R_elderB (uR c1.out) a4 (Nat.le_of_eq hg.symm)) hb); have HB := sd (below_step tB hb); have b4 := sd (hbox); have o4 := sd (leK (w := w) (g := g) hg tK); have o5 := sd (Nat.le_trans HW0.out (leK (w := w) (g := g) hg tK)); have HK := sd (KeepBut.trans tK (KeepBut.of_below hb g none) (.inl rfl)); have NB0_265 := sd (neL hg (IsS70.lt (g := g) tI)); have c7 := sd (neR hg (IsS70.lt (g := g) tI)); have HI0 := sd (IsS70.below tI hb); clear hb hbox hg; have hnb33 := c7.out; have hnc33 := NB0_265.out; obtain ⟨z0, z1, z2, z3, z4, y0, y1, y2, y3, y4⟩ := blk5 b4.out; obtain ⟨Ao35, co35, eo35⟩ := Kd.R_slice c0.out; subst eo35; obtain ⟨Ao36, co36, eo36⟩ := Kd.R_slice c1.out; subst eo36) | ((with_reducible refine gate_store (t := 60) (p := 5) rfl ?_); refine store_event (t := 60) (p := 5) (v := ?vo_w37) (w1 := (((((w32.setCell ⟨a4, 0, none⟩ (.int .i64 e1)).setCell ⟨a4, 1, none⟩ (.int .i64 e2)).setCell ⟨a4, 2, none⟩ (.int .i64 e3)).setCell ⟨a4, 3, none⟩ (.slice Ao35 b6.length co35)).setCell ⟨a4, 4, none⟩ (.slice Ao36 c5.length co36))) (by rfl) (by rfl) (by rfl) tS ?_; intro w37 hw; have HO_4 : Aside0 (Kd.R k60 60 w37 w.heap.size (fun k_ => some k_ ≠ (.slice Ao35 b6.length co35 : Value).ownBlock ∧ some k_ ≠ (.slice Ao36 c5.length co36 : Value).ownBlock ∧ k_ ≠ a4) u4 x4_1) := ⟨(by rw [hw]; exact (Kd.R_mono (uR (Kd.R_mono HO_4.out (fun k_ hk => (⟨hk, hk.2⟩ : _ ∧ k_ ≠ a4)))) (fun _ hk => ⟨hk.1.1.1.2, ⟨hk.1.1.2, hk.1.2⟩⟩)))⟩; have c0 : Aside0 (Kd.R k90 90 w37 w.heap.size (fun _ => True) (.slice Ao35 b6.length co35) b6) := ⟨(by rw [hw]; exact (Kd.R_mono (uR (Kd.R_types c0.out b4.out (by decide))) (fun _ hk => trivial)))⟩; have c1 : Aside0 (Kd.R k60 60 w37 w.heap.size (fun k_ => some k_ ≠ (u4 : Value).ownBlock ∧ some k_ ≠ (.slice Ao35 b6.length co35 : Value).ownBlock ∧ k_ ≠ a4) (.slice Ao36 c5.length co36) c5) := ⟨(by rw [hw]; exact (Kd.R_mono (uR (Kd.R_mono c1.out (fun k_ hk => (⟨hk, hk.2⟩ : _ ∧ k_ ≠ a4)))) (fun _ hk => ⟨hk.1.1.2, ⟨hk.1.1.1, hk.1.2⟩⟩)))⟩; have b4 : Aside0 (w37.heap[a4]? = some (.cells #[.int .i64 e1, .int .i64 e2, .int .i64 e3, .slice Ao35 b6.length co35, .slice Ao36 c5.length co36] 60 (0, 0))) := ⟨tWC⟩; have HK : Aside0 (KeepBut w w37 g none) := ⟨tWK⟩; have HB : Aside0 (Below w0.heap.size w0 w37) := ⟨tWB⟩; have HI0 : Aside0 (IsS70 w0 w37 g g1 g2) := ⟨tWI⟩; clear hw; obtain ⟨z0, z1, z2, z3, z4, y0, y1, y2, y3, y4⟩ := blk5 b4.out) | ((with_reducible refine gate_builtin (b := .append) (xs := #[.tmp 25, .tmp 27]) rfl ?_); at_builtin; refine Kd.R_append k60 w.heap.size rfl (.tmp 25) (.tmp 27) 58 60 (.agg #[(.int .i64 0), (.int .i64 0), (.int .i64 0), (.slice none 0 0), (.slice none 0 0)]) 72 rfl Tryz.underlying58 info60 rfl (by decide) (by omega) u4 x4_1 (⟨e1, e2, e3, b6, c5⟩ : S60) [.int .i64 e1, .int .i64 e2, .int .i64 e3, .slice Ao35 b6.length co35, .slice Ao36 c5.length co36] (fun k_ => k_ ≠ a4) (fun k_ => ((fun k_ => k_ ≠ a4)) k_ ∧ some k_ ≠ (u4 : Value).ownBlock) rfl rfl ?aP (fun _ hk => hk) ?aF ?aO (Below.refl _ _) ?aS ?aL ?_; (case aP => exact k60_mkM _ _ _ (⟨e1, e2, e3, b6, c5⟩ : S60) (Kd.R_mono (Kd.R_types (Kd.R_apart' (c0.out) (Kd.R_typed HO_4.out) (by decide)) b4.out (by decide)) (fun k_ hk => ⟨hk.2, hk.1.2⟩)) (Kd.R_mono (c1.out) (fun k_ hk => ⟨hk.2.2, hk.1⟩))); (case aF => exact (fun k_ hk => Kd.freshB (g := a4) tL k_ hk)); (case aO => exact (Kd.R_mono (uR HO_4.out) (fun _ hk => hk.2.2))); (case aS => exact (keep_size (w := w) (g := g) (row := none) tK)); (case aL => have := LMc13.out; omega); intro x1 w39 ho hb hg hat; rw [← o3.out] at ho; have b4 := sd (blk_grown (g := a4) tL hg (Kd.R_away HO_4.out (fun _ hk => hk.2.2))); have HB := sd (below_weaken tB HL.out hb); have HI0 := sd (IsS70.grown tI hg (IsS70.own_ne HI0.out HO_4.out (by decide))); have HK := sd (KeepBut.trans tK (KeepBut.of_grown hg g) (Kd.R_base2 HO_4.out)); have d2 := sd (ho); clear ho hb hg hat) | ((with_reducible refine gate_callee (f := 36) rfl ?_); refine goesL_ (some 30) rfl rfl Tryz.func36 (by kernel_rfl) rfl #[.pointer (some ⟨g, 0, none⟩)] rfl tM ?_; (with_reducible refine (spec_reader_blanks.calls k1 g g1 g2 l7 l8 w0 _ ?_ ?_ A14.out).mono ?_); exact tI; exact tB; rintro e w40 ⟨rfl, hi, hb, hk⟩; refine ⟨_, rfl, ?_⟩; have b4 := sd (KeepBut.blk hk (g' := a4) tL c7.out (by simp)); have d2 := sd (IsS70.kp tI (uR d2.out) (by decide) hk); have HK := sd (KeepBut.trans tK hk (.inl rfl)); have HB := sd (hb); have HI0 := sd (hi); clear hb hk hi) | ((with_reducible refine gate_callee (f := 41) rfl ?_); refine goesL_ (some 32) rfl rfl Tryz.func41 (by kernel_rfl) rfl #[.pointer (some ⟨g, 0, none⟩), .int .u8 93] rfl tM ?_; (with_reducible refine (spec_reader_take.calls g l7 l8 93 false m6 m7 w0 _ ?_ ?_ A15.out).mono ?_); exact tI; exact tB; rintro e w41 ⟨rfl, hi, hb, hk⟩; refine ⟨_, rfl, ?_⟩; have b4 := sd (KeepBut.blk hk (g' := a4) tL c7.out (by simp)); have d2 := sd (IsS70.kp tI (uR d2.out) (by decide) hk); have HK := sd (KeepBut.trans tK hk (.inl rfl)); have HB := sd (hb); have HI0 := sd (hi); clear hb hk hi) | ((with_reducible refine gate_callee (f := 41) rfl ?_); refine goesL_ (some 35) rfl rfl Tryz.func41 (by kernel_rfl) rfl #[.pointer (some ⟨g, 0, none⟩), .int .u8 44] rfl tM ?_; (with_reducible refine (spec_reader_take.calls g m6 m7 44 true p6 p7 w0 _ ?_ ?_ A28.out).mono ?_); exact tI; exact tB; rintro e w42 ⟨rfl, hi, hb, hk⟩; refine ⟨_, rfl, ?_⟩; have b4 := sd (KeepBut.blk hk (g' := a4) tL c7.out (by simp)); have d2 := sd (IsS70.kp tI (uR d2.out) (by decide) hk); have HK := sd (KeepBut.trans tK hk (.inl rfl)); have HB := sd (hb); have HI0 := sd (hi); clear hb hk hi) | ((with_reducible refine gate_callee (f := 36) rfl ?_); refine goesL_ (some 38) rfl rfl Tryz.func36 (by kernel_rfl) rfl #[.pointer (some ⟨g, 0, none⟩)] rfl tM ?_; (with_reducible refine (spec_reader_blanks.calls k1 g p6 p7 x2 x3 w0 _ ?_ ?_ A30.out).mono ?_); exact tI; exact tB; rintro e w43 ⟨rfl, hi, hb, hk⟩; refine ⟨_, rfl, ?_⟩; have b4 := sd (KeepBut.blk hk (g' := a4) tL c7.out (by simp)); have d2 := sd (IsS70.kp tI (uR d2.out) (by decide) hk); have HK := sd (KeepBut.trans tK hk (.inl rfl)); have HB := sd (hb); have HI0 := sd (hi); clear hb hk hi))
        go_roundg k1
        case measure => have := HK1.out; omega
        case rel => exact ⟨(l3), (x2), (x3), H', ⟨by have := HK1.out; omega⟩, ⟨Kd.R_mono (uR d2.out) (fun _ hk => trivial)⟩, ⟨tI⟩, ⟨tK⟩, ⟨tB⟩⟩
       ·replace c29 := Bool.eq_false_iff.mpr c29
        subst c29
        rw [if_neg (show ¬ (false = true) by decide)] at H
        simp only [Option.some.injEq, Prod.mk.injEq] at H
        obtain ⟨rfl, rfl, rfl, rfl⟩ := H
        go_wp2_with (first | ((with_reducible refine gate_callee (f := 37) rfl ?_); refine goesL_ (some 20) rfl rfl Tryz.func37 (by kernel_rfl) rfl #[.pointer (some ⟨g, 0, none⟩)] rfl tM ?_; (with_reducible refine (ih_37 k1 (by have := HK1.out; omega) g d4 a6 e1 e2 e3 b6 c5 true g1 g2 w0 _ ?_ ?_ A11.out).mono ?_); exact tI; exact tB; rintro e w44 ⟨p4, p5, rfl, ho0, ho1, hi, hb, hk⟩; refine ⟨_, rfl, ?_⟩; have c0 := sd (Kd.R_lower ho0 (keep_size (w := w) (g := g) (row := none) tK)); have c1 := sd (Kd.R_lower (Kd.R_new' ho1 (Kd.R_lt (uR HO_4.out))) (keep_size (w := w) (g := g) (row := none) tK)); have HO_4 := sd (Kd.R_mono (Kd.R_told (Kd.R_told (Kd.R_oldK (IsS70.apart (g := g) tI (uR HO_4.out) (by decide)) hk) (Kd.R_base ho0)) (Kd.R_base ho1)) (fun _ h_ => h_.1)); have HK := sd (KeepBut.trans tK hk (.inl rfl)); have HB := sd (hb); have HI0 := sd (hi); clear hb hk hi ho0 ho1) | ((with_reducible refine gate_dst (N := 5) rfl ?_); refine box_event (by rfl) (N := 5) (by rfl) (cs := #[.int .i64 0, .int .i64 0, .int .i64 0, .slice none 0 0, .slice none 0 0]) (t := 60) tS ?_; intro a4 hg w45 hbox hb; have HO_4 := sd (Kd.R_below (Kd.R_elderB (uR HO_4.out) a4 (Nat.le_of_eq hg.symm)) hb); have c0 := sd (Kd.R_below (uR c0.out) hb); have c1 := sd (Kd.R_below (Kd.R_elderB (uR c1.out) a4 (Nat.le_of_eq hg.symm)) hb); have HB := sd (below_step tB hb); have b4 := sd (hbox); have o4 := sd (leK (w := w) (g := g) hg tK); have o5 := sd (Nat.le_trans HW0.out (leK (w := w) (g := g) hg tK)); have HK := sd (KeepBut.trans tK (KeepBut.of_below hb g none) (.inl rfl)); have NB0_265 := sd (neL hg (IsS70.lt (g := g) tI)); have c7 := sd (neR hg (IsS70.lt (g := g) tI)); have HI0 := sd (IsS70.below tI hb); clear hb hbox hg; have hnb46 := c7.out; have hnc46 := NB0_265.out; obtain ⟨z0, z1, z2, z3, z4, y0, y1, y2, y3, y4⟩ := blk5 b4.out; obtain ⟨Ao48, co48, eo48⟩ := Kd.R_slice c0.out; subst eo48; obtain ⟨Ao49, co49, eo49⟩ := Kd.R_slice c1.out; subst eo49) | ((with_reducible refine gate_store (t := 60) (p := 5) rfl ?_); refine store_event (t := 60) (p := 5) (v := ?vo_w50) (w1 := (((((w45.setCell ⟨a4, 0, none⟩ (.int .i64 e1)).setCell ⟨a4, 1, none⟩ (.int .i64 e2)).setCell ⟨a4, 2, none⟩ (.int .i64 e3)).setCell ⟨a4, 3, none⟩ (.slice Ao48 b6.length co48)).setCell ⟨a4, 4, none⟩ (.slice Ao49 c5.length co49))) (by rfl) (by rfl) (by rfl) tS ?_; intro w50 hw; have HO_4 : Aside0 (Kd.R k60 60 w50 w.heap.size (fun k_ => some k_ ≠ (.slice Ao48 b6.length co48 : Value).ownBlock ∧ some k_ ≠ (.slice Ao49 c5.length co49 : Value).ownBlock ∧ k_ ≠ a4) u4 x4_1) := ⟨(by rw [hw]; exact (Kd.R_mono (uR (Kd.R_mono HO_4.out (fun k_ hk => (⟨hk, hk.2⟩ : _ ∧ k_ ≠ a4)))) (fun _ hk => ⟨hk.1.1.1.2, ⟨hk.1.1.2, hk.1.2⟩⟩)))⟩; have c0 : Aside0 (Kd.R k90 90 w50 w.heap.size (fun _ => True) (.slice Ao48 b6.length co48) b6) := ⟨(by rw [hw]; exact (Kd.R_mono (uR (Kd.R_types c0.out b4.out (by decide))) (fun _ hk => trivial)))⟩; have c1 : Aside0 (Kd.R k60 60 w50 w.heap.size (fun k_ => some k_ ≠ (u4 : Value).ownBlock ∧ some k_ ≠ (.slice Ao48 b6.length co48 : Value).ownBlock ∧ k_ ≠ a4) (.slice Ao49 c5.length co49) c5) := ⟨(by rw [hw]; exact (Kd.R_mono (uR (Kd.R_mono c1.out (fun k_ hk => (⟨hk, hk.2⟩ : _ ∧ k_ ≠ a4)))) (fun _ hk => ⟨hk.1.1.2, ⟨hk.1.1.1, hk.1.2⟩⟩)))⟩; have b4 : Aside0 (w50.heap[a4]? = some (.cells #[.int .i64 e1, .int .i64 e2, .int .i64 e3, .slice Ao48 b6.length co48, .slice Ao49 c5.length co49] 60 (0, 0))) := ⟨tWC⟩; have HK : Aside0 (KeepBut w w50 g none) := ⟨tWK⟩; have HB : Aside0 (Below w0.heap.size w0 w50) := ⟨tWB⟩; have HI0 : Aside0 (IsS70 w0 w50 g g1 g2) := ⟨tWI⟩; clear hw; obtain ⟨z0, z1, z2, z3, z4, y0, y1, y2, y3, y4⟩ := blk5 b4.out) | ((with_reducible refine gate_builtin (b := .append) (xs := #[.tmp 25, .tmp 27]) rfl ?_); at_builtin; refine Kd.R_append k60 w.heap.size rfl (.tmp 25) (.tmp 27) 58 60 (.agg #[(.int .i64 0), (.int .i64 0), (.int .i64 0), (.slice none 0 0), (.slice none 0 0)]) 72 rfl Tryz.underlying58 info60 rfl (by decide) (by omega) u4 x4_1 (⟨e1, e2, e3, b6, c5⟩ : S60) [.int .i64 e1, .int .i64 e2, .int .i64 e3, .slice Ao48 b6.length co48, .slice Ao49 c5.length co49] (fun k_ => k_ ≠ a4) (fun k_ => ((fun k_ => k_ ≠ a4)) k_ ∧ some k_ ≠ (u4 : Value).ownBlock) rfl rfl ?aP (fun _ hk => hk) ?aF ?aO (Below.refl _ _) ?aS ?aL ?_; (case aP => exact k60_mkM _ _ _ (⟨e1, e2, e3, b6, c5⟩ : S60) (Kd.R_mono (Kd.R_types (Kd.R_apart' (c0.out) (Kd.R_typed HO_4.out) (by decide)) b4.out (by decide)) (fun k_ hk => ⟨hk.2, hk.1.2⟩)) (Kd.R_mono (c1.out) (fun k_ hk => ⟨hk.2.2, hk.1⟩))); (case aF => exact (fun k_ hk => Kd.freshB (g := a4) tL k_ hk)); (case aO => exact (Kd.R_mono (uR HO_4.out) (fun _ hk => hk.2.2))); (case aS => exact (keep_size (w := w) (g := g) (row := none) tK)); (case aL => have := LMc13.out; omega); intro x1 w52 ho hb hg hat; rw [← o3.out] at ho; have b4 := sd (blk_grown (g := a4) tL hg (Kd.R_away HO_4.out (fun _ hk => hk.2.2))); have HB := sd (below_weaken tB HL.out hb); have HI0 := sd (IsS70.grown tI hg (IsS70.own_ne HI0.out HO_4.out (by decide))); have HK := sd (KeepBut.trans tK (KeepBut.of_grown hg g) (Kd.R_base2 HO_4.out)); have d2 := sd (ho); clear ho hb hg hat) | ((with_reducible refine gate_callee (f := 36) rfl ?_); refine goesL_ (some 30) rfl rfl Tryz.func36 (by kernel_rfl) rfl #[.pointer (some ⟨g, 0, none⟩)] rfl tM ?_; (with_reducible refine (spec_reader_blanks.calls k1 g g1 g2 l7 l8 w0 _ ?_ ?_ A14.out).mono ?_); exact tI; exact tB; rintro e w53 ⟨rfl, hi, hb, hk⟩; refine ⟨_, rfl, ?_⟩; have b4 := sd (KeepBut.blk hk (g' := a4) tL c7.out (by simp)); have d2 := sd (IsS70.kp tI (uR d2.out) (by decide) hk); have HK := sd (KeepBut.trans tK hk (.inl rfl)); have HB := sd (hb); have HI0 := sd (hi); clear hb hk hi) | ((with_reducible refine gate_callee (f := 41) rfl ?_); refine goesL_ (some 32) rfl rfl Tryz.func41 (by kernel_rfl) rfl #[.pointer (some ⟨g, 0, none⟩), .int .u8 93] rfl tM ?_; (with_reducible refine (spec_reader_take.calls g l7 l8 93 false m6 m7 w0 _ ?_ ?_ A15.out).mono ?_); exact tI; exact tB; rintro e w54 ⟨rfl, hi, hb, hk⟩; refine ⟨_, rfl, ?_⟩; have b4 := sd (KeepBut.blk hk (g' := a4) tL c7.out (by simp)); have d2 := sd (IsS70.kp tI (uR d2.out) (by decide) hk); have HK := sd (KeepBut.trans tK hk (.inl rfl)); have HB := sd (hb); have HI0 := sd (hi); clear hb hk hi) | ((with_reducible refine gate_callee (f := 41) rfl ?_); refine goesL_ (some 35) rfl rfl Tryz.func41 (by kernel_rfl) rfl #[.pointer (some ⟨g, 0, none⟩), .int .u8 44] rfl tM ?_; (with_reducible refine (spec_reader_take.calls g m6 m7 44 false p6 p7 w0 _ ?_ ?_ A28.out).mono ?_); exact tI; exact tB; rintro e w55 ⟨rfl, hi, hb, hk⟩; refine ⟨_, rfl, ?_⟩; have b4 := sd (KeepBut.blk hk (g' := a4) tL c7.out (by simp)); have d2 := sd (IsS70.kp tI (uR d2.out) (by decide) hk); have HK := sd (KeepBut.trans tK hk (.inl rfl)); have HB := sd (hb); have HI0 := sd (hi); clear hb hk hi))
        go_ret2
        exact ⟨_, tE, tN, tI, tB, tK⟩
     ·rw [if_neg c13] at H
      exact absurd H (by simp)
    ·replace c12 := Bool.eq_false_iff.mpr c12
     subst c12
     rw [if_neg (show ¬ (false = true) by decide)] at H
     simp only [Option.some.injEq, Prod.mk.injEq] at H
     obtain ⟨rfl, rfl, rfl, rfl⟩ := H
     go_wp2_with (first | ((with_reducible refine gate_callee (f := 37) rfl ?_); refine goesL_ (some 20) rfl rfl Tryz.func37 (by kernel_rfl) rfl #[.pointer (some ⟨g, 0, none⟩)] rfl tM ?_; (with_reducible refine (ih_37 k1 (by have := HK1.out; omega) g d4 a6 e1 e2 e3 b6 c5 false g1 g2 w0 _ ?_ ?_ A11.out).mono ?_); exact tI; exact tB; rintro e w56 ⟨p4, p5, rfl, ho0, ho1, hi, hb, hk⟩; refine ⟨_, rfl, ?_⟩; have c0 := sd (Kd.R_lower ho0 (keep_size (w := w) (g := g) (row := none) tK)); have c1 := sd (Kd.R_lower (Kd.R_new' ho1 (Kd.R_lt (uR HO_4.out))) (keep_size (w := w) (g := g) (row := none) tK)); have HO_4 := sd (Kd.R_mono (Kd.R_told (Kd.R_told (Kd.R_oldK (IsS70.apart (g := g) tI (uR HO_4.out) (by decide)) hk) (Kd.R_base ho0)) (Kd.R_base ho1)) (fun _ h_ => h_.1)); have HK := sd (KeepBut.trans tK hk (.inl rfl)); have HB := sd (hb); have HI0 := sd (hi); clear hb hk hi ho0 ho1) | ((with_reducible refine gate_dst (N := 5) rfl ?_); refine box_event (by rfl) (N := 5) (by rfl) (cs := #[.int .i64 0, .int .i64 0, .int .i64 0, .slice none 0 0, .slice none 0 0]) (t := 60) tS ?_; intro a4 hg w57 hbox hb; have HO_4 := sd (Kd.R_below (Kd.R_elderB (uR HO_4.out) a4 (Nat.le_of_eq hg.symm)) hb); have c0 := sd (Kd.R_below (uR c0.out) hb); have c1 := sd (Kd.R_below (Kd.R_elderB (uR c1.out) a4 (Nat.le_of_eq hg.symm)) hb); have HB := sd (below_step tB hb); have b4 := sd (hbox); have o4 := sd (leK (w := w) (g := g) hg tK); have o5 := sd (Nat.le_trans HW0.out (leK (w := w) (g := g) hg tK)); have HK := sd (KeepBut.trans tK (KeepBut.of_below hb g none) (.inl rfl)); have NB0_265 := sd (neL hg (IsS70.lt (g := g) tI)); have c7 := sd (neR hg (IsS70.lt (g := g) tI)); have HI0 := sd (IsS70.below tI hb); clear hb hbox hg; have hnb58 := c7.out; have hnc58 := NB0_265.out; obtain ⟨z0, z1, z2, z3, z4, y0, y1, y2, y3, y4⟩ := blk5 b4.out; obtain ⟨Ao60, co60, eo60⟩ := Kd.R_slice c0.out; subst eo60; obtain ⟨Ao61, co61, eo61⟩ := Kd.R_slice c1.out; subst eo61))
     go_ret2
     exact ⟨_, tE, tN, tI, tB, tK⟩
theorem spec_reader_value.calls_g : ∀ k, S37 k ∧ S61 k ∧ S62 k := by
 intro k
 induction k using Nat.strongRecOn with
 | _ k ih => exact ⟨spec_reader_value.calls_step k (fun j_ h_ => (ih j_ h_).1) (fun j_ h_ => (ih j_ h_).2.1) (fun j_ h_ => (ih j_ h_).2.2), spec_reader_members.calls_step k (fun j_ h_ => (ih j_ h_).1) (fun j_ h_ => (ih j_ h_).2.1) (fun j_ h_ => (ih j_ h_).2.2), spec_reader_elements.calls_step k (fun j_ h_ => (ih j_ h_).1) (fun j_ h_ => (ih j_ h_).2.1) (fun j_ h_ => (ih j_ h_).2.2)⟩
theorem spec_reader_value.calls (k : Nat) : ∀ (g : Nat) (s0_0 : ByteArray) (s0_1 : Int) (r1 : Int) (r2 : Int) (r3 : Int) (r4 : List (S90)) (r5 : List (S60)) (r6 : Bool) (r7 : ByteArray) (r8 : Int) (w0 w : World) (hI : IsS70 w0 w g s0_0 s0_1) (hB : Below w0.heap.size w0 w) (h : spec_reader_value.f k s0_0 s0_1 = some (r1, r2, r3, r4, r5, r6, r7, r8)), Calls Tryz.prog 37 #[.pointer (some ⟨g, 0, none⟩)] w fun e w' => ∃ v3_ v4_ : Value, e = .returned (.tuple #[.agg #[.int .i64 r1, .int .i64 r2, .int .i64 r3, v3_, v4_], .bool r6]) ∧ Kd.R k90 90 w' w.heap.size (fun _ => True) v3_ r4 ∧ Kd.R k60 60 w' w.heap.size (fun k_ => some k_ ≠ (v3_ : Value).ownBlock) v4_ r5 ∧ IsS70 w0 w' g r7 r8 ∧ Below w0.heap.size w0 w' ∧ KeepBut w w' g none := (spec_reader_value.calls_g k).1
theorem spec_reader_members.calls (k : Nat) : ∀ (g : Nat) (s0_0 : ByteArray) (s0_1 : Int) (r1 : List (S90)) (r2 : List (S60)) (r3 : Bool) (r4 : ByteArray) (r5 : Int) (w0 w : World) (hI : IsS70 w0 w g s0_0 s0_1) (hB : Below w0.heap.size w0 w) (h : spec_reader_members.f k s0_0 s0_1 = some (r1, r2, r3, r4, r5)), Calls Tryz.prog 61 #[.pointer (some ⟨g, 0, none⟩)] w fun e w' => ∃ v0_ v1_ : Value, e = .returned (.tuple #[v0_, v1_, .bool r3]) ∧ Kd.R k90 90 w' w.heap.size (fun _ => True) v0_ r1 ∧ Kd.R k60 60 w' w.heap.size (fun k_ => some k_ ≠ (v0_ : Value).ownBlock) v1_ r2 ∧ IsS70 w0 w' g r4 r5 ∧ Below w0.heap.size w0 w' ∧ KeepBut w w' g none := (spec_reader_value.calls_g k).2.1
theorem spec_reader_elements.calls (k : Nat) : ∀ (g : Nat) (s0_0 : ByteArray) (s0_1 : Int) (r1 : List (S60)) (r2 : Bool) (r3 : ByteArray) (r4 : Int) (w0 w : World) (hI : IsS70 w0 w g s0_0 s0_1) (hB : Below w0.heap.size w0 w) (h : spec_reader_elements.f k s0_0 s0_1 = some (r1, r2, r3, r4)), Calls Tryz.prog 62 #[.pointer (some ⟨g, 0, none⟩)] w fun e w' => ∃ v0_ : Value, e = .returned (.tuple #[v0_, .bool r2]) ∧ Kd.R k60 60 w' w.heap.size (fun _ => True) v0_ r1 ∧ IsS70 w0 w' g r3 r4 ∧ Below w0.heap.size w0 w' ∧ KeepBut w w' g none := (spec_reader_value.calls_g k).2.2
end Go.Proofs.YtaihmpdhaikfkaaGreatDoor.PFnFjFloat
