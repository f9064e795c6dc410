/- Walks of the functions that the law calls, printed by program and rewritten. -/
import Derived.Test.YthgpfljhmhkaiacGreatDoorProg
import Derived.Below
import Derived.Deep.Draws
import Derived.Deep.AppendLies
import Derived.Maps.AppendAt
import Derived.OwnWalk
import Derived.Laws.BytesArg
import Derived.Laws.MakeOwn
import Derived.Laws.OwnMore
import Derived.Deep.OwnRows
import Derived.Tactics
import Derived.Lib.ConvBytes
import Derived.Laws.Slices
import Derived.WalkKit
import Derived.KernelRfl
import Derived.RowKit3
import Derived.Deep.LoopGhost
import Derived.Deep.QuietTactic
import Derived.BigQuiet
import Derived.WideLaws
import Derived.Deep.DeepCutAuto
import Derived.Deep.CutBlock
import Derived.Deep.RegionHeld3
import Derived.Laws.Rows
import Derived.Lib.AppendStr
import Derived.ArgAppend
import Derived.Laws.IdiomCopy
import Derived.OrdersHeld
import Derived.Laws.BitsLemmas
import Derived.RowKit
import Derived.Test.YthgpfljhmhkaiacGreatDoorZ1
set_option linter.all false
namespace Go.Proofs.YthgpfljhmhkaiacGreatDoor.PFnJrTypedMisses
open Go.RowKit Go.Proofs.YthgpfljhmhkaiacGreatDoorW.PrintWords Go.Proofs.YthgpfljhmhkaiacGreatDoorW.PrintLast Go.Proofs.YthgpfljhmhkaiacGreatDoorW.PrintMore
attribute [local go_sem] max2_int min2_int max_two min_two max_three min_three max_four min_four
def errW : Option Int → Value
 | none => .nilIface
 | some c => .iface 0 (.int .i64 c)
theorem errW_none : errW none = .nilIface := rfl
theorem errW_some (c : Int) : errW (some c) = .iface 0 (.int .i64 c) := rfl
theorem info5 : (Tryz.prog.info? 5).map (fun i => (i.zero, i.size, i.bytes)) = some (some (.int .u8 0), 1, 1) := by kernel_rfl
theorem info9 : (Tryz.prog.info? 9).map (fun i => (i.zero, i.size, i.bytes)) = some (some (.string ⟨#[]⟩), 1, 16) := by kernel_rfl
theorem info31 : (Tryz.prog.info? 31).map (fun i => (i.zero, i.size, i.bytes)) = some (some (.agg #[(.int .i64 0), (.int .i64 0), (.int .i64 0), (.slice none 0 0), (.slice none 0 0)]), 5, 72) := by kernel_rfl
theorem info64 : (Tryz.prog.info? 64).map (fun i => (i.zero, i.size, i.bytes)) = some (some (.agg #[(.int .i64 0), (.int .i64 0)]), 2, 16) := by kernel_rfl
-- the values' own types
/-! #### struct type 64 -/
structure S64 where
 f0 : Int
 f1 : Int
def z64 : S64 := ⟨(0 : Int), (0 : Int)⟩
def k64 : Kd S64 := Kd.iso (Kd.pair (Kd.int .i64) (Kd.int .i64)) (fun x : S64 => (x.f0, x.f1))
theorem k64_open {w : World} {x : S64} {cs : List Value} (h : k64.K w x cs) : cs = [.int .i64 x.f0, .int .i64 x.f1] := by
 obtain ⟨_, _, rfl, rfl, rfl⟩ := h
 exact rfl
theorem k64_openM {w : World} {base : Nat} {ok : Nat → Prop} {x : S64} {cs : List Value} (h : k64.M w base ok x cs) : cs = [.int .i64 x.f0, .int .i64 x.f1] := by
 obtain ⟨_, _, rfl, rfl, rfl⟩ := h
 exact rfl
theorem k64_mk (w : World) (x : S64)  : k64.K w x [.int .i64 x.f0, .int .i64 x.f1] := ⟨[.int .i64 x.f0], [.int .i64 x.f1], rfl, rfl, rfl⟩
theorem k64_mkM (w : World) (base : Nat) (ok : Nat → Prop) (x : S64)  : k64.M w base ok x [.int .i64 x.f0, .int .i64 x.f1] := ⟨[.int .i64 x.f0], [.int .i64 x.f1], rfl, rfl, rfl⟩
theorem k64_mkF (W : World) (ok : Nat → Prop) (x : S64) : Kd.FK k64 W ok x [.int .i64 x.f0, .int .i64 x.f1] := fun W2 _ => k64_mk W2 x
def rd_T64 (xs : List S64) (i : Int) : S64 := xs.getD i.toNat z64
theorem at_T64 {w : World} {A : Option Addr} {n : Nat} {xs : List S64} (h : Kd.C k64 w A n xs) (i : Int) (h0 : 0 ≤ i) (h1 : i < n) : ∃ ad , A = some ad ∧ w.cell? (ad.add (i.toNat * 2)) = some (.int .i64 (rd_T64 xs i).f0) ∧ w.cell? ⟨(ad.add (i.toNat * 2)).block, (ad.add (i.toNat * 2)).off + 1, none⟩ = some (.int .i64 (rd_T64 xs i).f1) := by
 obtain ⟨ad, c, e, _, hK, hc0⟩ := Kd.C_get h z64 i h0 h1
 have hc : ∀ j u, c[j]? = some u → w.cell? (ad.add (i.toNat * 2 + j)) = some u := hc0
 obtain rfl := k64_open hK
 exact ⟨ad, e, hc 0 _ rfl, by rw [← add_field _ _ 1 (by omega)]; exact hc 1 _ rfl⟩
def rd_L3 (xs : List (List S64)) (i : Int) : (List S64) := xs.getD i.toNat ([] : List S64)
theorem at_L3 {w : World} {A : Option Addr} {n : Nat} {xs : List (List S64)} (h : Kd.C (Kd.slice 64 k64) w A n xs) (i : Int) (h0 : 0 ≤ i) (h1 : i < n) : ∃ ad A0 c0, A = some ad ∧ w.cell? (ad.add i.toNat) = some (.slice A0 (rd_L3 xs i).length c0) ∧ (rd_L3 xs i).length ≤ c0 ∧ k64.C w A0 (rd_L3 xs i).length (rd_L3 xs i) := by
 obtain ⟨ad, c, e, _, hK, hc0⟩ := Kd.C_get h ([] : List S64) i h0 h1
 have hc : ∀ j u, c[j]? = some u → w.cell? (ad.add (i.toNat * 1 + j)) = some u := hc0
 obtain ⟨A0, c0, rfl, l0, g0⟩ := hK
 exact ⟨ad, A0, c0, e, by have hq := hc 0 _ rfl; rwa [Nat.mul_one, Nat.add_zero] at hq, l0, g0⟩
/-! #### struct type 31, nested in itself -/
structure S31 where
 f0 : Int
 f1 : Int
 f2 : Int
 f3 : (List S64)
 f4 : (List S31)
def z31 : S31 := ⟨(0 : Int), (0 : Int), (0 : Int), ([] : List S64), ([] : List S31)⟩
def F31 (d : Kd S31) : Kd S31 := Kd.iso (Kd.pair (Kd.int .i64) (Kd.pair (Kd.int .i64) (Kd.pair (Kd.int .i64) (Kd.pair (Kd.slice 64 k64) (Kd.slice 31 d))))) (fun x : S31 => (x.f0, x.f1, x.f2, x.f3, x.f4))
theorem mono31 : Kd.Mono F31 := Kd.mono_iso _ (Kd.mono_pair (Kd.mono_const _) (Kd.mono_pair (Kd.mono_const _) (Kd.mono_pair (Kd.mono_const _) (Kd.mono_pair (Kd.mono_const _) (Kd.mono_slice 31 Kd.mono_id)))))
theorem sub31 : Kd.Sub F31 [31, 64] := Kd.sub_iso _ (Kd.sub_pair (Kd.sub_const _ (by decide)) (Kd.sub_pair (Kd.sub_const _ (by decide)) (Kd.sub_pair (Kd.sub_const _ (by decide)) (Kd.sub_pair (Kd.sub_const _ (by decide)) (Kd.sub_slice 31 (by decide) Kd.sub_id)))))
theorem sz31 : ∀ n, (Kd.upto F31 5 [31, 64] n).sz = 5 := Kd.upto_sz (fun _ => rfl)
def k31 : Kd S31 := Kd.fix F31 5 [31, 64] sz31 (Kd.upto_E sub31)
theorem k31_open {w : World} {x : S31} {cs : List Value} (h : k31.K w x cs) : ∃ A3 c3 A4 c4, cs = [.int .i64 x.f0, .int .i64 x.f1, .int .i64 x.f2, .slice A3 x.f3.length c3, .slice A4 x.f4.length c4] ∧ x.f3.length ≤ c3 ∧ k64.C w A3 x.f3.length x.f3 ∧ x.f4.length ≤ c4 ∧ k31.C w A4 x.f4.length x.f4 := by
 obtain ⟨n, h⟩ := h
 cases n with
 | zero => exact h.elim
 | succ n =>
  obtain ⟨_, _, rfl, rfl, ⟨_, _, rfl, rfl, ⟨_, _, rfl, rfl, ⟨_, _, rfl, ⟨A3, c3, rfl, l3, g3⟩, ⟨A4, c4, rfl, l4, g4⟩⟩⟩⟩⟩ := h
  exact ⟨A3, c3, A4, c4, rfl, l3, g3, l4, Kd.fix_C g4⟩
theorem k31_openM {w : World} {base : Nat} {ok : Nat → Prop} {x : S31} {cs : List Value} (h : k31.M w base ok x cs) : ∃ v3 v4, cs = [.int .i64 x.f0, .int .i64 x.f1, .int .i64 x.f2, v3, v4] ∧ k64.R 64 w base ok v3 x.f3 ∧ k31.R 31 w base ok v4 x.f4 := by
 obtain ⟨n, h⟩ := h
 cases n with
 | zero => exact h.elim
 | succ n =>
  obtain ⟨_, _, rfl, rfl, ⟨_, _, rfl, rfl, ⟨_, _, rfl, rfl, ⟨_, _, rfl, ⟨v3, rfl, g3⟩, ⟨v4, rfl, g4⟩⟩⟩⟩⟩ := h
  exact ⟨v3, v4, rfl, g3, Kd.fix_R g4⟩
theorem k31_mk (w : World) (x : S31) {A3 : Option Addr} {c3 : Nat} (l3 : x.f3.length ≤ c3) (g3 : k64.C w A3 x.f3.length x.f3) {A4 : Option Addr} {c4 : Nat} (l4 : x.f4.length ≤ c4) (g4 : k31.C w A4 x.f4.length x.f4) : k31.K w x [.int .i64 x.f0, .int .i64 x.f1, .int .i64 x.f2, .slice A3 x.f3.length c3, .slice A4 x.f4.length c4] := by
 obtain ⟨n4, q4⟩ := Kd.fix_C_back mono31 g4
 have r4 := Kd.upto_C_le mono31 sz31 (show n4 ≤ n4 by omega) q4
 exact ⟨n4 + 1, ⟨[.int .i64 x.f0], [.int .i64 x.f1, .int .i64 x.f2, .slice A3 x.f3.length c3, .slice A4 x.f4.length c4], rfl, rfl, ⟨[.int .i64 x.f1], [.int .i64 x.f2, .slice A3 x.f3.length c3, .slice A4 x.f4.length c4], rfl, rfl, ⟨[.int .i64 x.f2], [.slice A3 x.f3.length c3, .slice A4 x.f4.length c4], rfl, rfl, ⟨[.slice A3 x.f3.length c3], [.slice A4 x.f4.length c4], rfl, ⟨A3, c3, rfl, l3, g3⟩, ⟨A4, c4, rfl, l4, r4⟩⟩⟩⟩⟩⟩
theorem k31_mkM (w : World) (base : Nat) (ok : Nat → Prop) (x : S31) {v3 : Value} (g3 : k64.R 64 w base ok v3 x.f3) {v4 : Value} (g4 : k31.R 31 w base ok v4 x.f4) : k31.M w base ok x [.int .i64 x.f0, .int .i64 x.f1, .int .i64 x.f2, v3, v4] := by
 obtain ⟨n4, q4⟩ := Kd.fix_R_back mono31 g4
 have r4 := Kd.upto_R_le mono31 sz31 (show n4 ≤ n4 by omega) q4
 exact ⟨n4 + 1, ⟨[.int .i64 x.f0], [.int .i64 x.f1, .int .i64 x.f2, v3, v4], rfl, rfl, ⟨[.int .i64 x.f1], [.int .i64 x.f2, v3, v4], rfl, rfl, ⟨[.int .i64 x.f2], [v3, v4], rfl, rfl, ⟨[v3], [v4], rfl, ⟨v3, rfl, g3⟩, ⟨v4, rfl, r4⟩⟩⟩⟩⟩⟩
theorem k31_openF {W : World} {ok : Nat → Prop} {x : S31} {cs : List Value} (h : Kd.FK k31 W ok x cs) : ∃ A3 c3 A4 c4, cs = [.int .i64 x.f0, .int .i64 x.f1, .int .i64 x.f2, .slice A3 x.f3.length c3, .slice A4 x.f4.length c4] ∧ x.f3.length ≤ c3 ∧ Kd.F k64 W ok A3 x.f3.length x.f3 ∧ x.f4.length ≤ c4 ∧ Kd.F k31 W ok A4 x.f4.length x.f4 := by
 obtain ⟨A3, c3, A4, c4, rfl, l3, _, l4, _⟩ := k31_open (Kd.FK_now h)
 exact ⟨A3, c3, A4, c4, rfl, l3, (fun W' hW => by obtain ⟨A3_, c3_, A4_, c4_, he, l3_, g3_, l4_, g4_⟩ := k31_open (h W' hW); injection (Option.some.inj (show some (Value.slice A3 x.f3.length c3) = some (Value.slice A3_ x.f3.length c3_) from congrArg (fun l => l[3]?) he)) with ha_ _ _; rw [ha_]; exact g3_), l4, (fun W' hW => by obtain ⟨A3_, c3_, A4_, c4_, he, l3_, g3_, l4_, g4_⟩ := k31_open (h W' hW); injection (Option.some.inj (show some (Value.slice A4 x.f4.length c4) = some (Value.slice A4_ x.f4.length c4_) from congrArg (fun l => l[4]?) he)) with ha_ _ _; rw [ha_]; exact g4_)⟩
theorem k31_mkF (W : World) (ok : Nat → Prop) (x : S31) {A3 : Option Addr} {c3 : Nat} (l3 : x.f3.length ≤ c3) (g3 : Kd.F k64 W ok A3 x.f3.length x.f3) {A4 : Option Addr} {c4 : Nat} (l4 : x.f4.length ≤ c4) (g4 : Kd.F k31 W ok A4 x.f4.length x.f4) : Kd.FK k31 W ok x [.int .i64 x.f0, .int .i64 x.f1, .int .i64 x.f2, .slice A3 x.f3.length c3, .slice A4 x.f4.length c4] := fun W2 hW => k31_mk W2 x l3 (g3 W2 hW) l4 (g4 W2 hW)
def rd_T31 (xs : List S31) (i : Int) : S31 := xs.getD i.toNat z31
theorem at_T31 {w : World} {A : Option Addr} {n : Nat} {xs : List S31} (h : Kd.C k31 w A n xs) (i : Int) (h0 : 0 ≤ i) (h1 : i < n) : ∃ ad A3 c3 A4 c4, A = some ad ∧ w.cell? (ad.add (i.toNat * 5)) = some (.int .i64 (rd_T31 xs i).f0) ∧ w.cell? ⟨(ad.add (i.toNat * 5)).block, (ad.add (i.toNat * 5)).off + 1, none⟩ = some (.int .i64 (rd_T31 xs i).f1) ∧ w.cell? ⟨(ad.add (i.toNat * 5)).block, (ad.add (i.toNat * 5)).off + 2, none⟩ = some (.int .i64 (rd_T31 xs i).f2) ∧ w.cell? ⟨(ad.add (i.toNat * 5)).block, (ad.add (i.toNat * 5)).off + 3, none⟩ = some (.slice A3 (rd_T31 xs i).f3.length c3) ∧ w.cell? ⟨(ad.add (i.toNat * 5)).block, (ad.add (i.toNat * 5)).off + 4, none⟩ = some (.slice A4 (rd_T31 xs i).f4.length c4) ∧ (rd_T31 xs i).f3.length ≤ c3 ∧ k64.C w A3 (rd_T31 xs i).f3.length (rd_T31 xs i).f3 ∧ (rd_T31 xs i).f4.length ≤ c4 ∧ k31.C w A4 (rd_T31 xs i).f4.length (rd_T31 xs i).f4 := by
 obtain ⟨ad, c, e, _, hK, hc0⟩ := Kd.C_get h z31 i h0 h1
 have hc : ∀ j u, c[j]? = some u → w.cell? (ad.add (i.toNat * 5 + j)) = some u := hc0
 obtain ⟨A3, c3, A4, c4, rfl, l3, g3, l4, g4⟩ := k31_open hK
 exact ⟨ad, A3, c3, A4, c4, e, hc 0 _ rfl, by rw [← add_field _ _ 1 (by omega)]; exact hc 1 _ rfl, by rw [← add_field _ _ 2 (by omega)]; exact hc 2 _ rfl, by rw [← add_field _ _ 3 (by omega)]; exact hc 3 _ rfl, by rw [← add_field _ _ 4 (by omega)]; exact hc 4 _ rfl, l3, g3, l4, g4⟩
/-! ### closers: the walks' small steps, each a lemma whose proof is looked for where it is used -/
theorem tI {P : Prop} (h : P := by repeat (first | (with_reducible first | exact HI0.out | apply IsS88.alloc | apply IsS88.drewN | apply IsS88.drew | apply IsS88.set_0 | apply IsS88.set_1 | refine IsS88.far ?_ (Aside0.out (by assumption)) _) | exact HI0.out)) : P := h
theorem tJ {P : Prop} (h : P := by repeat (first | (with_reducible first | exact Aside0.out (by assumption) | apply IsS88.alloc | apply IsS88.drewN | apply IsS88.drew | apply IsS88.set_0 | apply IsS88.set_1 | refine IsS88.far ?_ (Aside0.out (by assumption)) _))) : P := h
theorem tK {P : Prop} (h : P := by repeat (first | (with_reducible first | exact HK.out | apply KeepBut.set_ | apply keep_drewN | apply keep_drew | apply keep_alloc | refine keep_far (w := w) ?_ (Aside0.out (by assumption)) _) | exact HK.out)) : P := h
theorem tB {P : Prop} (h : P := by repeat (first | (with_reducible first | exact HB.out | apply below_alloc | apply pw_below_drewN | apply below_drew1 | refine below_set ?_ (IsS88.ge HI0.out) | refine below_set ?_ (Aside0.out (by assumption)) | refine below_set ?_ (IsS88.ge (Aside0.out (by assumption)))) | exact HB.out)) : P := h
theorem tL {P : Prop} (h : P := by (with_reducible repeat (first | refine blk_drewN ?_ _ | refine blk_drew ?_ | refine blk_alloc ?_ _)); exact Aside0.out (by assumption)) : P := h
theorem blkF0 {w : World} {g : Nat} {o : Obj} (h : w.heap[g]? = some o) {p : Addr} (hp : g ≠ p.block) (u : Value) : (w.setCell p u).heap[g]? = some o := (Below.heap_setCell w p u g hp).trans h
theorem tC {P : Prop} (h : P := by repeat (first | (with_reducible first | refine blk_drewN ?_ _ | refine blk_drew ?_ | refine blk_alloc ?_ _ | apply blk_put) | (apply blkF0; (case hp => exact Aside0.out (by assumption))) | exact Aside0.out (by assumption) | (simp only [List.setIfInBounds_toArray, List.set_cons_zero, List.set_cons_succ]; done) | (simp only [List.setIfInBounds_toArray, List.set_cons_zero, List.set_cons_succ]; exact rfl) | exact (rfl : Array.setIfInBounds _ _ _ = _))) : P := h
theorem tM {P : Prop} (h : P := by (try simp only [List.map_toArray, List.map_cons, List.map_nil]); first | done | rfl | (simp only [List.length_drop, List.length_take]; rfl)) : P := h
theorem tE {P : Prop} (h : P := by first | rfl | (simp [errW_none, errW_some] <;> rfl) | (simp [*, errW_none, errW_some] <;> rfl)) : P := h
theorem tN {P : Prop} (h : P := by first | exact Kd.R_nil _ _ _ _ _ | exact Kd.N_nil _ _ _ _ _ | exact Kd.V_nil _ _ _ _ _ | exact Kd.Q_nil _ _ _ _ _ | exact Kd.S_nil _ _ _ _ _) : P := h
theorem tS {P : Prop} (h : P := by first | (go_simp; done) | (go_simp; rfl)) : P := h
theorem tF {P : Prop} (h : P := by first | rfl | (simp; done) | (simp [*]; done)) : P := h
theorem tX {P : Prop} (h : P := by exact of_decide_eq_true (by first | (with_reducible assumption) | assumption)) : P := h
theorem tWI {P : Prop} (h : P := by rw [hw]; exact tI) : P := h
theorem tWK {P : Prop} (h : P := by rw [hw]; exact tK) : P := h
theorem tWB {P : Prop} (h : P := by rw [hw]; exact tB) : P := h
theorem tWC {P : Prop} (h : P := by rw [hw]; exact tC) : P := h
theorem tWL {P : Prop} (h : P := by rw [hw]; exact tL) : P := h
theorem farRa {α : Type} {d : Kd α} {e base : Nat} {A : Nat → Prop} {v : Value} {xs : List α} {W : World} {g i : Nat} {u : Value} (h : d.R e W base (fun k => A k ∧ k ≠ g) v xs) : d.R e (W.setCell ⟨g, i, none⟩ u) base (fun k => A k ∧ k ≠ g) v xs := Kd.R_far h (fun _ hk => hk.2) u
theorem farRb {α : Type} {d : Kd α} {e base : Nat} {A B : Nat → Prop} {v : Value} {xs : List α} {W : World} {g i : Nat} {u : Value} (h : d.R e W base (fun k => (A k ∧ k ≠ g) ∧ B k) v xs) : d.R e (W.setCell ⟨g, i, none⟩ u) base (fun k => (A k ∧ k ≠ g) ∧ B k) v xs := Kd.R_far h (fun _ hk => hk.1.2) u
theorem farRc {α : Type} {d : Kd α} {e base : Nat} {A B C : Nat → Prop} {v : Value} {xs : List α} {W : World} {g i : Nat} {u : Value} (h : d.R e W base (fun k => ((A k ∧ k ≠ g) ∧ B k) ∧ C k) v xs) : d.R e (W.setCell ⟨g, i, none⟩ u) base (fun k => ((A k ∧ k ≠ g) ∧ B k) ∧ C k) v xs := Kd.R_far h (fun _ hk => hk.1.1.2) u
theorem farVa {α : Type} {d : Kd α} {e base : Nat} {A : Nat → Prop} {v : Value} {xs : List α} {W : World} {g i : Nat} {u : Value} (h : Kd.V d e W base (fun k => A k ∧ k ≠ g) v xs) : Kd.V d e (W.setCell ⟨g, i, none⟩ u) base (fun k => A k ∧ k ≠ g) v xs := Kd.V_far h (fun _ hk => hk.2) u
theorem farVb {α : Type} {d : Kd α} {e base : Nat} {A B : Nat → Prop} {v : Value} {xs : List α} {W : World} {g i : Nat} {u : Value} (h : Kd.V d e W base (fun k => (A k ∧ k ≠ g) ∧ B k) v xs) : Kd.V d e (W.setCell ⟨g, i, none⟩ u) base (fun k => (A k ∧ k ≠ g) ∧ B k) v xs := Kd.V_far h (fun _ hk => hk.1.2) u
theorem farVc {α : Type} {d : Kd α} {e base : Nat} {A B C : Nat → Prop} {v : Value} {xs : List α} {W : World} {g i : Nat} {u : Value} (h : Kd.V d e W base (fun k => ((A k ∧ k ≠ g) ∧ B k) ∧ C k) v xs) : Kd.V d e (W.setCell ⟨g, i, none⟩ u) base (fun k => ((A k ∧ k ≠ g) ∧ B k) ∧ C k) v xs := Kd.V_far h (fun _ hk => hk.1.1.2) u
theorem uR {α : Type} {d : Kd α} {e base : Nat} {ok : Nat → Prop} {v : Value} {xs : List α} {W W' : World} (h : d.R e W base ok v xs) (f : d.R e W base ok v xs → d.R e W' base ok v xs := by intro h_; repeat (first | (with_reducible first | exact h_ | apply Kd.R_alloc | apply Kd.R_drewN | apply Kd.R_drew | apply farRa | apply farRb | apply farRc))) : d.R e W' base ok v xs := f h
theorem uV {α : Type} {d : Kd α} {e base : Nat} {ok : Nat → Prop} {v : Value} {xs : List α} {W W' : World} (h : Kd.V d e W base ok v xs) (f : Kd.V d e W base ok v xs → Kd.V d e W' base ok v xs := by intro h_; repeat (first | (with_reducible first | exact h_ | apply Kd.V_alloc | apply Kd.V_drewN | apply Kd.V_drew | apply farVa | apply farVb | apply farVc))) : Kd.V d e W' base ok v xs := f h
theorem blk5 {W : World} {g : Nat} {t : TypeId} {a b c d e : Value} (h : W.heap[g]? = some (.cells #[a, b, c, d, e] t (0, 0))) :
  W.cell? ⟨g, 0, none⟩ = some a ∧ W.cell? ⟨g, 1, none⟩ = some b ∧ W.cell? ⟨g, 2, none⟩ = some c ∧ W.cell? ⟨g, 3, none⟩ = some d ∧ W.cell? ⟨g, 4, none⟩ = some e ∧
   W.frozen? ⟨g, 0, none⟩ = false ∧ W.frozen? ⟨g, 1, none⟩ = false ∧ W.frozen? ⟨g, 2, none⟩ = false ∧ W.frozen? ⟨g, 3, none⟩ = false ∧ W.frozen? ⟨g, 4, none⟩ = false :=
 ⟨(blk_cell h 0).trans rfl, (blk_cell h 1).trans rfl, (blk_cell h 2).trans rfl, (blk_cell h 3).trans rfl, (blk_cell h 4).trans rfl, blk_frozen h 0, blk_frozen h 1, blk_frozen h 2, blk_frozen h 3, blk_frozen h 4⟩
theorem neL {a gb n : Nat} (hg : gb = n) (h : a < n) : a ≠ gb := by omega
theorem neR {a gb n : Nat} (hg : gb = n) (h : a < n) : gb ≠ a := by omega
theorem leK {w W : World} {g gb : Nat} (hg : gb = W.heap.size) (h : KeepBut w W g none) : w.heap.size ≤ gb := hg ▸ keep_size h
theorem leB {w W : World} {gb : Nat} (hg : gb = W.heap.size) (h : Below w.heap.size w W) : w.heap.size ≤ gb := hg ▸ below_size h
end Go.Proofs.YthgpfljhmhkaiacGreatDoor.PFnJrTypedMisses
