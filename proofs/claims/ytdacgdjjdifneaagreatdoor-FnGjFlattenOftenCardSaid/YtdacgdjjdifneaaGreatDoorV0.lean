/- Walks of functions that the law calls, printed and rewritten by program. -/
import Derived.Test.YtdacgdjjdifneaaGreatDoorProg
import Derived.Below
import Derived.Deep.Draws
import Derived.Deep.AppendLies
import Derived.Maps.AppendAt
import Derived.OwnWalk
import Derived.Laws.BytesArg
import Derived.Laws.MakeOwn
import Derived.Laws.OwnMore
import Derived.Deep.OwnRows
import Derived.Tactics
import Derived.Lib.ConvBytes
import Derived.Laws.Slices
import Derived.WalkKit
import Derived.KernelRfl
import Derived.RowKit3
import Derived.Deep.LoopGhost
import Derived.Deep.QuietTactic
import Derived.BigQuiet
import Derived.WideLaws
import Derived.Deep.DeepCutAuto
import Derived.Deep.CutBlock
import Derived.Deep.RegionHeld3
import Derived.Laws.Rows
import Derived.Lib.AppendStr
import Derived.ArgAppend
import Derived.Laws.IdiomCopy
import Derived.OrdersHeld
import Derived.Laws.BitsLemmas
import Derived.RowKit
import Derived.Test.YtdacgdjjdifneaaGreatDoorZ1
set_option linter.all false
-- LAID BY A PROGRAM OF THIS SESSION (a patched scratch copy of the print; see wip/patchprint.py)
namespace Go.Proofs.YtdacgdjjdifneaaGreatDoor.PFnGjFlattenOften
open Go.RowKit Go.Proofs.YtdacgdjjdifneaaGreatDoorW.PrintWords Go.Proofs.YtdacgdjjdifneaaGreatDoorW.PrintLast Go.Proofs.YtdacgdjjdifneaaGreatDoorW.PrintMore
attribute [local go_sem] max2_int min2_int max_two min_two max_three min_three max_four min_four
def errW : Option Int → Value
 | none => .nilIface
 | some c => .iface 0 (.int .i64 c)
theorem errW_none : errW none = .nilIface := rfl
theorem errW_some (c : Int) : errW (some c) = .iface 0 (.int .i64 c) := rfl
theorem info5 : (Tryz.prog.info? 5).map (fun i => (i.zero, i.size, i.bytes)) = some (some (.int .u8 0), 1, 1) := by kernel_rfl
theorem info9 : (Tryz.prog.info? 9).map (fun i => (i.zero, i.size, i.bytes)) = some (some (.string ⟨#[]⟩), 1, 16) := by kernel_rfl
theorem info25 : (Tryz.prog.info? 25).map (fun i => (i.zero, i.size, i.bytes)) = some (some (.agg #[(.int .i64 0), (.string ⟨#[]⟩), (.slice none 0 0), (.slice none 0 0)]), 4, 72) := by kernel_rfl
theorem info31 : (Tryz.prog.info? 31).map (fun i => (i.zero, i.size, i.bytes)) = some (some (.agg #[(.int .i64 0), (.int .i64 0), (.int .i64 0), (.slice none 0 0), (.slice none 0 0)]), 5, 72) := by kernel_rfl
theorem info54 : (Tryz.prog.info? 54).map (fun i => (i.zero, i.size, i.bytes)) = some (some (.agg #[(.int .i64 0), (.int .i64 0)]), 2, 16) := by kernel_rfl
-- the values' own types
structure S54 where
 f0 : Int
 f1 : Int
def z54 : S54 := ⟨(0 : Int), (0 : Int)⟩
def k54 : Kd S54 := Kd.iso (Kd.pair (Kd.int .i64) (Kd.int .i64)) (fun x : S54 => (x.f0, x.f1))
theorem k54_open {w : World} {x : S54} {cs : List Value} (h : k54.K w x cs) : cs = [.int .i64 x.f0, .int .i64 x.f1] := by
 obtain ⟨_, _, rfl, rfl, rfl⟩ := h; exact rfl
theorem k54_mkM (w : World) (base : Nat) (ok : Nat → Prop) (x : S54)  : k54.M w base ok x [.int .i64 x.f0, .int .i64 x.f1] := ⟨[.int .i64 x.f0], [.int .i64 x.f1], rfl, rfl, rfl⟩
def rd_T54 (xs : List S54) (i : Int) : S54 := xs.getD i.toNat z54
theorem at_T54 {w : World} {A : Option Addr} {n : Nat} {xs : List S54} (h : Kd.C k54 w A n xs) (i : Int) (h0 : 0 ≤ i) (h1 : i < n) : ∃ ad , A = some ad ∧ w.cell? (ad.add (i.toNat * 2)) = some (.int .i64 (rd_T54 xs i).f0) ∧ w.cell? ⟨(ad.add (i.toNat * 2)).block, (ad.add (i.toNat * 2)).off + 1, none⟩ = some (.int .i64 (rd_T54 xs i).f1) := by
 obtain ⟨ad, c, e, _, hK, hc0⟩ := Kd.C_get h z54 i h0 h1; have hc : ∀ j u, c[j]? = some u → w.cell? (ad.add (i.toNat * 2 + j)) = some u := hc0; obtain rfl := k54_open hK; exact ⟨ad, e, hc 0 _ rfl, by rw [← add_field _ _ 1 (by omega)]; exact hc 1 _ rfl⟩
structure S31 where
 f0 : Int
 f1 : Int
 f2 : Int
 f3 : (List S54)
 f4 : (List S31)
def z31 : S31 := ⟨(0 : Int), (0 : Int), (0 : Int), ([] : List S54), ([] : List S31)⟩
def F31 (d : Kd S31) : Kd S31 := Kd.iso (Kd.pair (Kd.int .i64) (Kd.pair (Kd.int .i64) (Kd.pair (Kd.int .i64) (Kd.pair (Kd.slice 54 k54) (Kd.slice 31 d))))) (fun x : S31 => (x.f0, x.f1, x.f2, x.f3, x.f4))
theorem mono31 : Kd.Mono F31 := Kd.mono_iso _ (Kd.mono_pair (Kd.mono_const _) (Kd.mono_pair (Kd.mono_const _) (Kd.mono_pair (Kd.mono_const _) (Kd.mono_pair (Kd.mono_const _) (Kd.mono_slice 31 Kd.mono_id)))))
theorem sub31 : Kd.Sub F31 [31, 54] := Kd.sub_iso _ (Kd.sub_pair (Kd.sub_const _ (by decide)) (Kd.sub_pair (Kd.sub_const _ (by decide)) (Kd.sub_pair (Kd.sub_const _ (by decide)) (Kd.sub_pair (Kd.sub_const _ (by decide)) (Kd.sub_slice 31 (by decide) Kd.sub_id)))))
theorem sz31 : ∀ n, (Kd.upto F31 5 [31, 54] n).sz = 5 := Kd.upto_sz (fun _ => rfl)
def k31 : Kd S31 := Kd.fix F31 5 [31, 54] sz31 (Kd.upto_E sub31)
theorem k31_open {w : World} {x : S31} {cs : List Value} (h : k31.K w x cs) : ∃ A3 c3 A4 c4, cs = [.int .i64 x.f0, .int .i64 x.f1, .int .i64 x.f2, .slice A3 x.f3.length c3, .slice A4 x.f4.length c4] ∧ x.f3.length ≤ c3 ∧ k54.C w A3 x.f3.length x.f3 ∧ x.f4.length ≤ c4 ∧ k31.C w A4 x.f4.length x.f4 := by
 obtain ⟨n, h⟩ := h
 cases n with
 | zero => exact h.elim
 | succ n =>
  obtain ⟨_, _, rfl, rfl, ⟨_, _, rfl, rfl, ⟨_, _, rfl, rfl, ⟨_, _, rfl, ⟨A3, c3, rfl, l3, g3⟩, ⟨A4, c4, rfl, l4, g4⟩⟩⟩⟩⟩ := h; exact ⟨A3, c3, A4, c4, rfl, l3, g3, l4, Kd.fix_C g4⟩
theorem k31_mkM (w : World) (base : Nat) (ok : Nat → Prop) (x : S31) {v3 : Value} (g3 : k54.R 54 w base ok v3 x.f3) {v4 : Value} (g4 : k31.R 31 w base ok v4 x.f4) : k31.M w base ok x [.int .i64 x.f0, .int .i64 x.f1, .int .i64 x.f2, v3, v4] := by
 obtain ⟨n4, q4⟩ := Kd.fix_R_back mono31 g4; have r4 := Kd.upto_R_le mono31 sz31 (show n4 ≤ n4 by omega) q4; exact ⟨n4 + 1, ⟨[.int .i64 x.f0], [.int .i64 x.f1, .int .i64 x.f2, v3, v4], rfl, rfl, ⟨[.int .i64 x.f1], [.int .i64 x.f2, v3, v4], rfl, rfl, ⟨[.int .i64 x.f2], [v3, v4], rfl, rfl, ⟨[v3], [v4], rfl, ⟨v3, rfl, g3⟩, ⟨v4, rfl, r4⟩⟩⟩⟩⟩⟩
def rd_T31 (xs : List S31) (i : Int) : S31 := xs.getD i.toNat z31
theorem at_T31 {w : World} {A : Option Addr} {n : Nat} {xs : List S31} (h : Kd.C k31 w A n xs) (i : Int) (h0 : 0 ≤ i) (h1 : i < n) : ∃ ad A3 c3 A4 c4, A = some ad ∧ w.cell? (ad.add (i.toNat * 5)) = some (.int .i64 (rd_T31 xs i).f0) ∧ w.cell? ⟨(ad.add (i.toNat * 5)).block, (ad.add (i.toNat * 5)).off + 1, none⟩ = some (.int .i64 (rd_T31 xs i).f1) ∧ w.cell? ⟨(ad.add (i.toNat * 5)).block, (ad.add (i.toNat * 5)).off + 2, none⟩ = some (.int .i64 (rd_T31 xs i).f2) ∧ w.cell? ⟨(ad.add (i.toNat * 5)).block, (ad.add (i.toNat * 5)).off + 3, none⟩ = some (.slice A3 (rd_T31 xs i).f3.length c3) ∧ w.cell? ⟨(ad.add (i.toNat * 5)).block, (ad.add (i.toNat * 5)).off + 4, none⟩ = some (.slice A4 (rd_T31 xs i).f4.length c4) ∧ (rd_T31 xs i).f3.length ≤ c3 ∧ k54.C w A3 (rd_T31 xs i).f3.length (rd_T31 xs i).f3 ∧ (rd_T31 xs i).f4.length ≤ c4 ∧ k31.C w A4 (rd_T31 xs i).f4.length (rd_T31 xs i).f4 := by
 obtain ⟨ad, c, e, _, hK, hc0⟩ := Kd.C_get h z31 i h0 h1; have hc : ∀ j u, c[j]? = some u → w.cell? (ad.add (i.toNat * 5 + j)) = some u := hc0; obtain ⟨A3, c3, A4, c4, rfl, l3, g3, l4, g4⟩ := k31_open hK; exact ⟨ad, A3, c3, A4, c4, e, hc 0 _ rfl, by rw [← add_field _ _ 1 (by omega)]; exact hc 1 _ rfl, by rw [← add_field _ _ 2 (by omega)]; exact hc 2 _ rfl, by rw [← add_field _ _ 3 (by omega)]; exact hc 3 _ rfl, by rw [← add_field _ _ 4 (by omega)]; exact hc 4 _ rfl, l3, g3, l4, g4⟩
structure S25 where
 f0 : Int
 f1 : ByteArray
 f2 : (List ByteArray)
 f3 : (List S25)
def z25 : S25 := ⟨(0 : Int), (⟨#[]⟩ : ByteArray), ([] : List ByteArray), ([] : List S25)⟩
def F25 (d : Kd S25) : Kd S25 := Kd.iso (Kd.pair (Kd.int .i64) (Kd.pair Kd.string (Kd.pair (Kd.slice 9 Kd.string) (Kd.slice 25 d)))) (fun x : S25 => (x.f0, x.f1, x.f2, x.f3))
theorem mono25 : Kd.Mono F25 := Kd.mono_iso _ (Kd.mono_pair (Kd.mono_const _) (Kd.mono_pair (Kd.mono_const _) (Kd.mono_pair (Kd.mono_const _) (Kd.mono_slice 25 Kd.mono_id))))
theorem sub25 : Kd.Sub F25 [9, 25] := Kd.sub_iso _ (Kd.sub_pair (Kd.sub_const _ (by decide)) (Kd.sub_pair (Kd.sub_const _ (by decide)) (Kd.sub_pair (Kd.sub_const _ (by decide)) (Kd.sub_slice 25 (by decide) Kd.sub_id))))
theorem sz25 : ∀ n, (Kd.upto F25 4 [9, 25] n).sz = 4 := Kd.upto_sz (fun _ => rfl)
def k25 : Kd S25 := Kd.fix F25 4 [9, 25] sz25 (Kd.upto_E sub25)
theorem k25_open {w : World} {x : S25} {cs : List Value} (h : k25.K w x cs) : ∃ A2 c2 A3 c3, cs = [.int .i64 x.f0, .string x.f1, .slice A2 x.f2.length c2, .slice A3 x.f3.length c3] ∧ x.f2.length ≤ c2 ∧ Kd.string.C w A2 x.f2.length x.f2 ∧ x.f3.length ≤ c3 ∧ k25.C w A3 x.f3.length x.f3 := by
 obtain ⟨n, h⟩ := h
 cases n with
 | zero => exact h.elim
 | succ n =>
  obtain ⟨_, _, rfl, rfl, ⟨_, _, rfl, rfl, ⟨_, _, rfl, ⟨A2, c2, rfl, l2, g2⟩, ⟨A3, c3, rfl, l3, g3⟩⟩⟩⟩ := h; exact ⟨A2, c2, A3, c3, rfl, l2, g2, l3, Kd.fix_C g3⟩
theorem k25_mkM (w : World) (base : Nat) (ok : Nat → Prop) (x : S25) {v2 : Value} (g2 : Kd.string.R 9 w base ok v2 x.f2) {v3 : Value} (g3 : k25.R 25 w base ok v3 x.f3) : k25.M w base ok x [.int .i64 x.f0, .string x.f1, v2, v3] := by
 obtain ⟨n3, q3⟩ := Kd.fix_R_back mono25 g3; have r3 := Kd.upto_R_le mono25 sz25 (show n3 ≤ n3 by omega) q3; exact ⟨n3 + 1, ⟨[.int .i64 x.f0], [.string x.f1, v2, v3], rfl, rfl, ⟨[.string x.f1], [v2, v3], rfl, rfl, ⟨[v2], [v3], rfl, ⟨v2, rfl, g2⟩, ⟨v3, rfl, r3⟩⟩⟩⟩⟩
def rd_T25 (xs : List S25) (i : Int) : S25 := xs.getD i.toNat z25
theorem at_T25 {w : World} {A : Option Addr} {n : Nat} {xs : List S25} (h : Kd.C k25 w A n xs) (i : Int) (h0 : 0 ≤ i) (h1 : i < n) : ∃ ad A2 c2 A3 c3, A = some ad ∧ w.cell? (ad.add (i.toNat * 4)) = some (.int .i64 (rd_T25 xs i).f0) ∧ w.cell? ⟨(ad.add (i.toNat * 4)).block, (ad.add (i.toNat * 4)).off + 1, none⟩ = some (.string (rd_T25 xs i).f1) ∧ w.cell? ⟨(ad.add (i.toNat * 4)).block, (ad.add (i.toNat * 4)).off + 2, none⟩ = some (.slice A2 (rd_T25 xs i).f2.length c2) ∧ w.cell? ⟨(ad.add (i.toNat * 4)).block, (ad.add (i.toNat * 4)).off + 3, none⟩ = some (.slice A3 (rd_T25 xs i).f3.length c3) ∧ (rd_T25 xs i).f2.length ≤ c2 ∧ Kd.string.C w A2 (rd_T25 xs i).f2.length (rd_T25 xs i).f2 ∧ (rd_T25 xs i).f3.length ≤ c3 ∧ k25.C w A3 (rd_T25 xs i).f3.length (rd_T25 xs i).f3 := by
 obtain ⟨ad, c, e, _, hK, hc0⟩ := Kd.C_get h z25 i h0 h1; have hc : ∀ j u, c[j]? = some u → w.cell? (ad.add (i.toNat * 4 + j)) = some u := hc0; obtain ⟨A2, c2, A3, c3, rfl, l2, g2, l3, g3⟩ := k25_open hK; exact ⟨ad, A2, c2, A3, c3, e, hc 0 _ rfl, by rw [← add_field _ _ 1 (by omega)]; exact hc 1 _ rfl, by rw [← add_field _ _ 2 (by omega)]; exact hc 2 _ rfl, by rw [← add_field _ _ 3 (by omega)]; exact hc 3 _ rfl, l2, g2, l3, g3⟩
theorem tI {P : Prop} (h : P := by repeat (first | (with_reducible first | exact HI0.out | apply IsS41.alloc | apply IsS41.drewN | apply IsS41.drew | apply IsS41.set_0 | apply IsS41.set_1 | refine IsS41.far ?_ (Aside0.out (by assumption)) _) | exact HI0.out)) : P := h
theorem tJ {P : Prop} (h : P := by repeat (first | (with_reducible first | exact Aside0.out (by assumption) | apply IsS41.alloc | apply IsS41.drewN | apply IsS41.drew | apply IsS41.set_0 | apply IsS41.set_1 | refine IsS41.far ?_ (Aside0.out (by assumption)) _))) : P := h
theorem tK {P : Prop} (h : P := by repeat (first | (with_reducible first | exact HK.out | apply KeepBut.set_ | apply keep_drewN | apply keep_drew | apply keep_alloc | refine keep_far (w := w) ?_ (Aside0.out (by assumption)) _) | exact HK.out)) : P := h
theorem tB {P : Prop} (h : P := by repeat (first | (with_reducible first | exact HB.out | apply below_alloc | apply pw_below_drewN | apply below_drew1 | refine below_set ?_ (IsS41.ge HI0.out) | refine below_set ?_ (Aside0.out (by assumption)) | refine below_set ?_ (IsS41.ge (Aside0.out (by assumption)))) | exact HB.out)) : P := h
theorem tL {P : Prop} (h : P := by (with_reducible repeat (first | refine blk_drewN ?_ _ | refine blk_drew ?_ | refine blk_alloc ?_ _)); exact Aside0.out (by assumption)) : P := h
theorem blkF0 {w : World} {g : Nat} {o : Obj} (h : w.heap[g]? = some o) {p : Addr} (hp : g ≠ p.block) (u : Value) : (w.setCell p u).heap[g]? = some o := (Below.heap_setCell w p u g hp).trans h
theorem tC {P : Prop} (h : P := by repeat (first | (with_reducible first | refine blk_drewN ?_ _ | refine blk_drew ?_ | refine blk_alloc ?_ _ | apply blk_put) | (apply blkF0; (case hp => exact Aside0.out (by assumption))) | exact Aside0.out (by assumption) | (simp only [List.setIfInBounds_toArray, List.set_cons_zero, List.set_cons_succ]; done) | (simp only [List.setIfInBounds_toArray, List.set_cons_zero, List.set_cons_succ]; exact rfl) | exact (rfl : Array.setIfInBounds _ _ _ = _))) : P := h
theorem tM {P : Prop} (h : P := by (try simp only [List.map_toArray, List.map_cons, List.map_nil]); first | done | rfl | (simp only [List.length_drop, List.length_take]; rfl)) : P := h
theorem tE {P : Prop} (h : P := by first | rfl | (simp [errW_none, errW_some] <;> rfl) | (simp [*, errW_none, errW_some] <;> rfl)) : P := h
theorem tN {P : Prop} (h : P := by first | exact Kd.R_nil _ _ _ _ _ | exact Kd.N_nil _ _ _ _ _ | exact Kd.V_nil _ _ _ _ _ | exact Kd.Q_nil _ _ _ _ _ | exact Kd.S_nil _ _ _ _ _) : P := h
theorem tS {P : Prop} (h : P := by first | (go_simp; done) | (go_simp; rfl)) : P := h
theorem tF {P : Prop} (h : P := by first | rfl | (simp; done) | (simp [*]; done)) : P := h
theorem tX {P : Prop} (h : P := by exact of_decide_eq_true (by first | (with_reducible assumption) | assumption)) : P := h
theorem tWI {P : Prop} (h : P := by rw [hw]; exact tI) : P := h
theorem tWK {P : Prop} (h : P := by rw [hw]; exact tK) : P := h
theorem tWB {P : Prop} (h : P := by rw [hw]; exact tB) : P := h
theorem tWC {P : Prop} (h : P := by rw [hw]; exact tC) : P := h
theorem farRa {α : Type} {d : Kd α} {e base : Nat} {A : Nat → Prop} {v : Value} {xs : List α} {W : World} {g i : Nat} {u : Value} (h : d.R e W base (fun k => A k ∧ k ≠ g) v xs) : d.R e (W.setCell ⟨g, i, none⟩ u) base (fun k => A k ∧ k ≠ g) v xs := Kd.R_far h (fun _ hk => hk.2) u
theorem farRb {α : Type} {d : Kd α} {e base : Nat} {A B : Nat → Prop} {v : Value} {xs : List α} {W : World} {g i : Nat} {u : Value} (h : d.R e W base (fun k => (A k ∧ k ≠ g) ∧ B k) v xs) : d.R e (W.setCell ⟨g, i, none⟩ u) base (fun k => (A k ∧ k ≠ g) ∧ B k) v xs := Kd.R_far h (fun _ hk => hk.1.2) u
theorem farRc {α : Type} {d : Kd α} {e base : Nat} {A B C : Nat → Prop} {v : Value} {xs : List α} {W : World} {g i : Nat} {u : Value} (h : d.R e W base (fun k => ((A k ∧ k ≠ g) ∧ B k) ∧ C k) v xs) : d.R e (W.setCell ⟨g, i, none⟩ u) base (fun k => ((A k ∧ k ≠ g) ∧ B k) ∧ C k) v xs := Kd.R_far h (fun _ hk => hk.1.1.2) u
theorem uR {α : Type} {d : Kd α} {e base : Nat} {ok : Nat → Prop} {v : Value} {xs : List α} {W W' : World} (h : d.R e W base ok v xs) (f : d.R e W base ok v xs → d.R e W' base ok v xs := by intro h_; repeat (first | (with_reducible first | exact h_ | apply Kd.R_alloc | apply Kd.R_drewN | apply Kd.R_drew | apply farRa | apply farRb | apply farRc))) : d.R e W' base ok v xs := f h
theorem blk5 {W : World} {g : Nat} {t : TypeId} {a b c d e : Value} (h : W.heap[g]? = some (.cells #[a, b, c, d, e] t (0, 0))) :
  W.cell? ⟨g, 0, none⟩ = some a ∧ W.cell? ⟨g, 1, none⟩ = some b ∧ W.cell? ⟨g, 2, none⟩ = some c ∧ W.cell? ⟨g, 3, none⟩ = some d ∧ W.cell? ⟨g, 4, none⟩ = some e ∧
   W.frozen? ⟨g, 0, none⟩ = false ∧ W.frozen? ⟨g, 1, none⟩ = false ∧ W.frozen? ⟨g, 2, none⟩ = false ∧ W.frozen? ⟨g, 3, none⟩ = false ∧ W.frozen? ⟨g, 4, none⟩ = false :=
 ⟨(blk_cell h 0).trans rfl, (blk_cell h 1).trans rfl, (blk_cell h 2).trans rfl, (blk_cell h 3).trans rfl, (blk_cell h 4).trans rfl, blk_frozen h 0, blk_frozen h 1, blk_frozen h 2, blk_frozen h 3, blk_frozen h 4⟩
theorem neL {a gb n : Nat} (hg : gb = n) (h : a < n) : a ≠ gb := by omega
theorem neR {a gb n : Nat} (hg : gb = n) (h : a < n) : gb ≠ a := by omega
theorem leK {w W : World} {g gb : Nat} (hg : gb = W.heap.size) (h : KeepBut w W g none) : w.heap.size ≤ gb := hg ▸ keep_size h
theorem leB {w W : World} {gb : Nat} (hg : gb = W.heap.size) (h : Below w.heap.size w W) : w.heap.size ≤ gb := hg ▸ below_size h
theorem tP {P : Prop} (h : P := by simp only [Act.put, List.setIfInBounds_toArray, List.set_cons_zero, List.set_cons_succ, i64_w, i32_w]; rfl) : P := h
theorem tQ {P : Prop} (h : P := by intro w'; go_simp; with_reducible rfl) : P := h
theorem tR {P : Prop} (h : P := by go_simp; with_reducible rfl) : P := h
theorem tD {P : Prop} (h : P := by repeat (first | exact Drawn0.refl _ | apply Drawn0.step)) : P := h
theorem tZ {P : Prop} (h : P := by exact keep_size (w := w) (g := g) (row := none) tK) : P := h
theorem cB {w W : World} {p : Addr} {v : Value} (h : Below w.heap.size w W) (hc : w.cell? p = some v) : W.cell? p = some v := (h.cell (World.block_lt_of_cell? w _ hc)).trans hc
theorem kt {w W W1 : World} {g : Nat} (k : KeepBut W W1 g none) (h : KeepBut w W g none := by exact tK) : KeepBut w W1 g none := KeepBut.trans h k (.inl rfl)
theorem k3 {a b c : Prop} (x : a) (y : b) (z : c) : Aside0 a ∧ Aside0 b ∧ Aside0 c := ⟨⟨x⟩, ⟨y⟩, ⟨z⟩⟩
end Go.Proofs.YtdacgdjjdifneaaGreatDoor.PFnGjFlattenOften
