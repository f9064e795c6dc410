/- Walks of the functions that the law calls, printed by program and rewritten. -/
import Derived.Test.YtaihmpdhaikfkaaGreatDoorProg
import Derived.Below
import Derived.Deep.Draws
import Derived.Deep.AppendLies
import Derived.Maps.AppendAt
import Derived.OwnWalk
import Derived.Laws.BytesArg
import Derived.Laws.MakeOwn
import Derived.Laws.OwnMore
import Derived.Deep.OwnRows
import Derived.Tactics
import Derived.Lib.ConvBytes
import Derived.Laws.Slices
import Derived.WalkKit
import Derived.KernelRfl
import Derived.RowKit3
import Derived.Deep.LoopGhost
import Derived.Deep.QuietTactic
import Derived.BigQuiet
import Derived.WideLaws
import Derived.Deep.DeepCutAuto
import Derived.Deep.CutBlock
import Derived.Deep.RegionHeld3
import Derived.Laws.Rows
import Derived.Lib.AppendStr
import Derived.ArgAppend
import Derived.Laws.IdiomCopy
import Derived.OrdersHeld
import Derived.Laws.BitsLemmas
import Derived.RowKit
import Derived.Test.YtaihmpdhaikfkaaGreatDoorZ1
set_option linter.all false
namespace Go.Proofs.YtaihmpdhaikfkaaGreatDoor.PFnFjFloat
open Go.RowKit Go.Proofs.YtaihmpdhaikfkaaGreatDoorW.PrintWords Go.Proofs.YtaihmpdhaikfkaaGreatDoorW.PrintLast Go.Proofs.YtaihmpdhaikfkaaGreatDoorW.PrintMore
attribute [local go_sem] max2_int min2_int max_two min_two max_three min_three max_four min_four
def errW : Option Int → Value
 | none => .nilIface
 | some c => .iface 0 (.int .i64 c)
theorem errW_none : errW none = .nilIface := rfl
theorem errW_some (c : Int) : errW (some c) = .iface 0 (.int .i64 c) := rfl
theorem info5 : (Tryz.prog.info? 5).map (fun i => (i.zero, i.size, i.bytes)) = some (some (.int .u8 0), 1, 1) := by kernel_rfl
theorem info9 : (Tryz.prog.info? 9).map (fun i => (i.zero, i.size, i.bytes)) = some (some (.string ⟨#[]⟩), 1, 16) := by kernel_rfl
theorem info25 : (Tryz.prog.info? 25).map (fun i => (i.zero, i.size, i.bytes)) = some (some (.agg #[(.int .i64 0), (.string ⟨#[]⟩), (.slice none 0 0), (.slice none 0 0)]), 4, 72) := by kernel_rfl
theorem info60 : (Tryz.prog.info? 60).map (fun i => (i.zero, i.size, i.bytes)) = some (some (.agg #[(.int .i64 0), (.int .i64 0), (.int .i64 0), (.slice none 0 0), (.slice none 0 0)]), 5, 72) := by kernel_rfl
theorem info90 : (Tryz.prog.info? 90).map (fun i => (i.zero, i.size, i.bytes)) = some (some (.agg #[(.int .i64 0), (.int .i64 0)]), 2, 16) := by kernel_rfl
theorem info139 : (Tryz.prog.info? 139).map (fun i => (i.zero, i.size, i.bytes)) = some (some (.int .u32 0), 1, 4) := by kernel_rfl
-- the values' own types
/-! #### struct type 90 -/
structure S90 where
 f0 : Int
 f1 : Int
def z90 : S90 := ⟨(0 : Int), (0 : Int)⟩
def k90 : Kd S90 := Kd.iso (Kd.pair (Kd.int .i64) (Kd.int .i64)) (fun x : S90 => (x.f0, x.f1))
theorem k90_open {w : World} {x : S90} {cs : List Value} (h : k90.K w x cs) : cs = [.int .i64 x.f0, .int .i64 x.f1] := by
 obtain ⟨_, _, rfl, rfl, rfl⟩ := h
 exact rfl
theorem k90_openM {w : World} {base : Nat} {ok : Nat → Prop} {x : S90} {cs : List Value} (h : k90.M w base ok x cs) : cs = [.int .i64 x.f0, .int .i64 x.f1] := by
 obtain ⟨_, _, rfl, rfl, rfl⟩ := h
 exact rfl
theorem k90_mk (w : World) (x : S90)  : k90.K w x [.int .i64 x.f0, .int .i64 x.f1] := ⟨[.int .i64 x.f0], [.int .i64 x.f1], rfl, rfl, rfl⟩
theorem k90_mkM (w : World) (base : Nat) (ok : Nat → Prop) (x : S90)  : k90.M w base ok x [.int .i64 x.f0, .int .i64 x.f1] := ⟨[.int .i64 x.f0], [.int .i64 x.f1], rfl, rfl, rfl⟩
theorem k90_mkF (W : World) (ok : Nat → Prop) (x : S90) : Kd.FK k90 W ok x [.int .i64 x.f0, .int .i64 x.f1] := fun W2 _ => k90_mk W2 x
def rd_T90 (xs : List S90) (i : Int) : S90 := xs.getD i.toNat z90
theorem at_T90 {w : World} {A : Option Addr} {n : Nat} {xs : List S90} (h : Kd.C k90 w A n xs) (i : Int) (h0 : 0 ≤ i) (h1 : i < n) : ∃ ad , A = some ad ∧ w.cell? (ad.add (i.toNat * 2)) = some (.int .i64 (rd_T90 xs i).f0) ∧ w.cell? ⟨(ad.add (i.toNat * 2)).block, (ad.add (i.toNat * 2)).off + 1, none⟩ = some (.int .i64 (rd_T90 xs i).f1) := by
 obtain ⟨ad, c, e, _, hK, hc0⟩ := Kd.C_get h z90 i h0 h1
 have hc : ∀ j u, c[j]? = some u → w.cell? (ad.add (i.toNat * 2 + j)) = some u := hc0
 obtain rfl := k90_open hK
 exact ⟨ad, e, hc 0 _ rfl, by rw [← add_field _ _ 1 (by omega)]; exact hc 1 _ rfl⟩
def rd_L2 (xs : List (List S90)) (i : Int) : (List S90) := xs.getD i.toNat ([] : List S90)
theorem at_L2 {w : World} {A : Option Addr} {n : Nat} {xs : List (List S90)} (h : Kd.C (Kd.slice 90 k90) w A n xs) (i : Int) (h0 : 0 ≤ i) (h1 : i < n) : ∃ ad A0 c0, A = some ad ∧ w.cell? (ad.add i.toNat) = some (.slice A0 (rd_L2 xs i).length c0) ∧ (rd_L2 xs i).length ≤ c0 ∧ k90.C w A0 (rd_L2 xs i).length (rd_L2 xs i) := by
 obtain ⟨ad, c, e, _, hK, hc0⟩ := Kd.C_get h ([] : List S90) i h0 h1
 have hc : ∀ j u, c[j]? = some u → w.cell? (ad.add (i.toNat * 1 + j)) = some u := hc0
 obtain ⟨A0, c0, rfl, l0, g0⟩ := hK
 exact ⟨ad, A0, c0, e, by have hq := hc 0 _ rfl; rwa [Nat.mul_one, Nat.add_zero] at hq, l0, g0⟩
/-! #### struct type 60, nested in itself -/
structure S60 where
 f0 : Int
 f1 : Int
 f2 : Int
 f3 : (List S90)
 f4 : (List S60)
def z60 : S60 := ⟨(0 : Int), (0 : Int), (0 : Int), ([] : List S90), ([] : List S60)⟩
def F60 (d : Kd S60) : Kd S60 := Kd.iso (Kd.pair (Kd.int .i64) (Kd.pair (Kd.int .i64) (Kd.pair (Kd.int .i64) (Kd.pair (Kd.slice 90 k90) (Kd.slice 60 d))))) (fun x : S60 => (x.f0, x.f1, x.f2, x.f3, x.f4))
theorem mono60 : Kd.Mono F60 := Kd.mono_iso _ (Kd.mono_pair (Kd.mono_const _) (Kd.mono_pair (Kd.mono_const _) (Kd.mono_pair (Kd.mono_const _) (Kd.mono_pair (Kd.mono_const _) (Kd.mono_slice 60 Kd.mono_id)))))
theorem sub60 : Kd.Sub F60 [60, 90] := Kd.sub_iso _ (Kd.sub_pair (Kd.sub_const _ (by decide)) (Kd.sub_pair (Kd.sub_const _ (by decide)) (Kd.sub_pair (Kd.sub_const _ (by decide)) (Kd.sub_pair (Kd.sub_const _ (by decide)) (Kd.sub_slice 60 (by decide) Kd.sub_id)))))
theorem sz60 : ∀ n, (Kd.upto F60 5 [60, 90] n).sz = 5 := Kd.upto_sz (fun _ => rfl)
def k60 : Kd S60 := Kd.fix F60 5 [60, 90] sz60 (Kd.upto_E sub60)
theorem k60_open {w : World} {x : S60} {cs : List Value} (h : k60.K w x cs) : ∃ A3 c3 A4 c4, cs = [.int .i64 x.f0, .int .i64 x.f1, .int .i64 x.f2, .slice A3 x.f3.length c3, .slice A4 x.f4.length c4] ∧ x.f3.length ≤ c3 ∧ k90.C w A3 x.f3.length x.f3 ∧ x.f4.length ≤ c4 ∧ k60.C w A4 x.f4.length x.f4 := by
 obtain ⟨n, h⟩ := h
 cases n with
 | zero => exact h.elim
 | succ n =>
  obtain ⟨_, _, rfl, rfl, ⟨_, _, rfl, rfl, ⟨_, _, rfl, rfl, ⟨_, _, rfl, ⟨A3, c3, rfl, l3, g3⟩, ⟨A4, c4, rfl, l4, g4⟩⟩⟩⟩⟩ := h
  exact ⟨A3, c3, A4, c4, rfl, l3, g3, l4, Kd.fix_C g4⟩
theorem k60_openM {w : World} {base : Nat} {ok : Nat → Prop} {x : S60} {cs : List Value} (h : k60.M w base ok x cs) : ∃ v3 v4, cs = [.int .i64 x.f0, .int .i64 x.f1, .int .i64 x.f2, v3, v4] ∧ k90.R 90 w base ok v3 x.f3 ∧ k60.R 60 w base ok v4 x.f4 := by
 obtain ⟨n, h⟩ := h
 cases n with
 | zero => exact h.elim
 | succ n =>
  obtain ⟨_, _, rfl, rfl, ⟨_, _, rfl, rfl, ⟨_, _, rfl, rfl, ⟨_, _, rfl, ⟨v3, rfl, g3⟩, ⟨v4, rfl, g4⟩⟩⟩⟩⟩ := h
  exact ⟨v3, v4, rfl, g3, Kd.fix_R g4⟩
theorem k60_mk (w : World) (x : S60) {A3 : Option Addr} {c3 : Nat} (l3 : x.f3.length ≤ c3) (g3 : k90.C w A3 x.f3.length x.f3) {A4 : Option Addr} {c4 : Nat} (l4 : x.f4.length ≤ c4) (g4 : k60.C w A4 x.f4.length x.f4) : k60.K w x [.int .i64 x.f0, .int .i64 x.f1, .int .i64 x.f2, .slice A3 x.f3.length c3, .slice A4 x.f4.length c4] := by
 obtain ⟨n4, q4⟩ := Kd.fix_C_back mono60 g4
 have r4 := Kd.upto_C_le mono60 sz60 (show n4 ≤ n4 by omega) q4
 exact ⟨n4 + 1, ⟨[.int .i64 x.f0], [.int .i64 x.f1, .int .i64 x.f2, .slice A3 x.f3.length c3, .slice A4 x.f4.length c4], rfl, rfl, ⟨[.int .i64 x.f1], [.int .i64 x.f2, .slice A3 x.f3.length c3, .slice A4 x.f4.length c4], rfl, rfl, ⟨[.int .i64 x.f2], [.slice A3 x.f3.length c3, .slice A4 x.f4.length c4], rfl, rfl, ⟨[.slice A3 x.f3.length c3], [.slice A4 x.f4.length c4], rfl, ⟨A3, c3, rfl, l3, g3⟩, ⟨A4, c4, rfl, l4, r4⟩⟩⟩⟩⟩⟩
theorem k60_mkM (w : World) (base : Nat) (ok : Nat → Prop) (x : S60) {v3 : Value} (g3 : k90.R 90 w base ok v3 x.f3) {v4 : Value} (g4 : k60.R 60 w base ok v4 x.f4) : k60.M w base ok x [.int .i64 x.f0, .int .i64 x.f1, .int .i64 x.f2, v3, v4] := by
 obtain ⟨n4, q4⟩ := Kd.fix_R_back mono60 g4
 have r4 := Kd.upto_R_le mono60 sz60 (show n4 ≤ n4 by omega) q4
 exact ⟨n4 + 1, ⟨[.int .i64 x.f0], [.int .i64 x.f1, .int .i64 x.f2, v3, v4], rfl, rfl, ⟨[.int .i64 x.f1], [.int .i64 x.f2, v3, v4], rfl, rfl, ⟨[.int .i64 x.f2], [v3, v4], rfl, rfl, ⟨[v3], [v4], rfl, ⟨v3, rfl, g3⟩, ⟨v4, rfl, r4⟩⟩⟩⟩⟩⟩
theorem k60_openF {W : World} {ok : Nat → Prop} {x : S60} {cs : List Value} (h : Kd.FK k60 W ok x cs) : ∃ A3 c3 A4 c4, cs = [.int .i64 x.f0, .int .i64 x.f1, .int .i64 x.f2, .slice A3 x.f3.length c3, .slice A4 x.f4.length c4] ∧ x.f3.length ≤ c3 ∧ Kd.F k90 W ok A3 x.f3.length x.f3 ∧ x.f4.length ≤ c4 ∧ Kd.F k60 W ok A4 x.f4.length x.f4 := by
 obtain ⟨A3, c3, A4, c4, rfl, l3, _, l4, _⟩ := k60_open (Kd.FK_now h)
 exact ⟨A3, c3, A4, c4, rfl, l3, (fun W' hW => by obtain ⟨A3_, c3_, A4_, c4_, he, l3_, g3_, l4_, g4_⟩ := k60_open (h W' hW); injection (Option.some.inj (show some (Value.slice A3 x.f3.length c3) = some (Value.slice A3_ x.f3.length c3_) from congrArg (fun l => l[3]?) he)) with ha_ _ _; rw [ha_]; exact g3_), l4, (fun W' hW => by obtain ⟨A3_, c3_, A4_, c4_, he, l3_, g3_, l4_, g4_⟩ := k60_open (h W' hW); injection (Option.some.inj (show some (Value.slice A4 x.f4.length c4) = some (Value.slice A4_ x.f4.length c4_) from congrArg (fun l => l[4]?) he)) with ha_ _ _; rw [ha_]; exact g4_)⟩
theorem k60_mkF (W : World) (ok : Nat → Prop) (x : S60) {A3 : Option Addr} {c3 : Nat} (l3 : x.f3.length ≤ c3) (g3 : Kd.F k90 W ok A3 x.f3.length x.f3) {A4 : Option Addr} {c4 : Nat} (l4 : x.f4.length ≤ c4) (g4 : Kd.F k60 W ok A4 x.f4.length x.f4) : Kd.FK k60 W ok x [.int .i64 x.f0, .int .i64 x.f1, .int .i64 x.f2, .slice A3 x.f3.length c3, .slice A4 x.f4.length c4] := fun W2 hW => k60_mk W2 x l3 (g3 W2 hW) l4 (g4 W2 hW)
def rd_T60 (xs : List S60) (i : Int) : S60 := xs.getD i.toNat z60
theorem at_T60 {w : World} {A : Option Addr} {n : Nat} {xs : List S60} (h : Kd.C k60 w A n xs) (i : Int) (h0 : 0 ≤ i) (h1 : i < n) : ∃ ad A3 c3 A4 c4, A = some ad ∧ w.cell? (ad.add (i.toNat * 5)) = some (.int .i64 (rd_T60 xs i).f0) ∧ w.cell? ⟨(ad.add (i.toNat * 5)).block, (ad.add (i.toNat * 5)).off + 1, none⟩ = some (.int .i64 (rd_T60 xs i).f1) ∧ w.cell? ⟨(ad.add (i.toNat * 5)).block, (ad.add (i.toNat * 5)).off + 2, none⟩ = some (.int .i64 (rd_T60 xs i).f2) ∧ w.cell? ⟨(ad.add (i.toNat * 5)).block, (ad.add (i.toNat * 5)).off + 3, none⟩ = some (.slice A3 (rd_T60 xs i).f3.length c3) ∧ w.cell? ⟨(ad.add (i.toNat * 5)).block, (ad.add (i.toNat * 5)).off + 4, none⟩ = some (.slice A4 (rd_T60 xs i).f4.length c4) ∧ (rd_T60 xs i).f3.length ≤ c3 ∧ k90.C w A3 (rd_T60 xs i).f3.length (rd_T60 xs i).f3 ∧ (rd_T60 xs i).f4.length ≤ c4 ∧ k60.C w A4 (rd_T60 xs i).f4.length (rd_T60 xs i).f4 := by
 obtain ⟨ad, c, e, _, hK, hc0⟩ := Kd.C_get h z60 i h0 h1
 have hc : ∀ j u, c[j]? = some u → w.cell? (ad.add (i.toNat * 5 + j)) = some u := hc0
 obtain ⟨A3, c3, A4, c4, rfl, l3, g3, l4, g4⟩ := k60_open hK
 exact ⟨ad, A3, c3, A4, c4, e, hc 0 _ rfl, by rw [← add_field _ _ 1 (by omega)]; exact hc 1 _ rfl, by rw [← add_field _ _ 2 (by omega)]; exact hc 2 _ rfl, by rw [← add_field _ _ 3 (by omega)]; exact hc 3 _ rfl, by rw [← add_field _ _ 4 (by omega)]; exact hc 4 _ rfl, l3, g3, l4, g4⟩
def rd_L6 (xs : List (List ByteArray)) (i : Int) : (List ByteArray) := xs.getD i.toNat ([] : List ByteArray)
theorem at_L6 {w : World} {A : Option Addr} {n : Nat} {xs : List (List ByteArray)} (h : Kd.C (Kd.slice 9 Kd.string) w A n xs) (i : Int) (h0 : 0 ≤ i) (h1 : i < n) : ∃ ad A0 c0, A = some ad ∧ w.cell? (ad.add i.toNat) = some (.slice A0 (rd_L6 xs i).length c0) ∧ (rd_L6 xs i).length ≤ c0 ∧ Kd.string.C w A0 (rd_L6 xs i).length (rd_L6 xs i) := by
 obtain ⟨ad, c, e, _, hK, hc0⟩ := Kd.C_get h ([] : List ByteArray) i h0 h1
 have hc : ∀ j u, c[j]? = some u → w.cell? (ad.add (i.toNat * 1 + j)) = some u := hc0
 obtain ⟨A0, c0, rfl, l0, g0⟩ := hK
 exact ⟨ad, A0, c0, e, by have hq := hc 0 _ rfl; rwa [Nat.mul_one, Nat.add_zero] at hq, l0, g0⟩
/-! #### struct type 25, nested in itself -/
structure S25 where
 f0 : Int
 f1 : ByteArray
 f2 : (List ByteArray)
 f3 : (List S25)
def z25 : S25 := ⟨(0 : Int), (⟨#[]⟩ : ByteArray), ([] : List ByteArray), ([] : List S25)⟩
def F25 (d : Kd S25) : Kd S25 := Kd.iso (Kd.pair (Kd.int .i64) (Kd.pair Kd.string (Kd.pair (Kd.slice 9 Kd.string) (Kd.slice 25 d)))) (fun x : S25 => (x.f0, x.f1, x.f2, x.f3))
theorem mono25 : Kd.Mono F25 := Kd.mono_iso _ (Kd.mono_pair (Kd.mono_const _) (Kd.mono_pair (Kd.mono_const _) (Kd.mono_pair (Kd.mono_const _) (Kd.mono_slice 25 Kd.mono_id))))
theorem sub25 : Kd.Sub F25 [9, 25] := Kd.sub_iso _ (Kd.sub_pair (Kd.sub_const _ (by decide)) (Kd.sub_pair (Kd.sub_const _ (by decide)) (Kd.sub_pair (Kd.sub_const _ (by decide)) (Kd.sub_slice 25 (by decide) Kd.sub_id))))
theorem sz25 : ∀ n, (Kd.upto F25 4 [9, 25] n).sz = 4 := Kd.upto_sz (fun _ => rfl)
def k25 : Kd S25 := Kd.fix F25 4 [9, 25] sz25 (Kd.upto_E sub25)
theorem k25_open {w : World} {x : S25} {cs : List Value} (h : k25.K w x cs) : ∃ A2 c2 A3 c3, cs = [.int .i64 x.f0, .string x.f1, .slice A2 x.f2.length c2, .slice A3 x.f3.length c3] ∧ x.f2.length ≤ c2 ∧ Kd.string.C w A2 x.f2.length x.f2 ∧ x.f3.length ≤ c3 ∧ k25.C w A3 x.f3.length x.f3 := by
 obtain ⟨n, h⟩ := h
 cases n with
 | zero => exact h.elim
 | succ n =>
  obtain ⟨_, _, rfl, rfl, ⟨_, _, rfl, rfl, ⟨_, _, rfl, ⟨A2, c2, rfl, l2, g2⟩, ⟨A3, c3, rfl, l3, g3⟩⟩⟩⟩ := h
  exact ⟨A2, c2, A3, c3, rfl, l2, g2, l3, Kd.fix_C g3⟩
theorem k25_openM {w : World} {base : Nat} {ok : Nat → Prop} {x : S25} {cs : List Value} (h : k25.M w base ok x cs) : ∃ v2 v3, cs = [.int .i64 x.f0, .string x.f1, v2, v3] ∧ Kd.string.R 9 w base ok v2 x.f2 ∧ k25.R 25 w base ok v3 x.f3 := by
 obtain ⟨n, h⟩ := h
 cases n with
 | zero => exact h.elim
 | succ n =>
  obtain ⟨_, _, rfl, rfl, ⟨_, _, rfl, rfl, ⟨_, _, rfl, ⟨v2, rfl, g2⟩, ⟨v3, rfl, g3⟩⟩⟩⟩ := h
  exact ⟨v2, v3, rfl, g2, Kd.fix_R g3⟩
theorem k25_mk (w : World) (x : S25) {A2 : Option Addr} {c2 : Nat} (l2 : x.f2.length ≤ c2) (g2 : Kd.string.C w A2 x.f2.length x.f2) {A3 : Option Addr} {c3 : Nat} (l3 : x.f3.length ≤ c3) (g3 : k25.C w A3 x.f3.length x.f3) : k25.K w x [.int .i64 x.f0, .string x.f1, .slice A2 x.f2.length c2, .slice A3 x.f3.length c3] := by
 obtain ⟨n3, q3⟩ := Kd.fix_C_back mono25 g3
 have r3 := Kd.upto_C_le mono25 sz25 (show n3 ≤ n3 by omega) q3
 exact ⟨n3 + 1, ⟨[.int .i64 x.f0], [.string x.f1, .slice A2 x.f2.length c2, .slice A3 x.f3.length c3], rfl, rfl, ⟨[.string x.f1], [.slice A2 x.f2.length c2, .slice A3 x.f3.length c3], rfl, rfl, ⟨[.slice A2 x.f2.length c2], [.slice A3 x.f3.length c3], rfl, ⟨A2, c2, rfl, l2, g2⟩, ⟨A3, c3, rfl, l3, r3⟩⟩⟩⟩⟩
theorem k25_mkM (w : World) (base : Nat) (ok : Nat → Prop) (x : S25) {v2 : Value} (g2 : Kd.string.R 9 w base ok v2 x.f2) {v3 : Value} (g3 : k25.R 25 w base ok v3 x.f3) : k25.M w base ok x [.int .i64 x.f0, .string x.f1, v2, v3] := by
 obtain ⟨n3, q3⟩ := Kd.fix_R_back mono25 g3
 have r3 := Kd.upto_R_le mono25 sz25 (show n3 ≤ n3 by omega) q3
 exact ⟨n3 + 1, ⟨[.int .i64 x.f0], [.string x.f1, v2, v3], rfl, rfl, ⟨[.string x.f1], [v2, v3], rfl, rfl, ⟨[v2], [v3], rfl, ⟨v2, rfl, g2⟩, ⟨v3, rfl, r3⟩⟩⟩⟩⟩
theorem k25_openF {W : World} {ok : Nat → Prop} {x : S25} {cs : List Value} (h : Kd.FK k25 W ok x cs) : ∃ A2 c2 A3 c3, cs = [.int .i64 x.f0, .string x.f1, .slice A2 x.f2.length c2, .slice A3 x.f3.length c3] ∧ x.f2.length ≤ c2 ∧ Kd.F Kd.string W ok A2 x.f2.length x.f2 ∧ x.f3.length ≤ c3 ∧ Kd.F k25 W ok A3 x.f3.length x.f3 := by
 obtain ⟨A2, c2, A3, c3, rfl, l2, _, l3, _⟩ := k25_open (Kd.FK_now h)
 exact ⟨A2, c2, A3, c3, rfl, l2, (fun W' hW => by obtain ⟨A2_, c2_, A3_, c3_, he, l2_, g2_, l3_, g3_⟩ := k25_open (h W' hW); injection (Option.some.inj (show some (Value.slice A2 x.f2.length c2) = some (Value.slice A2_ x.f2.length c2_) from congrArg (fun l => l[2]?) he)) with ha_ _ _; rw [ha_]; exact g2_), l3, (fun W' hW => by obtain ⟨A2_, c2_, A3_, c3_, he, l2_, g2_, l3_, g3_⟩ := k25_open (h W' hW); injection (Option.some.inj (show some (Value.slice A3 x.f3.length c3) = some (Value.slice A3_ x.f3.length c3_) from congrArg (fun l => l[3]?) he)) with ha_ _ _; rw [ha_]; exact g3_)⟩
theorem k25_mkF (W : World) (ok : Nat → Prop) (x : S25) {A2 : Option Addr} {c2 : Nat} (l2 : x.f2.length ≤ c2) (g2 : Kd.F Kd.string W ok A2 x.f2.length x.f2) {A3 : Option Addr} {c3 : Nat} (l3 : x.f3.length ≤ c3) (g3 : Kd.F k25 W ok A3 x.f3.length x.f3) : Kd.FK k25 W ok x [.int .i64 x.f0, .string x.f1, .slice A2 x.f2.length c2, .slice A3 x.f3.length c3] := fun W2 hW => k25_mk W2 x l2 (g2 W2 hW) l3 (g3 W2 hW)
def rd_T25 (xs : List S25) (i : Int) : S25 := xs.getD i.toNat z25
theorem at_T25 {w : World} {A : Option Addr} {n : Nat} {xs : List S25} (h : Kd.C k25 w A n xs) (i : Int) (h0 : 0 ≤ i) (h1 : i < n) : ∃ ad A2 c2 A3 c3, A = some ad ∧ w.cell? (ad.add (i.toNat * 4)) = some (.int .i64 (rd_T25 xs i).f0) ∧ w.cell? ⟨(ad.add (i.toNat * 4)).block, (ad.add (i.toNat * 4)).off + 1, none⟩ = some (.string (rd_T25 xs i).f1) ∧ w.cell? ⟨(ad.add (i.toNat * 4)).block, (ad.add (i.toNat * 4)).off + 2, none⟩ = some (.slice A2 (rd_T25 xs i).f2.length c2) ∧ w.cell? ⟨(ad.add (i.toNat * 4)).block, (ad.add (i.toNat * 4)).off + 3, none⟩ = some (.slice A3 (rd_T25 xs i).f3.length c3) ∧ (rd_T25 xs i).f2.length ≤ c2 ∧ Kd.string.C w A2 (rd_T25 xs i).f2.length (rd_T25 xs i).f2 ∧ (rd_T25 xs i).f3.length ≤ c3 ∧ k25.C w A3 (rd_T25 xs i).f3.length (rd_T25 xs i).f3 := by
 obtain ⟨ad, c, e, _, hK, hc0⟩ := Kd.C_get h z25 i h0 h1
 have hc : ∀ j u, c[j]? = some u → w.cell? (ad.add (i.toNat * 4 + j)) = some u := hc0
 obtain ⟨A2, c2, A3, c3, rfl, l2, g2, l3, g3⟩ := k25_open hK
 exact ⟨ad, A2, c2, A3, c3, e, hc 0 _ rfl, by rw [← add_field _ _ 1 (by omega)]; exact hc 1 _ rfl, by rw [← add_field _ _ 2 (by omega)]; exact hc 2 _ rfl, by rw [← add_field _ _ 3 (by omega)]; exact hc 3 _ rfl, l2, g2, l3, g3⟩
/-! ### closers: the walks' small steps, each a lemma whose proof is looked for where it is used -/
theorem tI {P : Prop} (h : P := by repeat (first | (with_reducible first | exact HI0.out | apply IsS70.alloc | apply IsS70.drewN | apply IsS70.drew | apply IsS70.set_0 | apply IsS70.set_1 | refine IsS70.far ?_ (Aside0.out (by assumption)) _) | exact HI0.out)) : P := h
theorem tJ {P : Prop} (h : P := by repeat (first | (with_reducible first | exact Aside0.out (by assumption) | apply IsS70.alloc | apply IsS70.drewN | apply IsS70.drew | apply IsS70.set_0 | apply IsS70.set_1 | refine IsS70.far ?_ (Aside0.out (by assumption)) _))) : P := h
theorem tK {P : Prop} (h : P := by repeat (first | (with_reducible first | exact HK.out | apply KeepBut.set_ | apply keep_drewN | apply keep_drew | apply keep_alloc | refine keep_far (w := w) ?_ (Aside0.out (by assumption)) _) | exact HK.out)) : P := h
theorem tB {P : Prop} (h : P := by repeat (first | (with_reducible first | exact HB.out | apply below_alloc | apply pw_below_drewN | apply below_drew1 | refine below_set ?_ (IsS70.ge HI0.out) | refine below_set ?_ (Aside0.out (by assumption)) | refine below_set ?_ (IsS70.ge (Aside0.out (by assumption)))) | exact HB.out)) : P := h
theorem tL {P : Prop} (h : P := by (with_reducible repeat (first | refine blk_drewN ?_ _ | refine blk_drew ?_ | refine blk_alloc ?_ _)); exact Aside0.out (by assumption)) : P := h
theorem blkF0 {w : World} {g : Nat} {o : Obj} (h : w.heap[g]? = some o) {p : Addr} (hp : g ≠ p.block) (u : Value) : (w.setCell p u).heap[g]? = some o := (Below.heap_setCell w p u g hp).trans h
theorem tC {P : Prop} (h : P := by repeat (first | (with_reducible first | refine blk_drewN ?_ _ | refine blk_drew ?_ | refine blk_alloc ?_ _ | apply blk_put) | (apply blkF0; (case hp => exact Aside0.out (by assumption))) | exact Aside0.out (by assumption) | (simp only [List.setIfInBounds_toArray, List.set_cons_zero, List.set_cons_succ]; done) | (simp only [List.setIfInBounds_toArray, List.set_cons_zero, List.set_cons_succ]; exact rfl) | exact (rfl : Array.setIfInBounds _ _ _ = _))) : P := h
theorem tM {P : Prop} (h : P := by (try simp only [List.map_toArray, List.map_cons, List.map_nil]); first | done | rfl | (simp only [List.length_drop, List.length_take]; rfl)) : P := h
theorem tE {P : Prop} (h : P := by first | rfl | (simp [errW_none, errW_some] <;> rfl) | (simp [*, errW_none, errW_some] <;> rfl)) : P := h
theorem tN {P : Prop} (h : P := by first | exact Kd.R_nil _ _ _ _ _ | exact Kd.N_nil _ _ _ _ _ | exact Kd.V_nil _ _ _ _ _ | exact Kd.Q_nil _ _ _ _ _ | exact Kd.S_nil _ _ _ _ _) : P := h
theorem tS {P : Prop} (h : P := by first | (go_simp; done) | (go_simp; rfl)) : P := h
theorem tF {P : Prop} (h : P := by first | rfl | (simp; done) | (simp [*]; done)) : P := h
theorem tX {P : Prop} (h : P := by exact of_decide_eq_true (by first | (with_reducible assumption) | assumption)) : P := h
theorem tWI {P : Prop} (h : P := by rw [hw]; exact tI) : P := h
theorem tWK {P : Prop} (h : P := by rw [hw]; exact tK) : P := h
theorem tWB {P : Prop} (h : P := by rw [hw]; exact tB) : P := h
theorem tWC {P : Prop} (h : P := by rw [hw]; exact tC) : P := h
theorem tWL {P : Prop} (h : P := by rw [hw]; exact tL) : P := h
theorem farRa {α : Type} {d : Kd α} {e base : Nat} {A : Nat → Prop} {v : Value} {xs : List α} {W : World} {g i : Nat} {u : Value} (h : d.R e W base (fun k => A k ∧ k ≠ g) v xs) : d.R e (W.setCell ⟨g, i, none⟩ u) base (fun k => A k ∧ k ≠ g) v xs := Kd.R_far h (fun _ hk => hk.2) u
theorem farRb {α : Type} {d : Kd α} {e base : Nat} {A B : Nat → Prop} {v : Value} {xs : List α} {W : World} {g i : Nat} {u : Value} (h : d.R e W base (fun k => (A k ∧ k ≠ g) ∧ B k) v xs) : d.R e (W.setCell ⟨g, i, none⟩ u) base (fun k => (A k ∧ k ≠ g) ∧ B k) v xs := Kd.R_far h (fun _ hk => hk.1.2) u
theorem farRc {α : Type} {d : Kd α} {e base : Nat} {A B C : Nat → Prop} {v : Value} {xs : List α} {W : World} {g i : Nat} {u : Value} (h : d.R e W base (fun k => ((A k ∧ k ≠ g) ∧ B k) ∧ C k) v xs) : d.R e (W.setCell ⟨g, i, none⟩ u) base (fun k => ((A k ∧ k ≠ g) ∧ B k) ∧ C k) v xs := Kd.R_far h (fun _ hk => hk.1.1.2) u
theorem farVa {α : Type} {d : Kd α} {e base : Nat} {A : Nat → Prop} {v : Value} {xs : List α} {W : World} {g i : Nat} {u : Value} (h : Kd.V d e W base (fun k => A k ∧ k ≠ g) v xs) : Kd.V d e (W.setCell ⟨g, i, none⟩ u) base (fun k => A k ∧ k ≠ g) v xs := Kd.V_far h (fun _ hk => hk.2) u
theorem farVb {α : Type} {d : Kd α} {e base : Nat} {A B : Nat → Prop} {v : Value} {xs : List α} {W : World} {g i : Nat} {u : Value} (h : Kd.V d e W base (fun k => (A k ∧ k ≠ g) ∧ B k) v xs) : Kd.V d e (W.setCell ⟨g, i, none⟩ u) base (fun k => (A k ∧ k ≠ g) ∧ B k) v xs := Kd.V_far h (fun _ hk => hk.1.2) u
theorem farVc {α : Type} {d : Kd α} {e base : Nat} {A B C : Nat → Prop} {v : Value} {xs : List α} {W : World} {g i : Nat} {u : Value} (h : Kd.V d e W base (fun k => ((A k ∧ k ≠ g) ∧ B k) ∧ C k) v xs) : Kd.V d e (W.setCell ⟨g, i, none⟩ u) base (fun k => ((A k ∧ k ≠ g) ∧ B k) ∧ C k) v xs := Kd.V_far h (fun _ hk => hk.1.1.2) u
theorem uR {α : Type} {d : Kd α} {e base : Nat} {ok : Nat → Prop} {v : Value} {xs : List α} {W W' : World} (h : d.R e W base ok v xs) (f : d.R e W base ok v xs → d.R e W' base ok v xs := by intro h_; repeat (first | (with_reducible first | exact h_ | apply Kd.R_alloc | apply Kd.R_drewN | apply Kd.R_drew | apply farRa | apply farRb | apply farRc))) : d.R e W' base ok v xs := f h
theorem uV {α : Type} {d : Kd α} {e base : Nat} {ok : Nat → Prop} {v : Value} {xs : List α} {W W' : World} (h : Kd.V d e W base ok v xs) (f : Kd.V d e W base ok v xs → Kd.V d e W' base ok v xs := by intro h_; repeat (first | (with_reducible first | exact h_ | apply Kd.V_alloc | apply Kd.V_drewN | apply Kd.V_drew | apply farVa | apply farVb | apply farVc))) : Kd.V d e W' base ok v xs := f h
theorem blk5 {W : World} {g : Nat} {t : TypeId} {a b c d e : Value} (h : W.heap[g]? = some (.cells #[a, b, c, d, e] t (0, 0))) :
  W.cell? ⟨g, 0, none⟩ = some a ∧ W.cell? ⟨g, 1, none⟩ = some b ∧ W.cell? ⟨g, 2, none⟩ = some c ∧ W.cell? ⟨g, 3, none⟩ = some d ∧ W.cell? ⟨g, 4, none⟩ = some e ∧
   W.frozen? ⟨g, 0, none⟩ = false ∧ W.frozen? ⟨g, 1, none⟩ = false ∧ W.frozen? ⟨g, 2, none⟩ = false ∧ W.frozen? ⟨g, 3, none⟩ = false ∧ W.frozen? ⟨g, 4, none⟩ = false :=
 ⟨(blk_cell h 0).trans rfl, (blk_cell h 1).trans rfl, (blk_cell h 2).trans rfl, (blk_cell h 3).trans rfl, (blk_cell h 4).trans rfl, blk_frozen h 0, blk_frozen h 1, blk_frozen h 2, blk_frozen h 3, blk_frozen h 4⟩
theorem neL {a gb n : Nat} (hg : gb = n) (h : a < n) : a ≠ gb := by omega
theorem neR {a gb n : Nat} (hg : gb = n) (h : a < n) : gb ≠ a := by omega
theorem leK {w W : World} {g gb : Nat} (hg : gb = W.heap.size) (h : KeepBut w W g none) : w.heap.size ≤ gb := hg ▸ keep_size h
theorem leB {w W : World} {gb : Nat} (hg : gb = W.heap.size) (h : Below w.heap.size w W) : w.heap.size ≤ gb := hg ▸ below_size h
end Go.Proofs.YtaihmpdhaikfkaaGreatDoor.PFnFjFloat
