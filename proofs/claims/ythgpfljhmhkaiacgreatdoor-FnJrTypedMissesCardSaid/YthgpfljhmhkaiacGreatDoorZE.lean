/- Part of the proof that laws.FnJrTypedMisses answers true for every input (the card: text ZF). -/
import Derived.Test.YthgpfljhmhkaiacGreatDoorV0
import Derived.Lib.BytesEntry
import Derived.Lib.Walk
set_option linter.all false
/- Contracts by hand of two functions of Go's library that the print does not take: Uint64 of encoding/binary, IndexByte of bytes. -/
namespace Go.Proofs.YthgpfljhmhkaiacGreatDoor.PFnJrTypedMisses
open Go.RowKit Go.Proofs.YthgpfljhmhkaiacGreatDoorW.PrintWords Go.Proofs.YthgpfljhmhkaiacGreatDoorW.PrintLast Go.Proofs.YthgpfljhmhkaiacGreatDoorW.PrintMore
/-- Eight bytes, the least one first. -/
def binary_littleEndian_Uint64.f (l1 : List Int) : Option Int := if 7 < l1.length then some (Go.bits .or .u64 (Go.bits .or .u64 (Go.bits .or .u64 (Go.bits .or .u64 (Go.bits .or .u64 (Go.bits .or .u64 (Go.bits .or .u64 (IntKind.u64.wrap (rd l1 0)) (IntKind.u64.wrap (IntKind.u64.wrap (rd l1 1) * 256))) (IntKind.u64.wrap (IntKind.u64.wrap (rd l1 2) * 65536))) (IntKind.u64.wrap (IntKind.u64.wrap (rd l1 3) * 16777216))) (IntKind.u64.wrap (IntKind.u64.wrap (rd l1 4) * 4294967296))) (IntKind.u64.wrap (IntKind.u64.wrap (rd l1 5) * 1099511627776))) (IntKind.u64.wrap (IntKind.u64.wrap (rd l1 6) * 281474976710656))) (IntKind.u64.wrap (IntKind.u64.wrap (rd l1 7) * 72057594037927936))) else none
set_option maxHeartbeats 4000000 in
set_option maxRecDepth 100000 in
theorem binary_littleEndian_Uint64.calls (A1 : Option Addr) (c1 : Nat) (l1 : List Int) (r : Int) (w : World) (hr1 : Kd.C (Kd.int .u8) w A1 l1.length l1) (hc1 : l1.length ≤ c1) (h : binary_littleEndian_Uint64.f l1 = some r) :
  Calls Tryz.prog 84 #[.agg #[], .slice A1 l1.length c1] w fun e w' => e = .returned (.int .u64 r) ∧ Below w.heap.size w w' := by
 unfold binary_littleEndian_Uint64.f at h
 have h8 : 7 < l1.length := by
  by_cases h8 : 7 < l1.length
  ·exact h8
  ·rw [if_neg h8] at h; cases h
 rw [if_pos h8] at h
 injection h with h
 subst h
 have hu128 := Tryz.underlying128
 obtain ⟨ad, e0, h0⟩ := Kd.at_int hr1 0 (by omega) (by omega)
 cases e0
 obtain ⟨_, e1, h1⟩ := Kd.at_int hr1 1 (by omega) (by omega)
 cases e1
 obtain ⟨_, e2, h2⟩ := Kd.at_int hr1 2 (by omega) (by omega)
 cases e2
 obtain ⟨_, e3, h3⟩ := Kd.at_int hr1 3 (by omega) (by omega)
 cases e3
 obtain ⟨_, e4, h4⟩ := Kd.at_int hr1 4 (by omega) (by omega)
 cases e4
 obtain ⟨_, e5, h5⟩ := Kd.at_int hr1 5 (by omega) (by omega)
 cases e5
 obtain ⟨_, e6, h6⟩ := Kd.at_int hr1 6 (by omega) (by omega)
 cases e6
 obtain ⟨_, e7, h7⟩ := Kd.at_int hr1 7 (by omega) (by omega)
 cases e7
 clear hr1
 simp only [show (0 : Int).toNat = 0 from rfl, show (1 : Int).toNat = 1 from rfl, show (2 : Int).toNat = 2 from rfl, show (3 : Int).toNat = 3 from rfl, show (4 : Int).toNat = 4 from rfl, show (5 : Int).toNat = 5 from rfl, show (6 : Int).toNat = 6 from rfl, show (7 : Int).toNat = 7 from rfl, Nat.reduceEqDiff, Go.Addr.add, ↓reduceIte] at h0 h1 h2 h3 h4 h5 h6 h7
 have hlt : ad.block < w.heap.size := World.block_lt_of_cell? w _ h0
 have q0 : (0 < l1.length) = True := eq_true (by omega)
 have q1 : (1 < l1.length) = True := eq_true (by omega)
 have q2 : (2 < l1.length) = True := eq_true (by omega)
 have q3 : (3 < l1.length) = True := eq_true (by omega)
 have q4 : (4 < l1.length) = True := eq_true (by omega)
 have q5 : (5 < l1.length) = True := eq_true (by omega)
 have q6 : (6 < l1.length) = True := eq_true (by omega)
 have q7 : (7 < l1.length) = True := eq_true (by omega)
 have qi0 : (0 < (l1.length : Int)) = True := eq_true (by omega)
 have qi1 : (1 < (l1.length : Int)) = True := eq_true (by omega)
 have qi2 : (2 < (l1.length : Int)) = True := eq_true (by omega)
 have qi3 : (3 < (l1.length : Int)) = True := eq_true (by omega)
 have qi4 : (4 < (l1.length : Int)) = True := eq_true (by omega)
 have qi5 : (5 < (l1.length : Int)) = True := eq_true (by omega)
 have qi6 : (6 < (l1.length : Int)) = True := eq_true (by omega)
 have qi7 : (7 < (l1.length : Int)) = True := eq_true (by omega)
 clear h8
 go_enter Tryz.func84, Tryz.ntmps84
 go_wp2_with (first | ((with_reducible refine gate_dst (N := 2) rfl ?_); refine box_event ?hg (N := 2) ?hd (cs := #[]) (t := 128) ?hr ?_; (case hd => rfl); (case hg => rfl); (case hr => first | (go_simp; done) | (go_simp; rfl)); intro gb457 hg w3 hbox hb; (replace h0 := (hb.cell hlt).trans h0); (replace h1 := (hb.cell (p := ⟨ad.block, ad.off + 1, none⟩) hlt).trans h1); (replace h2 := (hb.cell (p := ⟨ad.block, ad.off + 2, none⟩) hlt).trans h2); (replace h3 := (hb.cell (p := ⟨ad.block, ad.off + 3, none⟩) hlt).trans h3); (replace h4 := (hb.cell (p := ⟨ad.block, ad.off + 4, none⟩) hlt).trans h4); (replace h5 := (hb.cell (p := ⟨ad.block, ad.off + 5, none⟩) hlt).trans h5); (replace h6 := (hb.cell (p := ⟨ad.block, ad.off + 6, none⟩) hlt).trans h6); (replace h7 := (hb.cell (p := ⟨ad.block, ad.off + 7, none⟩) hlt).trans h7); (have HB := sd hb); clear hb hg hbox hlt))
 go_quiet (fail)
 go_wp2
 go_ret
 exact ⟨rfl, pw_below_drewN HB.out _⟩
/-- Where a byte stands first, -1 if nowhere. -/
def bytes_IndexByte.f (l0 : List Int) (a1 : Int) : Option Int := some (Lib.indexByte (Lib.bytesOf l0) a1.toNat.toUInt8)
theorem C_cells {w : World} {A : Option Addr} {l : List Int} (hr : Kd.C (Kd.int .u8) w A l.length l) (hne : l ≠ []) : ∃ b o, A = some ⟨b, o, none⟩ ∧ ∀ i, i < l.length → w.cell? ⟨b, o + i, none⟩ = some (.int .u8 (l.getD i 0)) := by
 have hpos : 0 < l.length := List.length_pos_iff.mpr hne
 obtain ⟨ad, e0, h0⟩ := Kd.at_int hr 0 (by omega) (by omega)
 cases e0
 obtain ⟨b, o, v⟩ := ad
 have h0' : w.cell? ⟨b, o, v⟩ = some (.int .u8 (rd l 0)) := by simpa [Addr.add] using h0
 have hv : v = none := by
  cases v with
  | none => rfl
  | some v =>
   simp [World.cell?] at h0'
   split at h0' <;> cases h0'
 subst hv
 refine ⟨b, o, rfl, fun i hi => ?_⟩
 obtain ⟨ad, e, h⟩ := Kd.at_int hr (i : Int) (by omega) (by omega)
 cases e
 by_cases hz : i = 0
 ·subst hz; simpa [rd] using h0'
 ·simpa [rd, Addr.add, hz] using h
theorem run_indexByteEmpty {P : Program} (w : World) (ad : Addr) (c : Nat) (cv : Int) :
  (Extern.BytealgIndexByte.indexByte #[.slice (some ad) 0 c, .int .u8 cv]).run P w = .ok (.int .i64 (-1)) w := by
 have hs := Lib.run_indexByteNil (P := P) w 0 c cv
 rw [← hs]
 rfl
set_option maxHeartbeats 1000000 in
set_option maxRecDepth 100000 in
theorem bytes_IndexByte.calls (A0 : Option Addr) (c0 : Nat) (l0 : List Int) (a1 : Int) (r : Int) (w : World) (hr0 : Kd.C (Kd.int .u8) w A0 l0.length l0) (hc0 : l0.length ≤ c0) (h : bytes_IndexByte.f l0 a1 = some r) :
  Calls Tryz.prog 41 #[.slice A0 l0.length c0, .int .u8 a1] w fun e w' => e = .returned (.int .i64 r) ∧ Below w.heap.size w w' := by
 unfold bytes_IndexByte.f at h
 injection h with h
 subst h
 by_cases hne : l0 = []
 ·subst hne
  by_cases hA : A0 = none
  ·subst hA
   go_enter Tryz.func41, Tryz.ntmps41
   go_wp2
   rw [run_callFunc_extern Tryz.func57 (by kernel_rfl) (by kernel_rfl) (by kernel_rfl) (e := Extern.BytealgIndexByte.indexByte) (by kernel_rfl), Lib.run_indexByteNil w _ _ a1]
   simp only [Result.andThen]
   rw [Oper.upon_value]
   go_wp2
   go_ret
   exact ⟨rfl, Below.refl _ _⟩
  ·obtain ⟨ad, rfl⟩ : ∃ ad, A0 = some ad := by cases A0 with
    | none => exact absurd rfl hA
    | some ad => exact ⟨ad, rfl⟩
   obtain ⟨b, o, v⟩ := ad
   clear hA
   go_enter Tryz.func41, Tryz.ntmps41
   go_wp2
   rw [run_callFunc_extern Tryz.func57 (by kernel_rfl) (by kernel_rfl) (by kernel_rfl) (e := Extern.BytealgIndexByte.indexByte) (by kernel_rfl)]
   have hrun := run_indexByteEmpty (P := Tryz.prog) w ⟨b, o, v⟩ c0 a1
   rw [hrun]
   simp only [Result.andThen]
   rw [Oper.upon_value]
   go_wp2
   go_ret
   exact ⟨rfl, Below.refl _ _⟩
 ·obtain ⟨b, o, rfl, hc⟩ := C_cells hr0 hne
  have HC := sd hc
  clear hc hr0 hne
  go_enter Tryz.func41, Tryz.ntmps41
  go_wp2
  rw [run_callFunc_extern Tryz.func57 (by kernel_rfl) (by kernel_rfl) (by kernel_rfl) (e := Extern.BytealgIndexByte.indexByte) (by kernel_rfl), Lib.run_indexByteSlice w b o _ c0 l0 rfl HC.out a1]
  simp only [Result.andThen]
  rw [Oper.upon_value]
  go_wp2
  go_ret
  exact ⟨rfl, Below.refl _ _⟩
end Go.Proofs.YthgpfljhmhkaiacGreatDoor.PFnJrTypedMisses
