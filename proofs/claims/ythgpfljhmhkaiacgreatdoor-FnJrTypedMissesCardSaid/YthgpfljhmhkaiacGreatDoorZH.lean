/- Part of the proof that laws.FnJrTypedMisses answers true for every input (the card: text ZF). -/
import Derived.Shelf.Strconv.Atoi
import Derived.Shelf.Spec.EncodeRune
import Derived.Ground.Names7Prog
import Derived.Test.YthgpfljhmhkaiacGreatDoorProg
import Derived.Test.YthgpfljhmhkaiacGreatDoorV0
import Derived.Test.YthgpfljhmhkaiacGreatDoorV13
import Derived.Outline
import Derived.Lib.Hide
set_option linter.all false
/-
  DERIVED: THE SHELF's CONTRACTS AT THIS DUMP, IN PLAIN WORDS (tools/lay-plain.mjs out of 'TryzShelf.lean', which tools/lay-shelf.mjs wrote): THE SAME DECLARATIONS UNDER THE SAME NAMES: 'import', 'namespace', 'open', 'def', 'theorem' AND NOTHING ELSE: no command of the shelf's: FOR A HAND-IN. Each laying: the table of numbers ('.._ren') and one theorem, a field a fact of the dump's own or the kernel's comparison; each contract: ONE APPLICATION.
-/
namespace Go.Proofs
open Go.Shelf
def Tryz.lays172_ren : Go.Shelf.Ren := ⟨fun | 172 => 82 | 244 => 93 | 245 => 55 | 247 => 98 | 279 => 75 | 280 => 76 | 281 => 77 | 282 => 78 | 287 => 54 | 316 => 90 | 171 => 91 | 205 => 34 | 321 => 73 | 322 => 74 | 243 => 96 | 246 => 103 | 283 => 107 | 284 => 108 | 285 => 109 | 286 => 110 | 129 => 125 | 317 => 124 | 318 => 126 | 319 => 127 | 320 => 128 | 337 => 141 | 338 => 142 | n => n, fun | 9 => 9 | 3 => 3 | 75 => 41 | 76 => 56 | 4 => 4 | 5 => 5 | 167 => 119 | 37 => 44 | 0 => 0 | 85 => 42 | 2 => 2 | 168 => 75 | 53 => 46 | 175 => 47 | 46 => 120 | 210 => 78 | 127 => 138 | 145 => 97 | 143 => 95 | 21 => 21 | 171 => 153 | 173 => 156 | 212 => 184 | 51 => 146 | 20 => 20 | 213 => 185 | 232 => 213 | 233 => 102 | 80 => 219 | n => n, fun | 15 => 14 | 16 => 10 | 17 => 19 | 18 => 24 | 19 => 25 | n => n⟩
theorem Tryz.lays172 : Go.Proofs.Lays.n172 Tryz.prog Tryz.lays172_ren := {
 mixed := by kernel_rfl
 f129 := Tryz.func125.trans (congrArg some (by kernel_rfl))
 f171 := Tryz.func91.trans (congrArg some (by kernel_rfl))
 f172 := Tryz.func82.trans (congrArg some (by kernel_rfl))
 f205 := Tryz.func34.trans (congrArg some (by kernel_rfl))
 f243 := Tryz.func96.trans (congrArg some (by kernel_rfl))
 f244 := Tryz.func93.trans (congrArg some (by kernel_rfl))
 f245 := Tryz.func55.trans (congrArg some (by kernel_rfl))
 f246 := Tryz.func103.trans (congrArg some (by kernel_rfl))
 f247 := Tryz.func98.trans (congrArg some (by kernel_rfl))
 f279 := Tryz.func75.trans (congrArg some (by kernel_rfl))
 f280 := Tryz.func76.trans (congrArg some (by kernel_rfl))
 f281 := Tryz.func77.trans (congrArg some (by kernel_rfl))
 f282 := Tryz.func78.trans (congrArg some (by kernel_rfl))
 f283 := Tryz.func107.trans (congrArg some (by kernel_rfl))
 f284 := Tryz.func108.trans (congrArg some (by kernel_rfl))
 f285 := Tryz.func109.trans (congrArg some (by kernel_rfl))
 f286 := Tryz.func110.trans (congrArg some (by kernel_rfl))
 f287 := Tryz.func54.trans (congrArg some (by kernel_rfl))
 f316 := Tryz.func90.trans (congrArg some (by kernel_rfl))
 f317 := Tryz.func124.trans (congrArg some (by kernel_rfl))
 f318 := Tryz.func126.trans (congrArg some (by kernel_rfl))
 f319 := Tryz.func127.trans (congrArg some (by kernel_rfl))
 f320 := Tryz.func128.trans (congrArg some (by kernel_rfl))
 f321 := Tryz.func73.trans (congrArg some (by kernel_rfl))
 f322 := Tryz.func74.trans (congrArg some (by kernel_rfl))
 f337 := Tryz.func141.trans (congrArg some (by kernel_rfl))
 f338 := Tryz.func142.trans (congrArg some (by kernel_rfl))
 t0 := Tryz.underlying0
 a0 := Tryz.isAgg0
 z0 := Tryz.sizeOf0
 v0 := Tryz.zeroValue0
 t2 := Tryz.underlying2
 a2 := Tryz.isAgg2
 z2 := Tryz.sizeOf2
 v2 := Tryz.zeroValue2
 t3 := Tryz.underlying3
 a3 := Tryz.isAgg3
 z3 := Tryz.sizeOf3
 v3 := Tryz.zeroValue3
 t4 := Tryz.underlying4
 a4 := Tryz.isAgg4
 z4 := Tryz.sizeOf4
 v4 := Tryz.zeroValue4
 t5 := Tryz.underlying5
 a5 := Tryz.isAgg5
 z5 := Tryz.sizeOf5
 v5 := Tryz.zeroValue5
 t9 := Tryz.underlying9
 a9 := Tryz.isAgg9
 z9 := Tryz.sizeOf9
 v9 := Tryz.zeroValue9
 t20 := Tryz.underlying20
 a20 := Tryz.isAgg20
 z20 := Tryz.sizeOf20
 v20 := Tryz.zeroValue20
 t21 := Tryz.underlying21
 a21 := Tryz.isAgg21
 z21 := Tryz.sizeOf21
 v21 := Tryz.zeroValue21
 t37 := Tryz.underlying44
 a37 := Tryz.isAgg44
 z37 := Tryz.sizeOf44
 v37 := Tryz.zeroValue44
 t46 := Tryz.underlying120
 a46 := Tryz.isAgg120
 z46 := Tryz.sizeOf120
 v46 := Tryz.zeroValue120
 t51 := Tryz.underlying146
 a51 := Tryz.isAgg146
 z51 := Tryz.sizeOf146
 v51 := Tryz.zeroValue146
 t53 := Tryz.underlying46
 a53 := Tryz.isAgg46
 z53 := Tryz.sizeOf46
 v53 := Tryz.zeroValue46
 t75 := Tryz.underlying41
 a75 := Tryz.isAgg41
 z75 := Tryz.sizeOf41
 v75 := Tryz.zeroValue41
 t76 := Tryz.underlying56
 a76 := Tryz.isAgg56
 z76 := Tryz.sizeOf56
 v76 := Tryz.zeroValue56
 t85 := Tryz.underlying42
 a85 := Tryz.isAgg42
 z85 := Tryz.sizeOf42
 v85 := Tryz.zeroValue42
 t127 := Tryz.underlying138
 a127 := Tryz.isAgg138
 z127 := Tryz.sizeOf138
 v127 := Tryz.zeroValue138
 t143 := Tryz.underlying95
 a143 := Tryz.isAgg95
 z143 := Tryz.sizeOf95
 v143 := Tryz.zeroValue95
 t145 := Tryz.underlying97
 a145 := Tryz.isAgg97
 z145 := Tryz.sizeOf97
 v145 := Tryz.zeroValue97
 t167 := Tryz.underlying119
 a167 := Tryz.isAgg119
 z167 := Tryz.sizeOf119
 v167 := Tryz.zeroValue119
 t168 := Tryz.underlying75
 a168 := Tryz.isAgg75
 z168 := Tryz.sizeOf75
 v168 := Tryz.zeroValue75
 t171 := Tryz.underlying153
 a171 := Tryz.isAgg153
 z171 := Tryz.sizeOf153
 v171 := Tryz.zeroValue153
 t173 := Tryz.underlying156
 a173 := Tryz.isAgg156
 z173 := Tryz.sizeOf156
 v173 := Tryz.zeroValue156
 t175 := Tryz.underlying47
 a175 := Tryz.isAgg47
 z175 := Tryz.sizeOf47
 v175 := Tryz.zeroValue47
 t210 := Tryz.underlying78
 a210 := Tryz.isAgg78
 z210 := Tryz.sizeOf78
 v210 := Tryz.zeroValue78
 t212 := Tryz.underlying184
 a212 := Tryz.isAgg184
 z212 := Tryz.sizeOf184
 v212 := Tryz.zeroValue184
 t213 := Tryz.underlying185
 a213 := Tryz.isAgg185
 z213 := Tryz.sizeOf185
 t232 := Tryz.underlying213
 a232 := Tryz.isAgg213
 z232 := Tryz.sizeOf213
 v232 := Tryz.zeroValue213
 t233 := Tryz.underlying102
 a233 := Tryz.isAgg102
 z233 := Tryz.sizeOf102
 v233 := Tryz.zeroValue102
 g15 := by kernel_rfl
 g16 := by kernel_rfl
 g17 := by kernel_rfl
 g18 := by kernel_rfl
 g19 := by kernel_rfl }
def Tryz.lays730_ren : Go.Shelf.Ren := ⟨fun | 30 => 95 | 47 => 102 | n => n, fun | 30 => 44 | 21 => 21 | 3 => 3 | 27 => 146 | 4 => 4 | 5 => 5 | 0 => 0 | 25 => 120 | n => n, fun | n => n⟩
theorem Tryz.lays730 : Go.Proofs.Lays7.n30 Tryz.prog Tryz.lays730_ren := {
 mixed := by kernel_rfl
 f30 := Tryz.func95.trans (congrArg some (by kernel_rfl))
 f47 := Tryz.func102.trans (congrArg some (by kernel_rfl))
 t0 := Tryz.underlying0
 a0 := Tryz.isAgg0
 z0 := Tryz.sizeOf0
 v0 := Tryz.zeroValue0
 i0 := by kernel_rfl
 t3 := Tryz.underlying3
 a3 := Tryz.isAgg3
 z3 := Tryz.sizeOf3
 v3 := Tryz.zeroValue3
 i3 := by kernel_rfl
 t4 := Tryz.underlying4
 a4 := Tryz.isAgg4
 z4 := Tryz.sizeOf4
 v4 := Tryz.zeroValue4
 i4 := by kernel_rfl
 t5 := Tryz.underlying5
 a5 := Tryz.isAgg5
 z5 := Tryz.sizeOf5
 v5 := Tryz.zeroValue5
 i5 := by kernel_rfl
 t21 := Tryz.underlying21
 a21 := Tryz.isAgg21
 z21 := Tryz.sizeOf21
 v21 := Tryz.zeroValue21
 i21 := by kernel_rfl
 t25 := Tryz.underlying120
 a25 := Tryz.isAgg120
 z25 := Tryz.sizeOf120
 v25 := Tryz.zeroValue120
 i25 := by kernel_rfl
 t27 := Tryz.underlying146
 a27 := Tryz.isAgg146
 z27 := Tryz.sizeOf146
 v27 := Tryz.zeroValue146
 i27 := by kernel_rfl
 t30 := Tryz.underlying44
 a30 := Tryz.isAgg44
 z30 := Tryz.sizeOf44
 v30 := Tryz.zeroValue44
 i30 := by kernel_rfl }
end Go.Proofs
/- One escape: unescapeToUTF8Config of jsonparser under the strict configuration. -/
namespace Go.Proofs.YthgpfljhmhkaiacGreatDoor.PFnJrTypedMisses
open Go.RowKit Go.Proofs.YthgpfljhmhkaiacGreatDoorW.PrintWords Go.Proofs.YthgpfljhmhkaiacGreatDoorW.PrintLast Go.Proofs.YthgpfljhmhkaiacGreatDoorW.PrintMore
/-- The bytes that stand for the letter behind a backslash. -/
def escTab (e : Int) : Int := if e = 34 then 34 else if e = 92 then 92 else if e = 47 then 47 else if e = 98 then 8 else if e = 102 then 12 else if e = 110 then 10 else if e = 114 then 13 else 9
/-- What the table of escapes holds. -/
def TabW (w : World) : Prop := w.cell? ⟨15, 34, none⟩ = some (.int .u8 34) ∧ w.cell? ⟨15, 92, none⟩ = some (.int .u8 92) ∧ w.cell? ⟨15, 47, none⟩ = some (.int .u8 47) ∧ w.cell? ⟨15, 98, none⟩ = some (.int .u8 8) ∧ w.cell? ⟨15, 102, none⟩ = some (.int .u8 12) ∧ w.cell? ⟨15, 110, none⟩ = some (.int .u8 10) ∧ w.cell? ⟨15, 114, none⟩ = some (.int .u8 13) ∧ w.cell? ⟨15, 116, none⟩ = some (.int .u8 9)
/-- Nothing outside the memory has turned. -/
def Env (w w' : World) : Prop := w'.os = w.os ∧ w'.tape = w.tape ∧ w'.output = w.output
theorem Env.then_ {a b c : World} (h : Env a b) (k : Env b c) : Env a c := ⟨k.1.trans h.1, k.2.1.trans h.2.1, k.2.2.trans h.2.2⟩
theorem Env.of_below {B : Nat} {a b : World} (h : Below B a b) : Env a b := ⟨h.os, h.tape, h.output⟩
/-- The bytes written at a place of a block, all else as it was. -/
structure PutAt (w w' : World) (B t o : Nat) (arr : Array Value) (bs : List Int) : Prop where
 blk : ∃ arr', w'.heap[B]? = some (.cells arr' t (0, 0)) ∧ arr'.size = arr.size ∧ (∀ i, i < o → arr'[i]? = arr[i]?) ∧ ∀ j, j < bs.length → arr'[o + j]? = some (.int .u8 (bs.getD j 0))
 kept : Kept w w' (fun k => k = B)
 env : Env w w'
theorem kept_put1 {w : World} {B o : Nat} {v : Value} (ob : Obj) : Kept w ((w.setCell ⟨B, o, none⟩ v).alloc ob) (fun k => k = B) :=
 ((Kept.refl w (fun k => k = B)).setCell (p := ⟨B, o, none⟩) (.inl rfl) v).alloc ob
theorem put1 {w : World} {B t o : Nat} {arr : Array Value} (hB : w.heap[B]? = some (.cells arr t (0, 0))) (ho : o < arr.size) (b : Int) (ob : Obj) :
  PutAt w ((w.setCell ⟨B, o, none⟩ (.int .u8 b)).alloc ob) B t o arr [b] := by
 refine ⟨⟨arr.setIfInBounds o (.int .u8 b), ?_, by simp, fun i hi => ?_, fun j hj => ?_⟩, kept_put1 ob, ⟨rfl, rfl, rfl⟩⟩
 ·have h1 := blk_set hB o (.int .u8 b)
  rw [Below.heap_alloc _ _ _ (blk_lt h1)]
  exact h1
 ·rw [Array.getElem?_setIfInBounds_ne (by omega)]
 ·have : j = 0 := by simpa using hj
  subst this
  simp [Array.getElem?_setIfInBounds, ho]
set_option maxHeartbeats 4000000 in
set_option maxRecDepth 100000 in
theorem esc_plain34 (A1 : Option Addr) (c1 : Nat) (l1 : List Int) (B t o len cap : Nat) (arr : Array Value) (w : World) (hr1 : Kd.C (Kd.int .u8) w A1 l1.length l1) (hl : 2 ≤ l1.length) (h92 : rd l1 0 = 92) (h1e : rd l1 1 = 34)
  (hT : TabW w) (hT15 : B ≠ 15) (hB : w.heap[B]? = some (.cells arr t (0, 0))) (hroom : 1 ≤ len) (hsz : o + len ≤ arr.size) :
  Calls Tryz.prog 85 #[.agg #[.bool false, .bool false, .int .i64 0], .slice A1 l1.length c1, .slice (some ⟨B, o, none⟩) len cap] w fun e' w' => e' = .returned (.tuple #[.int .i64 2, .int .i64 1]) ∧ PutAt w w' B t o arr [34] := by
 have hu85 := Tryz.underlying85
 have hu134 := Tryz.underlying134
 obtain ⟨ad, e0, h0⟩ := Kd.at_int hr1 0 (by omega) (by omega)
 cases e0
 obtain ⟨_, e1, h1⟩ := Kd.at_int hr1 1 (by omega) (by omega)
 cases e1
 clear hr1
 rw [h92] at h0
 rw [h1e] at h1
 clear h92 h1e
 simp only [show (0 : Int).toNat = 0 from rfl, show (1 : Int).toNat = 1 from rfl, Nat.reduceEqDiff, Go.Addr.add, ↓reduceIte] at h0 h1
 have hlt : ad.block < w.heap.size := World.block_lt_of_cell? w _ h0
 have q0 : (0 < l1.length) = True := eq_true (by omega)
 have q1 : (1 < l1.length) = True := eq_true (by omega)
 have qi0 : (0 < (l1.length : Int)) = True := eq_true (by omega)
 have qi1 : (1 < (l1.length : Int)) = True := eq_true (by omega)
 have qi2 : decide ((l1.length : Int) < 2) = false := decide_eq_false (by omega)
 have qn2 : decide (l1.length < 2) = false := decide_eq_false (by omega)
 have r0 : (0 < len) = True := eq_true (by omega)
 have ri0 : (0 < (len : Int)) = True := eq_true (by omega)
 obtain ⟨t34, t92, t47, t98, t102, t110, t114, t116⟩ := hT
 have hc := blk_cell hB o
 have hf := blk_frozen hB o
 obtain ⟨old, hold⟩ : ∃ v, arr[o]? = some v := ⟨arr[o]'(by omega), by simp [Array.getElem?_eq_getElem (show o < arr.size by omega)]⟩
 rw [hold] at hc
 have h15 : 15 < w.heap.size := World.block_lt_of_cell? w _ t34
 have hBlt : B < w.heap.size := blk_lt hB
 have HO := sd (show o < arr.size from by omega)
 have HB := sd hB
 clear hB hl hroom
 go_enter Tryz.func85, Tryz.ntmps85
 go_wp2
 go_ret2
 exact ⟨rfl, put1 HB.out HO.out _ _⟩
set_option maxHeartbeats 4000000 in
set_option maxRecDepth 100000 in
theorem esc_plain92 (A1 : Option Addr) (c1 : Nat) (l1 : List Int) (B t o len cap : Nat) (arr : Array Value) (w : World) (hr1 : Kd.C (Kd.int .u8) w A1 l1.length l1) (hl : 2 ≤ l1.length) (h92 : rd l1 0 = 92) (h1e : rd l1 1 = 92)
  (hT : TabW w) (hT15 : B ≠ 15) (hB : w.heap[B]? = some (.cells arr t (0, 0))) (hroom : 1 ≤ len) (hsz : o + len ≤ arr.size) :
  Calls Tryz.prog 85 #[.agg #[.bool false, .bool false, .int .i64 0], .slice A1 l1.length c1, .slice (some ⟨B, o, none⟩) len cap] w fun e' w' => e' = .returned (.tuple #[.int .i64 2, .int .i64 1]) ∧ PutAt w w' B t o arr [92] := by
 have hu85 := Tryz.underlying85
 have hu134 := Tryz.underlying134
 obtain ⟨ad, e0, h0⟩ := Kd.at_int hr1 0 (by omega) (by omega)
 cases e0
 obtain ⟨_, e1, h1⟩ := Kd.at_int hr1 1 (by omega) (by omega)
 cases e1
 clear hr1
 rw [h92] at h0
 rw [h1e] at h1
 clear h92 h1e
 simp only [show (0 : Int).toNat = 0 from rfl, show (1 : Int).toNat = 1 from rfl, Nat.reduceEqDiff, Go.Addr.add, ↓reduceIte] at h0 h1
 have hlt : ad.block < w.heap.size := World.block_lt_of_cell? w _ h0
 have q0 : (0 < l1.length) = True := eq_true (by omega)
 have q1 : (1 < l1.length) = True := eq_true (by omega)
 have qi0 : (0 < (l1.length : Int)) = True := eq_true (by omega)
 have qi1 : (1 < (l1.length : Int)) = True := eq_true (by omega)
 have qi2 : decide ((l1.length : Int) < 2) = false := decide_eq_false (by omega)
 have qn2 : decide (l1.length < 2) = false := decide_eq_false (by omega)
 have r0 : (0 < len) = True := eq_true (by omega)
 have ri0 : (0 < (len : Int)) = True := eq_true (by omega)
 obtain ⟨t34, t92, t47, t98, t102, t110, t114, t116⟩ := hT
 have hc := blk_cell hB o
 have hf := blk_frozen hB o
 obtain ⟨old, hold⟩ : ∃ v, arr[o]? = some v := ⟨arr[o]'(by omega), by simp [Array.getElem?_eq_getElem (show o < arr.size by omega)]⟩
 rw [hold] at hc
 have h15 : 15 < w.heap.size := World.block_lt_of_cell? w _ t34
 have hBlt : B < w.heap.size := blk_lt hB
 have HO := sd (show o < arr.size from by omega)
 have HB := sd hB
 clear hB hl hroom
 go_enter Tryz.func85, Tryz.ntmps85
 go_wp2
 go_ret2
 exact ⟨rfl, put1 HB.out HO.out _ _⟩
set_option maxHeartbeats 4000000 in
set_option maxRecDepth 100000 in
theorem esc_plain47 (A1 : Option Addr) (c1 : Nat) (l1 : List Int) (B t o len cap : Nat) (arr : Array Value) (w : World) (hr1 : Kd.C (Kd.int .u8) w A1 l1.length l1) (hl : 2 ≤ l1.length) (h92 : rd l1 0 = 92) (h1e : rd l1 1 = 47)
  (hT : TabW w) (hT15 : B ≠ 15) (hB : w.heap[B]? = some (.cells arr t (0, 0))) (hroom : 1 ≤ len) (hsz : o + len ≤ arr.size) :
  Calls Tryz.prog 85 #[.agg #[.bool false, .bool false, .int .i64 0], .slice A1 l1.length c1, .slice (some ⟨B, o, none⟩) len cap] w fun e' w' => e' = .returned (.tuple #[.int .i64 2, .int .i64 1]) ∧ PutAt w w' B t o arr [47] := by
 have hu85 := Tryz.underlying85
 have hu134 := Tryz.underlying134
 obtain ⟨ad, e0, h0⟩ := Kd.at_int hr1 0 (by omega) (by omega)
 cases e0
 obtain ⟨_, e1, h1⟩ := Kd.at_int hr1 1 (by omega) (by omega)
 cases e1
 clear hr1
 rw [h92] at h0
 rw [h1e] at h1
 clear h92 h1e
 simp only [show (0 : Int).toNat = 0 from rfl, show (1 : Int).toNat = 1 from rfl, Nat.reduceEqDiff, Go.Addr.add, ↓reduceIte] at h0 h1
 have hlt : ad.block < w.heap.size := World.block_lt_of_cell? w _ h0
 have q0 : (0 < l1.length) = True := eq_true (by omega)
 have q1 : (1 < l1.length) = True := eq_true (by omega)
 have qi0 : (0 < (l1.length : Int)) = True := eq_true (by omega)
 have qi1 : (1 < (l1.length : Int)) = True := eq_true (by omega)
 have qi2 : decide ((l1.length : Int) < 2) = false := decide_eq_false (by omega)
 have qn2 : decide (l1.length < 2) = false := decide_eq_false (by omega)
 have r0 : (0 < len) = True := eq_true (by omega)
 have ri0 : (0 < (len : Int)) = True := eq_true (by omega)
 obtain ⟨t34, t92, t47, t98, t102, t110, t114, t116⟩ := hT
 have hc := blk_cell hB o
 have hf := blk_frozen hB o
 obtain ⟨old, hold⟩ : ∃ v, arr[o]? = some v := ⟨arr[o]'(by omega), by simp [Array.getElem?_eq_getElem (show o < arr.size by omega)]⟩
 rw [hold] at hc
 have h15 : 15 < w.heap.size := World.block_lt_of_cell? w _ t34
 have hBlt : B < w.heap.size := blk_lt hB
 have HO := sd (show o < arr.size from by omega)
 have HB := sd hB
 clear hB hl hroom
 go_enter Tryz.func85, Tryz.ntmps85
 go_wp2
 go_ret2
 exact ⟨rfl, put1 HB.out HO.out _ _⟩
set_option maxHeartbeats 4000000 in
set_option maxRecDepth 100000 in
theorem esc_plain98 (A1 : Option Addr) (c1 : Nat) (l1 : List Int) (B t o len cap : Nat) (arr : Array Value) (w : World) (hr1 : Kd.C (Kd.int .u8) w A1 l1.length l1) (hl : 2 ≤ l1.length) (h92 : rd l1 0 = 92) (h1e : rd l1 1 = 98)
  (hT : TabW w) (hT15 : B ≠ 15) (hB : w.heap[B]? = some (.cells arr t (0, 0))) (hroom : 1 ≤ len) (hsz : o + len ≤ arr.size) :
  Calls Tryz.prog 85 #[.agg #[.bool false, .bool false, .int .i64 0], .slice A1 l1.length c1, .slice (some ⟨B, o, none⟩) len cap] w fun e' w' => e' = .returned (.tuple #[.int .i64 2, .int .i64 1]) ∧ PutAt w w' B t o arr [8] := by
 have hu85 := Tryz.underlying85
 have hu134 := Tryz.underlying134
 obtain ⟨ad, e0, h0⟩ := Kd.at_int hr1 0 (by omega) (by omega)
 cases e0
 obtain ⟨_, e1, h1⟩ := Kd.at_int hr1 1 (by omega) (by omega)
 cases e1
 clear hr1
 rw [h92] at h0
 rw [h1e] at h1
 clear h92 h1e
 simp only [show (0 : Int).toNat = 0 from rfl, show (1 : Int).toNat = 1 from rfl, Nat.reduceEqDiff, Go.Addr.add, ↓reduceIte] at h0 h1
 have hlt : ad.block < w.heap.size := World.block_lt_of_cell? w _ h0
 have q0 : (0 < l1.length) = True := eq_true (by omega)
 have q1 : (1 < l1.length) = True := eq_true (by omega)
 have qi0 : (0 < (l1.length : Int)) = True := eq_true (by omega)
 have qi1 : (1 < (l1.length : Int)) = True := eq_true (by omega)
 have qi2 : decide ((l1.length : Int) < 2) = false := decide_eq_false (by omega)
 have qn2 : decide (l1.length < 2) = false := decide_eq_false (by omega)
 have r0 : (0 < len) = True := eq_true (by omega)
 have ri0 : (0 < (len : Int)) = True := eq_true (by omega)
 obtain ⟨t34, t92, t47, t98, t102, t110, t114, t116⟩ := hT
 have hc := blk_cell hB o
 have hf := blk_frozen hB o
 obtain ⟨old, hold⟩ : ∃ v, arr[o]? = some v := ⟨arr[o]'(by omega), by simp [Array.getElem?_eq_getElem (show o < arr.size by omega)]⟩
 rw [hold] at hc
 have h15 : 15 < w.heap.size := World.block_lt_of_cell? w _ t34
 have hBlt : B < w.heap.size := blk_lt hB
 have HO := sd (show o < arr.size from by omega)
 have HB := sd hB
 clear hB hl hroom
 go_enter Tryz.func85, Tryz.ntmps85
 go_wp2
 go_ret2
 exact ⟨rfl, put1 HB.out HO.out _ _⟩
set_option maxHeartbeats 4000000 in
set_option maxRecDepth 100000 in
theorem esc_plain102 (A1 : Option Addr) (c1 : Nat) (l1 : List Int) (B t o len cap : Nat) (arr : Array Value) (w : World) (hr1 : Kd.C (Kd.int .u8) w A1 l1.length l1) (hl : 2 ≤ l1.length) (h92 : rd l1 0 = 92) (h1e : rd l1 1 = 102)
  (hT : TabW w) (hT15 : B ≠ 15) (hB : w.heap[B]? = some (.cells arr t (0, 0))) (hroom : 1 ≤ len) (hsz : o + len ≤ arr.size) :
  Calls Tryz.prog 85 #[.agg #[.bool false, .bool false, .int .i64 0], .slice A1 l1.length c1, .slice (some ⟨B, o, none⟩) len cap] w fun e' w' => e' = .returned (.tuple #[.int .i64 2, .int .i64 1]) ∧ PutAt w w' B t o arr [12] := by
 have hu85 := Tryz.underlying85
 have hu134 := Tryz.underlying134
 obtain ⟨ad, e0, h0⟩ := Kd.at_int hr1 0 (by omega) (by omega)
 cases e0
 obtain ⟨_, e1, h1⟩ := Kd.at_int hr1 1 (by omega) (by omega)
 cases e1
 clear hr1
 rw [h92] at h0
 rw [h1e] at h1
 clear h92 h1e
 simp only [show (0 : Int).toNat = 0 from rfl, show (1 : Int).toNat = 1 from rfl, Nat.reduceEqDiff, Go.Addr.add, ↓reduceIte] at h0 h1
 have hlt : ad.block < w.heap.size := World.block_lt_of_cell? w _ h0
 have q0 : (0 < l1.length) = True := eq_true (by omega)
 have q1 : (1 < l1.length) = True := eq_true (by omega)
 have qi0 : (0 < (l1.length : Int)) = True := eq_true (by omega)
 have qi1 : (1 < (l1.length : Int)) = True := eq_true (by omega)
 have qi2 : decide ((l1.length : Int) < 2) = false := decide_eq_false (by omega)
 have qn2 : decide (l1.length < 2) = false := decide_eq_false (by omega)
 have r0 : (0 < len) = True := eq_true (by omega)
 have ri0 : (0 < (len : Int)) = True := eq_true (by omega)
 obtain ⟨t34, t92, t47, t98, t102, t110, t114, t116⟩ := hT
 have hc := blk_cell hB o
 have hf := blk_frozen hB o
 obtain ⟨old, hold⟩ : ∃ v, arr[o]? = some v := ⟨arr[o]'(by omega), by simp [Array.getElem?_eq_getElem (show o < arr.size by omega)]⟩
 rw [hold] at hc
 have h15 : 15 < w.heap.size := World.block_lt_of_cell? w _ t34
 have hBlt : B < w.heap.size := blk_lt hB
 have HO := sd (show o < arr.size from by omega)
 have HB := sd hB
 clear hB hl hroom
 go_enter Tryz.func85, Tryz.ntmps85
 go_wp2
 go_ret2
 exact ⟨rfl, put1 HB.out HO.out _ _⟩
set_option maxHeartbeats 4000000 in
set_option maxRecDepth 100000 in
theorem esc_plain110 (A1 : Option Addr) (c1 : Nat) (l1 : List Int) (B t o len cap : Nat) (arr : Array Value) (w : World) (hr1 : Kd.C (Kd.int .u8) w A1 l1.length l1) (hl : 2 ≤ l1.length) (h92 : rd l1 0 = 92) (h1e : rd l1 1 = 110)
  (hT : TabW w) (hT15 : B ≠ 15) (hB : w.heap[B]? = some (.cells arr t (0, 0))) (hroom : 1 ≤ len) (hsz : o + len ≤ arr.size) :
  Calls Tryz.prog 85 #[.agg #[.bool false, .bool false, .int .i64 0], .slice A1 l1.length c1, .slice (some ⟨B, o, none⟩) len cap] w fun e' w' => e' = .returned (.tuple #[.int .i64 2, .int .i64 1]) ∧ PutAt w w' B t o arr [10] := by
 have hu85 := Tryz.underlying85
 have hu134 := Tryz.underlying134
 obtain ⟨ad, e0, h0⟩ := Kd.at_int hr1 0 (by omega) (by omega)
 cases e0
 obtain ⟨_, e1, h1⟩ := Kd.at_int hr1 1 (by omega) (by omega)
 cases e1
 clear hr1
 rw [h92] at h0
 rw [h1e] at h1
 clear h92 h1e
 simp only [show (0 : Int).toNat = 0 from rfl, show (1 : Int).toNat = 1 from rfl, Nat.reduceEqDiff, Go.Addr.add, ↓reduceIte] at h0 h1
 have hlt : ad.block < w.heap.size := World.block_lt_of_cell? w _ h0
 have q0 : (0 < l1.length) = True := eq_true (by omega)
 have q1 : (1 < l1.length) = True := eq_true (by omega)
 have qi0 : (0 < (l1.length : Int)) = True := eq_true (by omega)
 have qi1 : (1 < (l1.length : Int)) = True := eq_true (by omega)
 have qi2 : decide ((l1.length : Int) < 2) = false := decide_eq_false (by omega)
 have qn2 : decide (l1.length < 2) = false := decide_eq_false (by omega)
 have r0 : (0 < len) = True := eq_true (by omega)
 have ri0 : (0 < (len : Int)) = True := eq_true (by omega)
 obtain ⟨t34, t92, t47, t98, t102, t110, t114, t116⟩ := hT
 have hc := blk_cell hB o
 have hf := blk_frozen hB o
 obtain ⟨old, hold⟩ : ∃ v, arr[o]? = some v := ⟨arr[o]'(by omega), by simp [Array.getElem?_eq_getElem (show o < arr.size by omega)]⟩
 rw [hold] at hc
 have h15 : 15 < w.heap.size := World.block_lt_of_cell? w _ t34
 have hBlt : B < w.heap.size := blk_lt hB
 have HO := sd (show o < arr.size from by omega)
 have HB := sd hB
 clear hB hl hroom
 go_enter Tryz.func85, Tryz.ntmps85
 go_wp2
 go_ret2
 exact ⟨rfl, put1 HB.out HO.out _ _⟩
set_option maxHeartbeats 4000000 in
set_option maxRecDepth 100000 in
theorem esc_plain114 (A1 : Option Addr) (c1 : Nat) (l1 : List Int) (B t o len cap : Nat) (arr : Array Value) (w : World) (hr1 : Kd.C (Kd.int .u8) w A1 l1.length l1) (hl : 2 ≤ l1.length) (h92 : rd l1 0 = 92) (h1e : rd l1 1 = 114)
  (hT : TabW w) (hT15 : B ≠ 15) (hB : w.heap[B]? = some (.cells arr t (0, 0))) (hroom : 1 ≤ len) (hsz : o + len ≤ arr.size) :
  Calls Tryz.prog 85 #[.agg #[.bool false, .bool false, .int .i64 0], .slice A1 l1.length c1, .slice (some ⟨B, o, none⟩) len cap] w fun e' w' => e' = .returned (.tuple #[.int .i64 2, .int .i64 1]) ∧ PutAt w w' B t o arr [13] := by
 have hu85 := Tryz.underlying85
 have hu134 := Tryz.underlying134
 obtain ⟨ad, e0, h0⟩ := Kd.at_int hr1 0 (by omega) (by omega)
 cases e0
 obtain ⟨_, e1, h1⟩ := Kd.at_int hr1 1 (by omega) (by omega)
 cases e1
 clear hr1
 rw [h92] at h0
 rw [h1e] at h1
 clear h92 h1e
 simp only [show (0 : Int).toNat = 0 from rfl, show (1 : Int).toNat = 1 from rfl, Nat.reduceEqDiff, Go.Addr.add, ↓reduceIte] at h0 h1
 have hlt : ad.block < w.heap.size := World.block_lt_of_cell? w _ h0
 have q0 : (0 < l1.length) = True := eq_true (by omega)
 have q1 : (1 < l1.length) = True := eq_true (by omega)
 have qi0 : (0 < (l1.length : Int)) = True := eq_true (by omega)
 have qi1 : (1 < (l1.length : Int)) = True := eq_true (by omega)
 have qi2 : decide ((l1.length : Int) < 2) = false := decide_eq_false (by omega)
 have qn2 : decide (l1.length < 2) = false := decide_eq_false (by omega)
 have r0 : (0 < len) = True := eq_true (by omega)
 have ri0 : (0 < (len : Int)) = True := eq_true (by omega)
 obtain ⟨t34, t92, t47, t98, t102, t110, t114, t116⟩ := hT
 have hc := blk_cell hB o
 have hf := blk_frozen hB o
 obtain ⟨old, hold⟩ : ∃ v, arr[o]? = some v := ⟨arr[o]'(by omega), by simp [Array.getElem?_eq_getElem (show o < arr.size by omega)]⟩
 rw [hold] at hc
 have h15 : 15 < w.heap.size := World.block_lt_of_cell? w _ t34
 have hBlt : B < w.heap.size := blk_lt hB
 have HO := sd (show o < arr.size from by omega)
 have HB := sd hB
 clear hB hl hroom
 go_enter Tryz.func85, Tryz.ntmps85
 go_wp2
 go_ret2
 exact ⟨rfl, put1 HB.out HO.out _ _⟩
set_option maxHeartbeats 4000000 in
set_option maxRecDepth 100000 in
theorem esc_plain116 (A1 : Option Addr) (c1 : Nat) (l1 : List Int) (B t o len cap : Nat) (arr : Array Value) (w : World) (hr1 : Kd.C (Kd.int .u8) w A1 l1.length l1) (hl : 2 ≤ l1.length) (h92 : rd l1 0 = 92) (h1e : rd l1 1 = 116)
  (hT : TabW w) (hT15 : B ≠ 15) (hB : w.heap[B]? = some (.cells arr t (0, 0))) (hroom : 1 ≤ len) (hsz : o + len ≤ arr.size) :
  Calls Tryz.prog 85 #[.agg #[.bool false, .bool false, .int .i64 0], .slice A1 l1.length c1, .slice (some ⟨B, o, none⟩) len cap] w fun e' w' => e' = .returned (.tuple #[.int .i64 2, .int .i64 1]) ∧ PutAt w w' B t o arr [9] := by
 have hu85 := Tryz.underlying85
 have hu134 := Tryz.underlying134
 obtain ⟨ad, e0, h0⟩ := Kd.at_int hr1 0 (by omega) (by omega)
 cases e0
 obtain ⟨_, e1, h1⟩ := Kd.at_int hr1 1 (by omega) (by omega)
 cases e1
 clear hr1
 rw [h92] at h0
 rw [h1e] at h1
 clear h92 h1e
 simp only [show (0 : Int).toNat = 0 from rfl, show (1 : Int).toNat = 1 from rfl, Nat.reduceEqDiff, Go.Addr.add, ↓reduceIte] at h0 h1
 have hlt : ad.block < w.heap.size := World.block_lt_of_cell? w _ h0
 have q0 : (0 < l1.length) = True := eq_true (by omega)
 have q1 : (1 < l1.length) = True := eq_true (by omega)
 have qi0 : (0 < (l1.length : Int)) = True := eq_true (by omega)
 have qi1 : (1 < (l1.length : Int)) = True := eq_true (by omega)
 have qi2 : decide ((l1.length : Int) < 2) = false := decide_eq_false (by omega)
 have qn2 : decide (l1.length < 2) = false := decide_eq_false (by omega)
 have r0 : (0 < len) = True := eq_true (by omega)
 have ri0 : (0 < (len : Int)) = True := eq_true (by omega)
 obtain ⟨t34, t92, t47, t98, t102, t110, t114, t116⟩ := hT
 have hc := blk_cell hB o
 have hf := blk_frozen hB o
 obtain ⟨old, hold⟩ : ∃ v, arr[o]? = some v := ⟨arr[o]'(by omega), by simp [Array.getElem?_eq_getElem (show o < arr.size by omega)]⟩
 rw [hold] at hc
 have h15 : 15 < w.heap.size := World.block_lt_of_cell? w _ t34
 have hBlt : B < w.heap.size := blk_lt hB
 have HO := sd (show o < arr.size from by omega)
 have HB := sd hB
 clear hB hl hroom
 go_enter Tryz.func85, Tryz.ntmps85
 go_wp2
 go_ret2
 exact ⟨rfl, put1 HB.out HO.out _ _⟩
theorem putN {w : World} {B t o : Nat} {arr : Array Value} (hB : w.heap[B]? = some (.cells arr t (0, 0))) (bs : List Int) (ho : o + bs.length ≤ arr.size) {w' : World}
  (hw : w' = w.setCells B o (bs.map fun x => Value.int .u8 x)) : PutAt w w' B t o arr bs := by
 subst hw
 have hl : o + (bs.map fun x => Value.int .u8 x).length ≤ arr.size := by simpa using ho
 obtain ⟨cur, h1, h2, h3⟩ := setCells_row (bs.map fun x => Value.int .u8 x) o w arr hB hl
 refine ⟨⟨cur, h1, h2, fun i hi => ?_, fun j hj => ?_⟩, ?_, ?_⟩
 ·rw [← Array.getElem?_toList, ← Array.getElem?_toList, h3, List.append_assoc, List.getElem?_append_left (by simp; omega), List.getElem?_take_of_lt hi]
 ·rw [← Array.getElem?_toList, h3, List.getElem?_append_left (by simp; omega), List.getElem?_append_right (by simp; omega)]
  simp [show min o arr.size = o by omega, List.getElem?_map, List.getD_eq_getElem?_getD, List.getElem?_eq_getElem hj]
 ·obtain ⟨_, _, _, hs⟩ := setCells_same B (bs.map fun x => Value.int .u8 x) o w
  exact ⟨by omega, fun i hi hn => setCells_far _ _ i hn⟩
 ·obtain ⟨e1, e2, e3, _⟩ := setCells_same B (bs.map fun x => Value.int .u8 x) o w
  exact ⟨e1, e2, e3⟩
theorem PutAt.of_drawn {w w1 w' : World} {B t o : Nat} {arr : Array Value} {bs : List Int} (hd : Kept w w1 (fun k => k = B)) (he : Env w w1) (h : PutAt w1 w' B t o arr bs) : PutAt w w' B t o arr bs :=
 ⟨h.blk, hd.then_ h.kept (fun k hk => .inl hk), he.then_ h.env⟩
/-- The escape that begins a text: how long it is, and its bytes; none where there is none. -/
def escOne (k : Nat) (l : List Int) : Option (Int × List Int) :=
 if l.length < 2 then none else if rd l 0 ≠ 92 then none else
 if rd l 1 = 34 ∨ rd l 1 = 92 ∨ rd l 1 = 47 ∨ rd l 1 = 98 ∨ rd l 1 = 102 ∨ rd l 1 = 110 ∨ rd l 1 = 114 ∨ rd l 1 = 116 then some (2, [escTab (rd l 1)])
 else if rd l 1 = 117 then (jsonparser_decodeUnicodeEscape.f k l).bind fun p => if p.2 = -1 then none else if p.1 < 0 then none else if p.1 ≤ 1114111 then some (p.2, Lib.encodeRuneZ p.1) else none
 else none
set_option maxHeartbeats 4000000 in
set_option maxRecDepth 100000 in
theorem esc_u (k : Nat) (r n : Int) (A1 : Option Addr) (c1 : Nat) (l1 : List Int) (B t o len cap : Nat) (arr : Array Value) (w : World) (hr1 : Kd.C (Kd.int .u8) w A1 l1.length l1) (hc1 : l1.length ≤ c1) (hl : 2 ≤ l1.length) (h92 : rd l1 0 = 92) (h1e : rd l1 1 = 117)
  (hB : w.heap[B]? = some (.cells arr t (0, 0))) (hd : jsonparser_decodeUnicodeEscape.f k l1 = some (r, n)) (hn : n ≠ -1) (hr0 : 0 ≤ r) (hr2 : r ≤ 1114111) (hroom : (Lib.encodeRuneZ r).length ≤ len) (hsz : o + len ≤ arr.size) :
  Calls Tryz.prog 85 #[.agg #[.bool false, .bool false, .int .i64 0], .slice A1 l1.length c1, .slice (some ⟨B, o, none⟩) len cap] w fun e' w' => e' = .returned (.tuple #[.int .i64 n, .int .i64 (Lib.encodeRuneZ r).length]) ∧ PutAt w w' B t o arr (Lib.encodeRuneZ r) := by
 have hu85 := Tryz.underlying85
 have HR := sd hr1
 obtain ⟨ad, e0, h0⟩ := Kd.at_int hr1 0 (by omega) (by omega)
 cases e0
 obtain ⟨_, e1, h1⟩ := Kd.at_int hr1 1 (by omega) (by omega)
 cases e1
 clear hr1
 rw [h92] at h0
 rw [h1e] at h1
 clear h92 h1e
 simp only [show (0 : Int).toNat = 0 from rfl, show (1 : Int).toNat = 1 from rfl, Nat.reduceEqDiff, Go.Addr.add, ↓reduceIte] at h0 h1
 have hlt : ad.block < w.heap.size := World.block_lt_of_cell? w _ h0
 have q0 : (0 < l1.length) = True := eq_true (by omega)
 have q1 : (1 < l1.length) = True := eq_true (by omega)
 have qi0 : (0 < (l1.length : Int)) = True := eq_true (by omega)
 have qi1 : (1 < (l1.length : Int)) = True := eq_true (by omega)
 have qi2 : decide ((l1.length : Int) < 2) = false := decide_eq_false (by omega)
 have qn2 : decide (l1.length < 2) = false := decide_eq_false (by omega)
 have hn1 : (n == -1) = false := beq_eq_false_iff_ne.mpr hn
 have HB := sd hB
 have HD := sd hd
 have HRO := sd hroom
 have HS := sd hsz
 have HRR := sd (And.intro hr0 hr2)
 have HC := sd hc1
 clear hB hd hroom hsz hr0 hr2 hc1 hl hn
 go_enter Tryz.func85, Tryz.ntmps85
 go_wp2_with fail
 refine (jsonparser_decodeUnicodeEscape.calls k _ c1 l1 r n _ (Kd.C_below HR.out (below_alloc (Below.refl _ _) _)) HC.out HD.out).mono ?_
 rintro e w1 ⟨rfl, ⟨m, rfl⟩⟩
 clear HR
 go_wp2_with fail
 have hB2 : ((w.alloc (Obj.cells #[Value.bool false, Value.bool false, Value.int IntKind.i64 0] 85)).drewN m).heap[B]? = some (.cells arr t (0, 0)) := blk_drewN (blk_alloc HB.out _) m
 have HB2 := sd hB2
 have hlen : (Lib.runeCells r).length = (Lib.encodeRuneZ r).length := by simp [Lib.runeCells]
 have HL := sd hlen
 clear hB2 hlen
 have HE := Lib.hid (Any7.utf8_EncodeRune Tryz.lays730 B o len cap r (by have := HRR.out; omega) (by have := HRR.out; omega) ((w.alloc (Obj.cells #[Value.bool false, Value.bool false, Value.int IntKind.i64 0] 85)).drewN m) (by rw [HL.out]; exact HRO.out)
  (fun j hj => by
   rw [blk_cell HB2.out]
   have h1 := HS.out
   have h2 := HRO.out
   rw [HL.out] at hj
   rw [Array.getElem?_eq_getElem (show o + j < arr.size by omega)]
   rfl)
  (fun j _ => blk_frozen HB2.out _))
 refine HE.out.mono ?_
 rintro e w2 ⟨rfl, hw2⟩
 clear HE
 have HP := sd (PutAt.of_drawn (((Kept.refl w (fun k => k = B)).alloc _).drewN m) ⟨rfl, rfl, rfl⟩ (putN HB2.out (Lib.encodeRuneZ r) (by have h1 := HS.out; have h2 := HRO.out; omega) hw2))
 clear hw2
 go_wp2
 go_ret2
 exact ⟨by rw [HL.out]; rfl, HP.out⟩
theorem esc_any (k : Nat) (n : Int) (bs : List Int) (A1 : Option Addr) (c1 : Nat) (l1 : List Int) (B t o len cap : Nat) (arr : Array Value) (w : World) (hr1 : Kd.C (Kd.int .u8) w A1 l1.length l1) (hc1 : l1.length ≤ c1)
  (hT : TabW w) (hT15 : B ≠ 15) (hB : w.heap[B]? = some (.cells arr t (0, 0))) (h : escOne k l1 = some (n, bs)) (hroom : bs.length ≤ len) (hsz : o + len ≤ arr.size) :
  Calls Tryz.prog 85 #[.agg #[.bool false, .bool false, .int .i64 0], .slice A1 l1.length c1, .slice (some ⟨B, o, none⟩) len cap] w fun e' w' => e' = .returned (.tuple #[.int .i64 n, .int .i64 bs.length]) ∧ PutAt w w' B t o arr bs := by
 unfold escOne at h
 by_cases hl : l1.length < 2
 ·rw [if_pos hl] at h; cases h
 rw [if_neg hl] at h
 by_cases h92 : rd l1 0 ≠ 92
 ·rw [if_pos h92] at h; cases h
 rw [if_neg h92] at h
 have h92 : rd l1 0 = 92 := Decidable.not_not.mp h92
 by_cases hp : rd l1 1 = 34 ∨ rd l1 1 = 92 ∨ rd l1 1 = 47 ∨ rd l1 1 = 98 ∨ rd l1 1 = 102 ∨ rd l1 1 = 110 ∨ rd l1 1 = 114 ∨ rd l1 1 = 116
 ·rw [if_pos hp] at h
  injection h with h
  injection h with ha hb
  subst ha
  subst hb
  have hl2 : 2 ≤ l1.length := by omega
  have hr : 1 ≤ len := hroom
  rcases hp with e | e | e | e | e | e | e | e
  ·rw [e]; exact esc_plain34 A1 c1 l1 B t o len cap arr w hr1 hl2 h92 e hT hT15 hB hr hsz
  ·rw [e]; exact esc_plain92 A1 c1 l1 B t o len cap arr w hr1 hl2 h92 e hT hT15 hB hr hsz
  ·rw [e]; exact esc_plain47 A1 c1 l1 B t o len cap arr w hr1 hl2 h92 e hT hT15 hB hr hsz
  ·rw [e]; exact esc_plain98 A1 c1 l1 B t o len cap arr w hr1 hl2 h92 e hT hT15 hB hr hsz
  ·rw [e]; exact esc_plain102 A1 c1 l1 B t o len cap arr w hr1 hl2 h92 e hT hT15 hB hr hsz
  ·rw [e]; exact esc_plain110 A1 c1 l1 B t o len cap arr w hr1 hl2 h92 e hT hT15 hB hr hsz
  ·rw [e]; exact esc_plain114 A1 c1 l1 B t o len cap arr w hr1 hl2 h92 e hT hT15 hB hr hsz
  ·rw [e]; exact esc_plain116 A1 c1 l1 B t o len cap arr w hr1 hl2 h92 e hT hT15 hB hr hsz
 ·rw [if_neg hp] at h
  by_cases hu : rd l1 1 = 117
  ·rw [if_pos hu] at h
   obtain ⟨⟨r, q⟩, hd, h⟩ := Option.bind_eq_some_iff.mp h
   dsimp only at h
   by_cases hn : q = -1
   ·rw [if_pos hn] at h; cases h
   rw [if_neg hn] at h
   by_cases h0 : r < 0
   ·rw [if_pos h0] at h; cases h
   rw [if_neg h0] at h
   by_cases h1 : r ≤ 1114111
   ·rw [if_pos h1] at h
    injection h with h
    injection h with ha hb
    subst ha
    subst hb
    exact esc_u k r q A1 c1 l1 B t o len cap arr w hr1 hc1 (by omega) h92 hu hB hd hn (by omega) h1 hroom hsz
   ·rw [if_neg h1] at h; cases h
  ·rw [if_neg hu] at h; cases h
end Go.Proofs.YthgpfljhmhkaiacGreatDoor.PFnJrTypedMisses
/- equalStr of jsonparser: two texts are the same. -/
namespace Go.Proofs.YthgpfljhmhkaiacGreatDoor.PFnJrTypedMisses
open Go.RowKit Go.Proofs.YthgpfljhmhkaiacGreatDoorW.PrintWords Go.Proofs.YthgpfljhmhkaiacGreatDoorW.PrintLast Go.Proofs.YthgpfljhmhkaiacGreatDoorW.PrintMore
theorem beq_bytes (a b : ByteArray) : (a.toList == b.toList) = decide (a = b) := by
 rw [Bool.eq_iff_iff, beq_iff_eq, decide_eq_true_iff]
 exact ⟨fun h => by rw [ByteArray.toList_eq, ByteArray.toList_eq] at h; exact ByteArray.ext (Array.toList_inj.mp h), fun h => by rw [h]⟩
set_option maxHeartbeats 4000000 in
set_option maxRecDepth 100000 in
theorem equalStr_calls (p : Addr) (A1 : Option Addr) (c1 : Nat) (l1 : List Int) (s : ByteArray) (w : World) (hp : w.cell? p = some (.slice A1 l1.length c1)) (hr1 : Kd.C (Kd.int .u8) w A1 l1.length l1) :
  Calls Tryz.prog 80 #[.pointer (some p), .string s] w fun e' w' => (e' = .returned (.bool (decide (strOfNums l1 = s)))) ∧ w' = w := by
 have hcv : (convert 44 9 (.slice A1 l1.length c1)).run Tryz.prog w = .ok (.string (strOfNums l1)) w := Kd.C_string Tryz.underlying44 Tryz.underlying5 Tryz.underlying9 hr1
 clear hr1
 go_enter Tryz.func80, Tryz.ntmps80
 go_wp2
 go_ret
 exact ⟨congrArg (fun b => Ending.returned (Value.bool b)) (beq_bytes _ _), rfl⟩
end Go.Proofs.YthgpfljhmhkaiacGreatDoor.PFnJrTypedMisses
