/- Part of the proof that laws.FnJrTypedMisses answers true for every input (the card: text ZF). -/
import Derived.Test.YthgpfljhmhkaiacGreatDoorZS
import Derived.Test.YthgpfljhmhkaiacGreatDoorZG
import Derived.Laws.CopyOwn
import Derived.OwnWalk
import Derived.Lib.IndexLaws
import Derived.Outline
set_option linter.all false
/- Small laws for the walk of the library's Unescape. -/
namespace Go.Proofs.YthgpfljhmhkaiacGreatDoor.PFnJrTypedMisses
open Go.RowKit Go.Proofs.YthgpfljhmhkaiacGreatDoorW.PrintWords Go.Proofs.YthgpfljhmhkaiacGreatDoorW.PrintLast Go.Proofs.YthgpfljhmhkaiacGreatDoorW.PrintMore
theorem wrap_1 {n : Nat} (h : n < 2 ^ 38) : IntKind.i64.wrap ((n : Int) + 1) = (n : Int) + 1 ∧ wrap64 ((n : Int) + 1) = (n : Int) + 1 :=
 ⟨by rw [i64_w]; exact Go.IntWalk.wrap64_in _ (by omega), Go.IntWalk.wrap64_in _ (by omega)⟩
theorem wrap_m1 {n : Nat} (h : n < 2 ^ 38) : IntKind.i64.wrap ((n : Int) + 1 - 1) = (n : Int) ∧ wrap64 ((n : Int) + 1 - 1) = (n : Int) ∧ IntKind.i64.wrap (n : Int) = (n : Int) ∧ wrap64 (n : Int) = (n : Int) ∧ IntKind.i64.wrap ((n : Int) - 1) = (n : Int) - 1 ∧ wrap64 ((n : Int) - 1) = (n : Int) - 1 :=
 ⟨by rw [i64_w, Go.IntWalk.wrap64_in _ (by omega)]; omega, by rw [Go.IntWalk.wrap64_in _ (by omega)]; omega, by rw [i64_w]; exact Go.IntWalk.wrap64_in _ (by omega), Go.IntWalk.wrap64_in _ (by omega), by rw [i64_w]; exact Go.IntWalk.wrap64_in _ (by omega), Go.IntWalk.wrap64_in _ (by omega)⟩
theorem wrap_eq {x : Int} (h : -1000 ≤ x ∧ x < 2 ^ 42) : IntKind.i64.wrap x = x ∧ wrap64 x = x :=
 ⟨by rw [i64_w]; exact Go.IntWalk.wrap64_in _ (by omega), Go.IntWalk.wrap64_in _ (by omega)⟩
theorem cut_drop (A1 : Option Addr) (c1 : Nat) (data : List Int) (i : Nat) (x : Int) (hx : x = (i : Int)) (hi : i ≤ data.length) (hc1 : data.length ≤ c1) :
  ∃ A2 : Option Addr, (∀ W : World, (Instr.slice 44 (.slice A1 data.length c1) (some (.int .i64 x)) none none).run Tryz.prog W = .ok (.slice A2 (data.drop i).length (c1 - i)) W) ∧
   (∀ W : World, Kd.C (Kd.int .u8) W A1 data.length data → Kd.C (Kd.int .u8) W A2 (data.drop i).length (data.drop i)) ∧ (data.drop i).length ≤ c1 - i := by
 obtain ⟨i1, hi1, _, hsz1, _⟩ := info_parts info5
 subst hx
 obtain ⟨A2, hcut2, hA2, hC2⟩ := print_drop_of (P := Tryz.prog) (Value.int .u8) 0 44 5 .i64 Tryz.underlying44 hi1 hsz1 A1 c1 data (i : Int) (by omega) (by omega) hc1
 simp only [Int.toNat_natCast] at hcut2 hA2 hC2
 exact ⟨A2, hcut2, fun W h => Kd.C_of_reads (h1 := fun _ => rfl) (hA2 W (Kd.reads_of_C h)), hC2⟩
theorem cut_mid (A1 : Option Addr) (c1 : Nat) (data : List Int) (i j : Nat) (x y : Int) (hx : x = (i : Int)) (hy : y = (j : Int)) (hij : i ≤ j) (hj : j ≤ data.length) (hc1 : data.length ≤ c1) :
  ∃ A2 : Option Addr, (∀ W : World, (Instr.slice 44 (.slice A1 data.length c1) (some (.int .i64 x)) (some (.int .i64 y)) none).run Tryz.prog W = .ok (.slice A2 ((data.take j).drop i).length (c1 - i)) W) ∧
   (∀ W : World, Kd.C (Kd.int .u8) W A1 data.length data → Kd.C (Kd.int .u8) W A2 ((data.take j).drop i).length ((data.take j).drop i)) ∧ ((data.take j).drop i).length ≤ c1 - i := by
 obtain ⟨i1, hi1, _, hsz1, _⟩ := info_parts info5
 subst hx
 subst hy
 obtain ⟨A2, hcut2, hA2, hC2⟩ := print_mid_of (P := Tryz.prog) (Value.int .u8) 0 44 5 .i64 .i64 Tryz.underlying44 hi1 hsz1 A1 c1 data (i : Int) (j : Int) (by omega) (by omega) (by omega) hc1
 simp only [Int.toNat_natCast] at hcut2 hA2 hC2
 exact ⟨A2, hcut2, fun W h => Kd.C_of_reads (h1 := fun _ => rfl) (hA2 W (Kd.reads_of_C h)), hC2⟩
def Bts (l : List Int) : Prop := ∀ c ∈ l, 0 ≤ c ∧ c ≤ 255
theorem byte92 {c : Int} (h : 0 ≤ c ∧ c ≤ 255) : (UInt8.ofNat c.toNat == (92 : Int).toNat.toUInt8) = decide (c = 92) := by
 have e : (92 : Int).toNat.toUInt8 = UInt8.ofNat 92 := rfl
 rw [Bool.eq_iff_iff, beq_iff_eq, decide_eq_true_iff, e]
 constructor
 ·intro h1
  have h2 := congrArg UInt8.toNat h1
  simp only [UInt8.toNat_ofNat'] at h2
  omega
 ·intro h1; rw [h1]; rfl
theorem ib_hit (rest : List Int) : ∀ (pre : List Int), Bts (pre ++ 92 :: rest) → 92 ∉ pre → Lib.indexByte (Lib.bytesOf (pre ++ 92 :: rest)) (92 : Int).toNat.toUInt8 = (pre.length : Int)
 | [], hb, _ => by
  have h := byte92 (c := 92) (by omega)
  simp only [List.nil_append, Lib.bytesOf, List.map_cons, Lib.indexByte, h]
  rfl
 | c :: pre, hb, hn => by
  have h := byte92 (hb c (by simp))
  have hc : c ≠ 92 := fun e => hn (by simp [e])
  have ih := ib_hit rest pre (fun x hx => hb x (by simp only [List.cons_append, List.mem_cons]; exact .inr hx)) (fun hx => hn (List.mem_cons_of_mem _ hx))
  unfold Lib.bytesOf at ih
  simp only [List.cons_append, Lib.bytesOf, List.map_cons, Lib.indexByte, h, decide_eq_true_eq, hc, if_false, ih]
  rw [if_neg (by simp), List.length_cons]
  rfl
theorem ib_none : ∀ (l : List Int), Bts l → 92 ∉ l → Lib.indexByte (Lib.bytesOf l) (92 : Int).toNat.toUInt8 = -1
 | [], _, _ => rfl
 | c :: l, hb, hn => by
  have h := byte92 (hb c (by simp))
  have hc : c ≠ 92 := fun e => hn (by simp [e])
  have ih := ib_none l (fun x hx => hb x (List.mem_cons_of_mem _ hx)) (fun hx => hn (List.mem_cons_of_mem _ hx))
  unfold Lib.bytesOf at ih
  simp only [Lib.bytesOf, List.map_cons, Lib.indexByte, h, decide_eq_true_eq, hc, if_false, ih]
  rfl
theorem ibf_hit (pre rest : List Int) (hb : Bts (pre ++ 92 :: rest)) (hn : 92 ∉ pre) : bytes_IndexByte.f (pre ++ 92 :: rest) 92 = some (pre.length : Int) := by
 unfold bytes_IndexByte.f; rw [ib_hit rest pre hb hn]
theorem ibf_none (l : List Int) (hb : Bts l) (hn : 92 ∉ l) : bytes_IndexByte.f l 92 = some (-1) := by
 unfold bytes_IndexByte.f; rw [ib_none l hb hn]
/-- copy into a row of the call's own: that row alone has turned. -/
theorem wp_copy_far {P : Program} {w : World} {ops : Array Oper} {rest : List Oper} {o : Oper} {a : Act} {Q : Exit → Act → World → Prop} (hgd : o.guard = none) (d s : Operand) (dT sT : TypeId)
  (ho : o.op = .call { callee := .builtin .copy, args := #[d, s], argTypes := #[dT, sT] }) (elem : TypeId) (hu : P.underlying dT = some (.slice elem)) (hsz : (P.info? elem).map (·.size) = some 1)
  (dp sp : Option Addr) (dLen dCap sLen sCap : Nat) (hd : a.eval d = .slice dp dLen dCap) (hs : a.eval s = .slice sp sLen sCap)
  (g off : Nat) (cur : Array Value) (t : TypeId) (hg : w.heap[g]? = some (.cells cur t (0, 0))) (xs : List Int) (hn : xs.length = Nat.min sLen dLen)
  (hpos : 0 < xs.length → dp = some ⟨g, off, none⟩ ∧ ∃ ad, sp = some ad ∧ ∀ j, j < xs.length → w.cell? (ad.add j) = some (.int .u8 (xs.getD j 0)))
  (hfit : off + xs.length ≤ cur.size)
  (h : ∀ w' arr', w'.heap[g]? = some (.cells arr' t (0, 0)) → arr'.size = cur.size → (∀ i, i < off → arr'[i]? = cur[i]?) → (∀ j, j < xs.length → arr'[off + j]? = some (.int .u8 (xs.getD j 0))) → Kept w w' (fun k => k = g) → Env w w' → wpList P ops Q rest (a.put o.dst (goInt xs.length)) w') :
  wpList P ops Q (o :: rest) a w := by
 by_cases h0 : xs.length = 0
 ·have hx : xs = [] := List.eq_nil_of_length_eq_zero h0
  subst hx
  refine wpList_copy_nothing hgd d s dT sT ho elem hu hsz dp sp dLen dCap sLen sCap hd hs (by simpa using hn.symm) ?_
  exact h w cur hg rfl (fun _ _ => rfl) (fun j hj => by simp at hj) (Kept.refl _ _) ⟨rfl, rfl, rfl⟩
 ·obtain ⟨rfl, ad, rfl, hsrc⟩ := hpos (by omega)
  have hl : (xs.map fun x => Value.int .u8 x).length = xs.length := by simp
  refine wpList_copy_own hgd d s dT sT ho elem hu hsz g off dLen dCap ad sLen sCap hd hs cur t hg (xs.map fun x => Value.int .u8 x) (by rw [hl]; exact hn) (fun j v hj => ?_) (by rw [hl]; exact hfit) (fun v hv => ?_) ?_
  ·rw [List.getElem?_map, Option.map_eq_some_iff] at hj
   obtain ⟨x, hx, rfl⟩ := hj
   have hlt := (List.getElem?_eq_some_iff.mp hx).1
   rw [hsrc j hlt, List.getD_eq_getElem?_getD, hx]; rfl
  ·obtain ⟨x, _, rfl⟩ := List.mem_map.mp hv
   rfl
  ·rw [hl]
   refine h _ _ (setRow_heap w g _ _ t _ hg) ?_ (fun i hi => ?_) (fun j hj => ?_) ⟨?_, fun k hk hne => setRow_other w g k _ hne⟩ ⟨rfl, rfl, rfl⟩
   ·simp; omega
   ·simp only [List.getElem?_toArray]
    rw [List.getElem?_append_left (by simp; omega), List.getElem?_take_of_lt hi, Array.getElem?_toList]
   ·simp only [List.getElem?_toArray]
    rw [List.getElem?_append_right (by simp; omega), List.getElem?_append_left (by simp; omega)]
    simp [show min off cur.size = off by omega, List.getElem?_map, List.getD_eq_getElem?_getD, List.getElem?_eq_getElem hj]
   ·simp [World.setRow]
theorem cut_buf (X o bl bc k : Nat) (x : Int) (hx : x = (k : Int)) (h1 : k ≤ bl) (h2 : bl ≤ bc) (h3 : k < bc) (W : World) :
  (Instr.slice 44 (.slice (some ⟨X, o, none⟩) bl bc) (some (.int .i64 x)) none none).run Tryz.prog W = .ok (.slice (some ⟨X, o + k, none⟩) (bl - k) (bc - k)) W := by
 subst hx
 obtain ⟨i1, hi1, _, hsz1, _⟩ := info_parts info5
 have hel : Tryz.prog.elem 44 = 5 := by simp [Program.elem, Tryz.underlying44]
 rw [run_slice_l W 44 _ bl bc (by rw [hel]; exact Tryz.underlying44) .i64 (k : Int) (by omega) (by omega), hel]
 simp only [sizeOf, typeInfo]
 simp [hi1, hsz1, sliced, Result.andThen, show bc ≠ k by omega, Addr.add]
 try (by_cases hk : k = 0 <;> simp [hk])
theorem cut_end (X o bl bc k : Nat) (x : Int) (hx : x = (k : Int)) (h1 : k ≤ bl) (h2 : bl ≤ bc) : ∃ A : Option Addr, ∀ W : World,
  (Instr.slice 44 (.slice (some ⟨X, o, none⟩) bl bc) (some (.int .i64 x)) none none).run Tryz.prog W = .ok (.slice A (bl - k) (bc - k)) W := by
 subst hx
 obtain ⟨i1, hi1, _, hsz1, _⟩ := info_parts info5
 have hel : Tryz.prog.elem 44 = 5 := by simp [Program.elem, Tryz.underlying44]
 refine ⟨if bc = k then some ⟨X, o, none⟩ else (some (⟨X, o, none⟩ : Addr)).map (·.add k), fun W => ?_⟩
 rw [run_slice_l W 44 _ bl bc (by rw [hel]; exact Tryz.underlying44) .i64 (k : Int) (by omega) (by omega), hel]
 simp only [sizeOf, typeInfo]
 simp [hi1, hsz1, sliced, Result.andThen]
theorem cut_take (A : Option Addr) (bl bc k : Nat) (x : Int) (hx : x = (k : Int)) (h1 : k ≤ bc) (W : World) :
  (Instr.slice 44 (.slice A bl bc) none (some (.int .i64 x)) none).run Tryz.prog W = .ok (.slice A k bc) W := by
 subst hx
 obtain ⟨i1, hi1, _, hsz1, _⟩ := info_parts info5
 have hel : Tryz.prog.elem 44 = 5 := by simp [Program.elem, Tryz.underlying44]
 have ha : (A.map fun x => x.add 0) = A := by cases A <;> simp [Addr.add]
 rw [run_slice_h W 44 A bl bc (by rw [hel]; exact Tryz.underlying44) .i64 (k : Int) (by omega) (by omega), hel]
 simp only [sizeOf, typeInfo]
 simp [hi1, hsz1, sliced, Result.andThen, ha]
/-- Cells of a block read as bytes. -/
theorem C_block {W : World} {X : Nat} {arr : Array Value} {t : TypeId} (h : W.heap[X]? = some (.cells arr t (0, 0))) (u : List Int) (hu : ∀ j, j < u.length → arr[j]? = some (.int .u8 (u.getD j 0))) (hl : u.length ≤ 9223372036854775807) : Kd.C (Kd.int .u8) W (some ⟨X, 0, none⟩) u.length u := by
 refine Kd.C_of_reads (h1 := fun _ => rfl) (d := (0 : Int)) ⟨rfl, hl, fun _ => ⟨_, rfl, fun j hj => ?_⟩⟩
 rw [show (⟨X, 0, none⟩ : Addr).add j = ⟨X, j, none⟩ by unfold Addr.add; split <;> simp_all, blk_cell h, hu j hj]
/-- The memory of an Unescape under way. -/
structure UI (w W : World) (B X : Nat) (ts : Nat × TypeId × TypeId) (n : Nat) (acc : List Int) : Prop where
 cfg : W.heap[w.heap.size]? = some (.cells #[.bool false, .bool false, .int .i64 0] 85 (0, 0))
 blk : ∃ arr, W.heap[X]? = some (.cells arr ts.2.1 (0, 0)) ∧ n ≤ arr.size ∧ ∀ j, j < acc.length → arr[j]? = some (.int .u8 (acc.getD j 0))
 own : X = B ∨ w.heap.size < X
 x15 : X ≠ 15
 keep : Kept w W (fun k => k = B)
 buf : ∃ arr, W.heap[B]? = some (.cells arr ts.2.2 (0, 0)) ∧ arr.size = 64
 env : Env w W
theorem cut_zero (B n : Nat) (hn : n ≤ 64) (W : World) : (Instr.slice 44 (.slice (some ⟨B, 0, none⟩) 64 64) (some (.int .i64 0)) (some (.int .i64 (n : Int))) none).run Tryz.prog W = .ok (.slice (some ⟨B, 0, none⟩) n 64) W := by
 obtain ⟨i1, hi1, _, hsz1, _⟩ := info_parts info5
 have hel : Tryz.prog.elem 44 = 5 := by simp [Program.elem, Tryz.underlying44]
 rw [run_slice_lh W 44 _ 64 64 (by rw [hel]; exact Tryz.underlying44) .i64 .i64 0 (n : Int) (by omega) (by omega) (by omega), hel]
 simp only [sizeOf, typeInfo]
 simp [hi1, hsz1, sliced, Result.andThen, Addr.add]
/-- The memory at the start: the box of the configuration, nothing written yet. -/
theorem ui_room {w w2 : World} {B : Nat} {arr : Array Value} {t : TypeId} (hB : w.heap[B]? = some (.cells arr t (0, 0)) ∧ arr.size = 64) (hB15 : B ≠ 15) (hbel : Below (w.alloc (Obj.cells #[.bool false, .bool false, .int .i64 0] 85)).heap.size (w.alloc (Obj.cells #[.bool false, .bool false, .int .i64 0] 85)) w2) (n : Nat) (hn : n ≤ 64) : UI w w2 B B (0, t, t) n [] := by
 have hb2 := blk_below (blk_alloc hB.1 (Obj.cells #[.bool false, .bool false, .int .i64 0] 85)) hbel
 exact ⟨blk_below (blk_new w _) hbel, ⟨arr, hb2, by rw [hB.2]; exact hn, fun j hj => by simp at hj⟩, .inl rfl, hB15, ((Kept.refl w _).alloc _).below hbel, ⟨arr, hb2, hB.2⟩, Env.then_ (b := w.alloc (Obj.cells #[.bool false, .bool false, .int .i64 0] 85)) ⟨rfl, rfl, rfl⟩ (Env.of_below hbel)⟩
theorem ui_make {w w2 w3 : World} {B : Nat} {arr : Array Value} {t : TypeId} (hB : w.heap[B]? = some (.cells arr t (0, 0)) ∧ arr.size = 64) (hT : TabW w) (hbel : Below (w.alloc (Obj.cells #[.bool false, .bool false, .int .i64 0] 85)).heap.size (w.alloc (Obj.cells #[.bool false, .bool false, .int .i64 0] 85)) w2)
  (n : Nat) (xs : List Value) (hown : w3.ownsRow w2.heap.size 5 1 (.slice (some ⟨w2.heap.size, 0, none⟩) n n) n xs) (hgrow : w2.grownBy w3 none) : UI w w3 B w2.heap.size (0, 5, t) n [] := by
 have hb2 := blk_below (blk_alloc hB.1 (Obj.cells #[.bool false, .bool false, .int .i64 0] 85)) hbel
 have hc2 := blk_below (blk_new w (Obj.cells #[.bool false, .bool false, .int .i64 0] 85)) hbel
 have h15 : 15 < w.heap.size := World.block_lt_of_cell? w _ hT.1
 have hs := hbel.size
 rw [World.size_alloc] at hs
 have hk : Kept w w3 (fun k => k = B) := Kept.of_grown hgrow (((Kept.refl w _).alloc _).below hbel) (fun k h => by cases h)
 refine ⟨blk_grown hc2 hgrow (by simp), ?_, .inr (by omega), by omega, hk, ⟨arr, blk_grown hb2 hgrow (by simp), hB.2⟩, (Env.then_ (b := w.alloc (Obj.cells #[.bool false, .bool false, .int .i64 0] 85)) ⟨rfl, rfl, rfl⟩ (Env.of_below hbel)).then_ ⟨hgrow.os, hgrow.tape, hgrow.output⟩⟩
 obtain ⟨h1, h2 | ⟨g, cap, cur, he, hb, hh, hc, _, hsz, _⟩⟩ := hown
 ·cases h2.1
 ·injection he with he1 he2 he3
  injection he1 with he1
  injection he1 with he1
  subst he1
  exact ⟨cur, hh, by omega, fun j hj => by simp at hj⟩
theorem getD_app_left {l r : List Int} {j : Nat} (h : j < l.length) : (l ++ r).getD j 0 = l.getD j 0 := by
 rw [List.getD_eq_getElem?_getD, List.getElem?_append_left h, List.getD_eq_getElem?_getD]
theorem getD_app_right {l r : List Int} {j : Nat} (h : l.length ≤ j) : (l ++ r).getD j 0 = r.getD (j - l.length) 0 := by
 rw [List.getD_eq_getElem?_getD, List.getElem?_append_right h, List.getD_eq_getElem?_getD]
/-- Bytes written behind those that stand there already. -/
theorem ui_put {w W W2 : World} {B X n : Nat} {ts : Nat × TypeId × TypeId} {acc bs : List Int} (h : UI w W B X ts n acc) {arr arr' : Array Value} (hg : W.heap[X]? = some (.cells arr ts.2.1 (0, 0))) (hg' : W2.heap[X]? = some (.cells arr' ts.2.1 (0, 0))) (hs : arr'.size = arr.size)
  (h1 : ∀ i, i < acc.length → arr'[i]? = arr[i]?) (h2 : ∀ j, j < bs.length → arr'[acc.length + j]? = some (.int .u8 (bs.getD j 0))) (hk : Kept W W2 (fun k => k = X)) (he : Env W W2) (hNB : w.heap.size ≠ X) (hlB : B < w.heap.size) : UI w W2 B X ts n (acc ++ bs) := by
 obtain ⟨a0, hg0, hn, hacc⟩ := h.blk
 rw [hg] at hg0
 injection hg0 with hg0
 injection hg0 with ha ht
 subst ha
 refine ⟨blk_kept h.cfg hk hNB, ⟨arr', hg', by omega, fun j hj => ?_⟩, h.own, h.x15, h.keep.then_ hk (fun k hk => ?_), ?_, h.env.then_ he⟩
 ·rcases Nat.lt_or_ge j acc.length with hl | hl
  ·rw [h1 j hl, hacc j hl, getD_app_left hl]
  ·rw [List.length_append] at hj
   have := h2 (j - acc.length) (by omega)
   rw [show acc.length + (j - acc.length) = j by omega] at this
   rw [this, getD_app_right hl]
 ·subst hk
  rcases h.own with h | h
  ·exact .inl h
  ·exact .inr (by omega)
 ·by_cases hX : X = B
  ·subst hX
   obtain ⟨a2, h3, h4⟩ := h.buf
   rw [hg] at h3
   injection h3 with h3
   injection h3 with ha2 ht2
   subst ha2
   exact ⟨arr', by rw [hg', ht2], by omega⟩
  ·obtain ⟨a2, h3, h4⟩ := h.buf
   exact ⟨a2, blk_kept h3 hk (fun e => hX e.symm), h4⟩
theorem ui_below {w W W2 : World} {B X n : Nat} {ts : Nat × TypeId × TypeId} {acc : List Int} (h : UI w W B X ts n acc) (hb : Below W.heap.size W W2) : UI w W2 B X ts n acc :=
 ⟨blk_below h.cfg hb, by obtain ⟨a, h1, h2⟩ := h.blk; exact ⟨a, blk_below h1 hb, h2⟩, h.own, h.x15, h.keep.below hb, by obtain ⟨a, h1, h2⟩ := h.buf; exact ⟨a, blk_below h1 hb, h2⟩, h.env.then_ (Env.of_below hb)⟩
theorem ui_cells {w W : World} {B X n : Nat} {ts : Nat × TypeId × TypeId} {acc : List Int} (h : UI w W B X ts n acc) : W.cell? ⟨w.heap.size, 0, none⟩ = some (.bool false) ∧ W.cell? ⟨w.heap.size, 1, none⟩ = some (.bool false) ∧ W.cell? ⟨w.heap.size, 2, none⟩ = some (.int .i64 0) :=
 ⟨(blk_cell h.cfg 0).trans rfl, (blk_cell h.cfg 1).trans rfl, (blk_cell h.cfg 2).trans rfl⟩
theorem tab_kept {w W : World} {B : Nat} (hT : TabW w) (hk : Kept w W (fun k => k = B)) (hB15 : B ≠ 15) : TabW W := by
 obtain ⟨t34, t92, t47, t98, t102, t110, t114, t116⟩ := hT
 have hn : ¬ (fun k => k = B) 15 := fun e => hB15 e.symm
 exact ⟨cell_kept t34 hk hn, cell_kept t92 hk hn, cell_kept t47 hk hn, cell_kept t98 hk hn, cell_kept t102 hk hn, cell_kept t110 hk hn, cell_kept t114 hk hn, cell_kept t116 hk hn⟩
/-- Where an Unescape stands: what is still to be read, what has been written. -/
structure UP (s tot inn acc uu : List Int) (kq bl bc c2 : Nat) : Prop where
 ul : UL kq inn uu
 tot : acc ++ uu = tot
 l1 : inn.length ≤ bl
 l2 : bl ≤ bc
 l3 : acc.length + bl = s.length
 l4 : inn.length ≤ c2
 byt : Bts inn
theorem src_cells {W : World} {A : Option Addr} {l : List Int} (hr : Kd.C (Kd.int .u8) W A l.length l) (xs r : List Int) (hx : l = xs ++ r) (h0 : 0 < xs.length) : ∃ ad, A = some ad ∧ ∀ j, j < xs.length → W.cell? (ad.add j) = some (.int .u8 (xs.getD j 0)) := by
 subst hx
 obtain ⟨ad, e, _⟩ := Kd.at_int hr 0 (by omega) (by rw [List.length_append]; omega)
 refine ⟨ad, e, fun j hj => ?_⟩
 obtain ⟨ad', e', h⟩ := Kd.at_int hr (j : Int) (by omega) (by rw [List.length_append]; omega)
 rw [e] at e'
 cases e'
 rw [Int.toNat_natCast] at h
 rw [h]
 unfold rd
 rw [Int.toNat_natCast, getD_app_left hj]
set_option maxHeartbeats 8000000 in
set_option maxRecDepth 100000 in
theorem unesc_esc (m : Nat) (pre rest u' : List Int) (A1 : Option Addr) (c1 B : Nat) (arr : Array Value) (t : TypeId) (w : World) (hpre : 92 ∉ pre) (hul : UL m (92 :: rest) u') (hb : Bts (pre ++ 92 :: rest)) (hs : (pre ++ 92 :: rest).length < 2 ^ 38) (hc1 : (pre ++ 92 :: rest).length ≤ c1)
  (hread : ∀ W', Kept w W' (fun k => k = B) → Kd.C (Kd.int .u8) W' A1 (pre ++ 92 :: rest).length (pre ++ 92 :: rest)) (hB : w.heap[B]? = some (.cells arr t (0, 0))) (harr : arr.size = 64) (hB15 : B ≠ 15) (hT : TabW w) :
  Calls Tryz.prog 63 #[.agg #[.bool false, .bool false, .int .i64 0], .slice A1 (pre ++ 92 :: rest).length c1, .slice (some ⟨B, 0, none⟩) 64 64] w fun e w' =>
   (∃ A' c' X, e = .returned (.tuple #[.slice A' (pre ++ u').length c', .nilIface]) ∧ (pre ++ u').length ≤ c' ∧ (X = B ∨ w.heap.size < X) ∧ ∀ W' : World, W'.heap[X]? = w'.heap[X]? → Kd.C (Kd.int .u8) W' A' (pre ++ u').length (pre ++ u')) ∧ Kept w w' (fun k => k = B) ∧ Env w w' ∧ ∃ arr', w'.heap[B]? = some (.cells arr' t (0, 0)) ∧ arr'.size = 64 := by
 have hu85 := Tryz.underlying85
 have hu44 := Tryz.underlying44
 have hfb := ibf_hit pre rest hb hpre
 have HFB := sd hfb
 have HR := sd hread
 have HBk := sd (And.intro hB harr)
 have HC1 := sd hc1
 have t1 : ((pre.length : Int) == -1) = false := beq_eq_false_iff_ne.mpr (by omega)
 generalize hss : pre ++ 92 :: rest = s at *
 have HSS := sd hss
 have HLs := sd hs
 clear hfb hread hB harr hc1 hss hs
 go_enter Tryz.func63, Tryz.ntmps63
 go_upto_if 22 with (go_at_call 41; (with_reducible refine (bytes_IndexByte.calls A1 c1 s 92 (pre.length : Int) _ ?side1 ?side2 HFB.out).mono ?_); (case side1 => exact HR.out _ ((Kept.refl w _).alloc _)); (case side2 => exact HC1.out); rintro e0 w2 ⟨rfl, hbel⟩; have HBL := sd hbel; clear hbel)
 go_cut [2] (fun v2 wc => ∃ (X cap : Nat) (tx : TypeId), v2 = .slice (some ⟨X, 0, none⟩) s.length cap ∧ Aside0 (s.length ≤ cap) ∧ Aside0 (UI w wc B X (0, tx, t) s.length []))
 case first =>
  by_cases h64 : 64 < s.length
  ·have d1 : decide ((64 : Int) < (s.length : Int)) = true := decide_eq_true (by omega)
   have d1' : decide (64 < s.length) = true := decide_eq_true h64
   obtain ⟨i5, hi, hz0, hz1, hz2⟩ := info_parts info5
   have HZ := sd hz2
   clear hz2
   go_wp2_with (first | (at_make; (with_reducible refine wpList_make_full _ rfl (.tmp 24) (.tmp 24) 44 rfl w2.heap.size 5 i5 (.int .u8 0) 1 Tryz.underlying44 hi hz0 hz1 .i64 .i64 _ _ s.length rfl rfl rfl rfl ?b2 ?b3 (Nat.le_refl _) ?_); (case b2 => rw [HZ.out]; have := HLs.out; omega); (case b3 => have := HLs.out; unfold maxLen; omega); intro w3 hown hgrow; have HO := sd hown; have HG := sd hgrow; clear hown hgrow))
   go_meet
   case rel => exact ⟨_, _, 5, rfl, ⟨Nat.le_refl _⟩, ⟨ui_make HBk.out hT HBL.out _ _ HO.out HG.out⟩⟩
  ·have d1 : decide ((64 : Int) < (s.length : Int)) = false := decide_eq_false (by omega)
   have d1' : decide (64 < s.length) = false := decide_eq_false h64
   have hz := cut_zero B s.length (by omega)
   go_wp2
   go_meet
   case rel => exact ⟨_, _, t, rfl, ⟨by omega⟩, ⟨ui_room HBk.out hB15 HBL.out _ (by omega)⟩⟩
 case rest =>
  obtain ⟨X, cap, tx, rfl, HCAP, HU⟩ := hcut
  obtain ⟨arrX, hgX, hnX, _⟩ := HU.out.blk
  have hNX : w.heap.size ≠ X := by
   have := blk_lt HBk.out.1
   rcases HU.out.own with h | h <;> omega
  have HNX := sd hNX
  have hlB := sd (blk_lt HBk.out.1)
  have hsl : s.length = pre.length + (rest.length + 1) := by rw [← HSS.out]; simp
  have ht := cut_take A1 s.length c1 pre.length (pre.length : Int) rfl (by have := HC1.out; omega)
  obtain ⟨A2, hcut2, hA2, hC2⟩ := cut_drop A1 c1 s pre.length (pre.length : Int) rfl (by omega) HC1.out
  have hdrop : s.drop pre.length = 92 :: rest := by rw [← HSS.out]; simp
  rw [hdrop] at hcut2 hA2 hC2
  have hbuf := cut_buf X 0 s.length cap pre.length (pre.length : Int) rfl (by omega) HCAP.out (by have := HCAP.out; omega)
  simp only [Nat.zero_add] at hbuf
  have HA2 := sd (fun W' (hk : Kept w W' (fun k => k = B)) => hA2 W' (HR.out W' hk))
  have HP := sd (⟨hul, rfl, by rw [List.length_cons]; omega, by have := HCAP.out; omega, by omega, hC2, fun c hc => hb c (by rw [← HSS.out]; exact List.mem_append_right _ hc)⟩ : UP s (pre ++ u') (92 :: rest) pre u' m (s.length - pre.length) (cap - pre.length) (c1 - pre.length))
  have HMIN := sd (show pre.length = Nat.min pre.length s.length from (Nat.min_eq_left (by omega)).symm)
  have HFIT := sd (show 0 + pre.length ≤ arrX.size by omega)
  have HGX := sd hgX
  have hsz5 : (Tryz.prog.info? 5).map (·.size) = some 1 := by obtain ⟨i5, hi, _, hz1, _⟩ := info_parts info5; rw [hi, Option.map_some, hz1]
  clear hul hsl hA2 hC2 hdrop hgX hnX hNX
  go_wp2_with (first | ((with_reducible refine wp_copy_far rfl (.tmp 30) (.tmp 33) 44 44 rfl 5 Tryz.underlying44 hsz5 _ _ _ _ _ _ rfl rfl X 0 arrX tx HGX.out pre HMIN.out (fun h => ⟨rfl, src_cells (HR.out _ HU.out.keep) pre (92 :: rest) HSS.out.symm h⟩) HFIT.out ?_); intro w3 arr3 g1 g2 g3 g4 g5 g6; have HU3 := sd (ui_put HU.out HGX.out g1 g2 g3 (fun j hj => g4 j hj) g5 g6 HNX.out hlB.out); clear g1 g2 g3 g4 g5 g6))
  have HU0 : Aside0 (UI w w3 B X (0, tx, t) s.length pre) := HU3
  clear HU3 HU HGX HMIN HFIT ht hcut2 hbuf t1
  go_loopg [1, 9] m (fun kq v1 v9 w' => ∃ (inn : List Int) (A : Option Addr) (c2 : Nat) (acc uu : List Int) (bl bc : Nat), v1 = .slice A inn.length c2 ∧ v9 = .slice (some ⟨X, acc.length, none⟩) bl bc ∧ Aside0 (UP s (pre ++ u') inn acc uu kq bl bc c2) ∧ Aside0 (∀ W', Kept w W' (fun k => k = B) → Kd.C (Kd.int .u8) W' A inn.length inn) ∧ Aside0 (UI w w' B X (0, tx, t) s.length acc))
  case atStart => exact ⟨92 :: rest, _, _, pre, u', _, _, rfl, rfl, HP, HA2, HU0⟩
  case round =>
   clear HP HA2 HU0
   obtain ⟨inn, A, c2, acc, uu, bl, bc, rfl, rfl, HP, HA, HU⟩ := hrel
   obtain ⟨arrW, hgW, hnW, _⟩ := HU.out.blk
   have HGW := sd hgW
   have hp := HP.out
   have hul := hp.ul
   cases hul with
   | last _ k _ n bs hesc hn hn1 hbs hno =>
    have HE := sd hesc
    have HT := sd (tab_kept hT HU.out.keep hB15)
    have hbyt : Bts (inn.drop n) := fun c hc => hp.byt c (List.mem_of_mem_drop hc)
    obtain ⟨A3, hcut3, hA3, hC3⟩ := cut_drop A c2 inn n (n : Int) rfl hn hp.l4
    have hdl : (inn.drop n).length = inn.length - n := List.length_drop
    have hl1 := hp.l1
    have hl2 := hp.l2
    have hl3 := hp.l3
    have htot := hp.tot
    have hb1 := cut_buf X acc.length bl bc bs.length (bs.length : Int) rfl (by omega) hl2 (by omega)
    obtain ⟨A5, hb2⟩ := cut_end X (acc.length + bs.length) (bl - bs.length) (bc - bs.length) (inn.drop n).length ((inn.drop n).length : Int) rfl (by omega) (by omega)
    have HIB := sd (ibf_none (inn.drop n) hbyt hno)
    have HA3 := sd (fun W' (hk : Kept w W' (fun k => k = B)) => hA3 W' (HA.out W' hk))
    have HC3 := sd hC3
    have HMIN := sd (show (inn.drop n).length = Nat.min (inn.drop n).length (bl - bs.length) from (Nat.min_eq_left (by omega)).symm)
    have HROOM := sd (show bs.length ≤ bl ∧ acc.length + bl ≤ arrW.size by omega)
    have HFIT := sd (show (acc ++ bs).length + (inn.drop n).length ≤ s.length by rw [List.length_append]; omega)
    have hlen : (pre ++ u').length = acc.length + bs.length + (inn.drop n).length := by rw [← htot]; simp only [List.length_append]; omega
    have ht5 := cut_take (some ⟨X, 0, none⟩) s.length cap (pre ++ u').length ((pre ++ u').length : Int) rfl (by have := HCAP.out; omega)
    have hwx : (s.length : Int) - ((bl - bs.length - (inn.drop n).length : Nat) : Int) = ((pre ++ u').length : Int) := by omega
    have ⟨hw1, hw2⟩ := wrap_eq (x := ((pre ++ u').length : Int)) (by have := HLs.out; have := HCAP.out; omega)
    have hw3 : IntKind.i64.wrap ((s.length : Int) - ((bl - bs.length - (inn.drop n).length : Nat) : Int)) = ((pre ++ u').length : Int) := by rw [hwx]; exact hw1
    have hw4 : wrap64 ((s.length : Int) - ((bl - bs.length - (inn.drop n).length : Nat) : Int)) = ((pre ++ u').length : Int) := by rw [hwx]; exact hw2
    have HTOT := sd (show (acc ++ bs) ++ inn.drop n = pre ++ u' by rw [← htot]; simp)
    have HLE := sd (show (pre ++ u').length ≤ s.length by omega)
    have t2 : ((n : Int) == -1) = false := beq_eq_false_iff_ne.mpr (by omega)
    have ⟨hc0, hc1, hc2⟩ := ui_cells HU.out
    have HL4 := sd hp.l4
    clear hesc hn hn1 hbs hno hdl hl1 hl2 hl3 hA3 hC3 hbyt hp hgW hnW hwx hw1 hw2 htot
    have HLN := sd hlen
    clear hlen
    generalize hQ : (pre ++ u').length = Q at ht5 hw3 hw4
    have HQ := sd hQ
    clear hQ
    generalize inn.drop n = q at *
    go_wp2_with (first
     | (go_at_call 85; (with_reducible refine (esc_any k (n : Int) bs A c2 inn X tx acc.length bl bc arrW _ ?s1 HL4.out HT.out HU.out.x15 HGW.out HE.out HROOM.out.1 HROOM.out.2).mono ?_); (case s1 => exact HA.out _ HU.out.keep); rintro e0 w4 ⟨rfl, hput⟩; obtain ⟨arr4, g1, g2, g3, g4⟩ := hput.blk; have HU4 := sd (ui_put HU.out HGW.out g1 g2 g3 g4 hput.kept hput.env HNX.out hlB.out); clear hput g1 g2 g3 g4)
     | (go_at_call 41; (with_reducible refine (bytes_IndexByte.calls A3 (c2 - n) q 92 (-1) _ ?s3 HC3.out HIB.out).mono ?_); (case s3 => exact HA3.out _ HU4.out.keep); rintro e0 w5 ⟨rfl, hbel⟩; have HU5 := sd (ui_below HU4.out hbel); obtain ⟨arr5, g1, g2, _⟩ := HU5.out.blk; have HG5 := sd (And.intro g1 g2); clear hbel g1 g2)
     | ((with_reducible refine wp_copy_far rfl (.tmp 61) (.tmp 62) 44 44 rfl 5 Tryz.underlying44 hsz5 _ _ _ _ _ _ rfl rfl X (acc.length + bs.length) arr5 tx HG5.out.1 q HMIN.out (fun h => ⟨rfl, src_cells (HA3.out _ HU5.out.keep) q [] (List.append_nil _).symm h⟩) (Nat.le_trans (List.length_append ▸ HFIT.out) HG5.out.2) ?_); intro w6 arr6 g1 g2 g3 g4 g5 g6; have HU6 := sd (ui_put HU5.out HG5.out.1 g1 g2 (fun i hi => g3 i (List.length_append ▸ hi)) (fun j hj => List.length_append ▸ g4 j hj) g5 g6 HNX.out hlB.out); clear g1 g2 g3 g4 g5 g6))
    go_ret2
    have hU7 := HU6.out
    rw [HTOT.out] at hU7
    obtain ⟨arr7, g1, g2, g3⟩ := hU7.blk
    exact ⟨⟨some ⟨X, 0, none⟩, cap, X, by rw [HQ.out]; rfl, Nat.le_trans HLE.out HCAP.out, hU7.own, fun W' hW' => C_block (hW'.trans g1) _ g3 (by have := HLs.out; have := HLE.out; omega)⟩, hU7.keep, hU7.env, hU7.buf⟩
   | more m' k _ n bs pre2 rest2 u2 hesc hn hn1 hbs hdr hno hul2 =>
    have HE := sd hesc
    have HT := sd (tab_kept hT HU.out.keep hB15)
    have hbyt : Bts (inn.drop n) := fun c hc => hp.byt c (List.mem_of_mem_drop hc)
    have hdl : (inn.drop n).length = inn.length - n := List.length_drop
    have hdl2 : (inn.drop n).length = pre2.length + (rest2.length + 1) := by rw [hdr]; simp
    obtain ⟨A3, hcut3, hA3, hC3⟩ := cut_drop A c2 inn n (n : Int) rfl hn hp.l4
    obtain ⟨A4, hcut4, hA4, hC4⟩ := cut_drop A3 (c2 - n) (inn.drop n) pre2.length (pre2.length : Int) rfl (by omega) hC3
    have ht4 := cut_take A3 (inn.drop n).length (c2 - n) pre2.length (pre2.length : Int) rfl (by omega)
    have hdr2 : (inn.drop n).drop pre2.length = 92 :: rest2 := by rw [hdr]; simp
    rw [hdr2] at hcut4 hA4 hC4
    have hl1 := hp.l1
    have hl2 := hp.l2
    have hl3 := hp.l3
    have hb1 := cut_buf X acc.length bl bc bs.length (bs.length : Int) rfl (by omega) hl2 (by omega)
    have hb2 := cut_buf X (acc.length + bs.length) (bl - bs.length) (bc - bs.length) pre2.length (pre2.length : Int) rfl (by omega) (by omega) (by omega)
    have HIB := sd (hdr ▸ ibf_hit pre2 rest2 (hdr ▸ hbyt) hno : bytes_IndexByte.f (inn.drop n) 92 = some (pre2.length : Int))
    have HA3 := sd (fun W' (hk : Kept w W' (fun k => k = B)) => hA3 W' (HA.out W' hk))
    have HA4 := sd (fun W' (hk : Kept w W' (fun k => k = B)) => hA4 W' (hA3 W' (HA.out W' hk)))
    have HC3 := sd hC3
    have HMIN := sd (show pre2.length = Nat.min pre2.length (bl - bs.length) from (Nat.min_eq_left (by omega)).symm)
    have HROOM := sd (show bs.length ≤ bl ∧ acc.length + bl ≤ arrW.size by omega)
    have HFIT := sd (show (acc ++ bs).length + pre2.length ≤ s.length by rw [List.length_append]; omega)
    have HDR := sd hdr
    have t2 : ((n : Int) == -1) = false := beq_eq_false_iff_ne.mpr (by omega)
    have t3 : ((pre2.length : Int) == -1) = false := beq_eq_false_iff_ne.mpr (by omega)
    have ⟨hc0, hc1, hc2⟩ := ui_cells HU.out
    have HL4 := sd hp.l4
    have HPN := sd (⟨hul2, by rw [← hp.tot]; simp, by rw [List.length_cons]; omega, by omega, by simp only [List.length_append]; omega, hC4, fun c hc => hbyt c (by rw [hdr]; exact List.mem_append_right _ hc)⟩ : UP s (pre ++ u') (92 :: rest2) (acc ++ bs ++ pre2) u2 m' (bl - bs.length - pre2.length) (bc - bs.length - pre2.length) (c2 - n - pre2.length))
    clear hesc hn hn1 hbs hno hul2 hdr hdr2 hdl hdl2 hl1 hl2 hl3 hA3 hC3 hA4 hC4 hbyt hp hgW hnW
    generalize inn.drop n = q at *
    go_wp2_with (first
     | (go_at_call 85; (with_reducible refine (esc_any k (n : Int) bs A c2 inn X tx acc.length bl bc arrW _ ?s1 HL4.out HT.out HU.out.x15 HGW.out HE.out HROOM.out.1 HROOM.out.2).mono ?_); (case s1 => exact HA.out _ HU.out.keep); rintro e0 w4 ⟨rfl, hput⟩; obtain ⟨arr4, g1, g2, g3, g4⟩ := hput.blk; have HU4 := sd (ui_put HU.out HGW.out g1 g2 g3 g4 hput.kept hput.env HNX.out hlB.out); clear hput g1 g2 g3 g4)
     | (go_at_call 41; (with_reducible refine (bytes_IndexByte.calls A3 (c2 - n) q 92 (pre2.length : Int) _ ?s3 HC3.out HIB.out).mono ?_); (case s3 => exact HA3.out _ HU4.out.keep); rintro e0 w5 ⟨rfl, hbel⟩; have HU5 := sd (ui_below HU4.out hbel); obtain ⟨arr5, g1, g2, _⟩ := HU5.out.blk; have HG5 := sd (And.intro g1 g2); clear hbel g1 g2)
     | ((with_reducible refine wp_copy_far rfl (.tmp 68) (.tmp 71) 44 44 rfl 5 Tryz.underlying44 hsz5 _ _ _ _ _ _ rfl rfl X (acc.length + bs.length) arr5 tx HG5.out.1 pre2 HMIN.out (fun h => ⟨rfl, src_cells (HA3.out _ HU5.out.keep) pre2 (92 :: rest2) HDR.out h⟩) (Nat.le_trans (List.length_append ▸ HFIT.out) HG5.out.2) ?_); intro w6 arr6 g1 g2 g3 g4 g5 g6; have HU6 := sd (ui_put HU5.out HG5.out.1 g1 g2 (fun i hi => g3 i (List.length_append ▸ hi)) (fun j hj => List.length_append ▸ g4 j hj) g5 g6 HNX.out hlB.out); clear g1 g2 g3 g4 g5 g6))
    go_roundg m'
    case measure => omega
    case rel => exact ⟨92 :: rest2, A4, _, acc ++ bs ++ pre2, u2, _, _, rfl, by simp only [List.length_append], HPN, HA4, HU6⟩
/-- Unescape at a text that holds a backslash. -/
theorem unesc_ue (s u : List Int) (A1 : Option Addr) (c1 B : Nat) (arr : Array Value) (t : TypeId) (w : World) (hu : UE s u) (hb : Bts s) (hs : s.length < 2 ^ 38) (hc1 : s.length ≤ c1)
  (hread : ∀ W', Kept w W' (fun k => k = B) → Kd.C (Kd.int .u8) W' A1 s.length s) (hB : w.heap[B]? = some (.cells arr t (0, 0))) (harr : arr.size = 64) (hB15 : B ≠ 15) (hT : TabW w) :
  Calls Tryz.prog 63 #[.agg #[.bool false, .bool false, .int .i64 0], .slice A1 s.length c1, .slice (some ⟨B, 0, none⟩) 64 64] w fun e w' =>
   (∃ A' c' X, e = .returned (.tuple #[.slice A' u.length c', .nilIface]) ∧ u.length ≤ c' ∧ (X = B ∨ w.heap.size < X) ∧ ∀ W' : World, W'.heap[X]? = w'.heap[X]? → Kd.C (Kd.int .u8) W' A' u.length u) ∧ Kept w w' (fun k => k = B) ∧ Env w w' ∧ ∃ arr', w'.heap[B]? = some (.cells arr' t (0, 0)) ∧ arr'.size = 64 := by
 cases hu with
 | esc m pre rest u' hpre hul => exact unesc_esc m pre rest u' A1 c1 B arr t w hpre hul hb hs hc1 hread hB harr hB15 hT
theorem gtAt_of (A1 : Option Addr) (c1 : Nat) (l : List Int) (hc1 : l.length ≤ c1) (hl : l.length < 2 ^ 40) {o e : Nat} {ty : Int} (h : GtP l o e ty) (ho : o < l.length) : GtAt A1 c1 l (o : Int) (e : Int) ty := by
 intro w hr
 cases h with
 | str k se esc h34 hs h1 h2 =>
  have := getType_str k A1 c1 l (o : Int) (se : Int) esc w hr hc1 (by omega) (by omega) hl h34 hs (by omega) (by omega)
  rw [show ((o + (se + 1) : Nat) : Int) = (o : Int) + ((se : Int) + 1) by omega]
  exact this
 | arr k r h91 hs h1 h2 =>
  have := getType_arr k A1 c1 l (o : Int) (r : Int) w hr hc1 (by omega) (by omega) hl h91 hs (by omega) (by omega)
  rw [show ((o + r : Nat) : Int) = (r : Int) + (o : Int) by omega]
  exact this
 | obj k r h91 hs h1 h2 =>
  have := getType_obj k A1 c1 l (o : Int) (r : Int) w hr hc1 (by omega) (by omega) hl h91 hs (by omega) (by omega)
  rw [show ((o + r : Nat) : Int) = (r : Int) + (o : Int) by omega]
  exact this
 | num k r d hd h91 hs h1 h2 =>
  have := getType_num k A1 c1 l (o : Int) (r : Int) w hr hc1 (by omega) (by omega) hl d hd h91 hs (by omega) (by omega)
  rw [show ((o + r : Nat) : Int) = (o : Int) + (r : Int) by omega]
  exact this
 | tru k r h91 hv hs h1 h2 =>
  have := getType_true k A1 c1 l (o : Int) (r : Int) w hr hc1 (by omega) (by omega) hl h91 (by rw [show ((o : Int) + (r : Int)).toNat = o + r by omega]; exact hv) hs (by omega) (by omega)
  rw [show ((o + r : Nat) : Int) = (o : Int) + (r : Int) by omega]
  exact this
 | fal k r h91 hv hs h1 h2 =>
  have := getType_false k A1 c1 l (o : Int) (r : Int) w hr hc1 (by omega) (by omega) hl h91 (by rw [show ((o : Int) + (r : Int)).toNat = o + r by omega]; exact hv) hs (by omega) (by omega)
  rw [show ((o + r : Nat) : Int) = (o : Int) + (r : Int) by omega]
  exact this
 | nul k r h91 hv hs h1 h2 =>
  have := getType_null k A1 c1 l (o : Int) (r : Int) w hr hc1 (by omega) (by omega) hl h91 (by rw [show ((o : Int) + (r : Int)).toNat = o + r by omega]; exact hv) hs (by omega) (by omega)
  rw [show ((o + r : Nat) : Int) = (o : Int) + (r : Int) by omega]
  exact this
/-- What Get returns: a value of len bytes, its kind, where it ends. -/
def GetV (A1 : Option Addr) (l : List Int) (n e : Nat) (ty : Int) (A' : Option Addr) (len : Nat) : Prop :=
 (ty = 1 → len + 2 + n = e) ∧ (ty ≠ 1 → len + n = e ∧ ∀ W : World, Kd.C (Kd.int .u8) W A1 l.length l → Kd.C (Kd.int .u8) W A' len ((l.take e).drop n))
theorem iget (A1 : Option Addr) (c1 : Nat) (l : List Int) (n e : Nat) (ty : Int) (w : World) (hr : Kd.C (Kd.int .u8) w A1 l.length l) (hc1 : l.length ≤ c1) (hl : l.length < 2 ^ 40) (h : GetE l n e ty) :
  Calls Tryz.prog 53 #[.agg #[.bool false, .bool false, .int .i64 0], .slice A1 l.length c1, .slice none 0 0] w fun e' w' => (∃ A' len, e' = .returned (.tuple #[.slice A' len len, .int .i64 ty, .int .i64 n, .int .i64 e, .nilIface]) ∧ GetV A1 l n e ty A' len) ∧ Below w.heap.size w w' := by
 obtain ⟨⟨k, hk⟩, hne, hel, h1, hg⟩ := h
 have hga := gtAt_of A1 c1 l hc1 hl hg (by omega)
 by_cases hty : ty = 1
 ·subst hty
  refine (iget_str k A1 c1 l (n : Int) (e : Int) w hr hc1 hl hk (by omega) (by omega) hga (by have := h1 rfl; omega) (by omega)).mono ?_
  rintro e' w' ⟨⟨A', he, _⟩, hb⟩
  refine ⟨⟨A', _, he, fun _ => ?_, fun h => absurd rfl h⟩, hb⟩
  have := h1 rfl
  simp only [inside, List.length_drop, List.length_take, Int.toNat_natCast]
  omega
 ·refine (iget_plain k A1 c1 l (n : Int) (e : Int) ty w hr hc1 hl hk (by omega) (by omega) hga hty (by omega) (by omega)).mono ?_
  rintro e' w' ⟨⟨A', he, hrd⟩, hb⟩
  simp only [Int.toNat_natCast] at he hrd
  refine ⟨⟨A', _, he, fun h => absurd h hty, fun _ => ⟨?_, hrd⟩⟩, hb⟩
  rw [List.length_drop, List.length_take]
  omega
set_option maxHeartbeats 4000000 in
set_option maxRecDepth 100000 in
theorem get_calls (A1 : Option Addr) (c1 : Nat) (l : List Int) (n e : Nat) (ty : Int) (w : World) (hr : Kd.C (Kd.int .u8) w A1 l.length l) (hc1 : l.length ≤ c1) (hl : l.length < 2 ^ 40) (h : GetE l n e ty) :
  Calls Tryz.prog 61 #[.agg #[.bool false, .bool false, .int .i64 0], .slice A1 l.length c1, .slice none 0 0] w fun e' w' => (∃ A' len, e' = .returned (.tuple #[.slice A' len len, .int .i64 ty, .int .i64 e, .nilIface]) ∧ GetV A1 l n e ty A' len) ∧ Below w.heap.size w w' := by
 have hu85 := Tryz.underlying85
 have HR := sd hr
 have HC := sd hc1
 have HL := sd hl
 have HG := sd h
 clear hr hc1 hl h
 go_enter Tryz.func61, Tryz.ntmps61
 go_wp2_with (first | (go_at_call 53; (with_reducible refine (iget A1 c1 l n e ty _ ?s1 HC.out HL.out HG.out).mono ?_); (case s1 => exact Kd.C_below HR.out (below_alloc (Below.refl _ _) _)); rintro e0 w2 ⟨⟨A', len, rfl, hv⟩, hb⟩; have HV := sd hv; have HB := sd hb; clear hv hb))
 ((try simp only [Exit.inBlock, Exit.then]); refine bodyPost_ret (results_tmp4 rfl _ _ _) rfl ?_)
 exact ⟨⟨A', len, rfl, HV.out⟩, below_step (below_alloc (Below.refl _ _) _) HB.out⟩
end Go.Proofs.YthgpfljhmhkaiacGreatDoor.PFnJrTypedMisses
