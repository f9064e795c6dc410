/- Part of the proof of the card in text ZF. -/
import Derived.Test.YtdacgdjjdifneaaGreatDoorV12
import Derived.Test.YtdacgdjjdifneaaGreatDoorV13
import Derived.Test.YtdacgdjjdifneaaGreatDoorZP
import Derived.Test.YtdacgdjjdifneaaGreatDoorZN
import Derived.Test.YtdacgdjjdifneaaGreatDoorZJ
import Derived.Outline
set_option linter.all false
namespace Go.Proofs.YtdacgdjjdifneaaGreatDoor.PFnGjFlattenOften
open Go.RowKit Go.Proofs.YtdacgdjjdifneaaGreatDoorW.PrintWords Go.Proofs.YtdacgdjjdifneaaGreatDoorW.PrintLast Go.Proofs.YtdacgdjjdifneaaGreatDoorW.PrintMore
theorem lit_l0 (s : ByteArray) (hs : s.size ≤ 65536) (i0 : Nat) (q : List Int) (hq : Hq q) : ∀ (w : List Int) (j k : Nat), (bytesOf s).drop j = w ++ q → (∀ c ∈ w, 97 ≤ c ∧ c ≤ 122) → i0 ≤ j → w.length < k →
  gjson_parseLiteral.l0 k s (j : Int) (i0 : Int) = some (((j + w.length : Nat) : Int), s.extract i0 (j + w.length)) := by
 intro w
 induction w with
 | nil =>
  intro j k hd _ hi hk; obtain ⟨k, rfl⟩ : ∃ m, k = m + 1 := ⟨k - 1, by omega⟩
  obtain ⟨c, r, rfl, hc⟩ := hq; have hd : (bytesOf s).drop j = c :: r := hd; have hlt := sz_lt hd; simp only [gjson_parseLiteral.l0]; rw [if_pos (by omega), if_pos (by omega), bt_drop hd]
  by_cases h : c < 97
  ·rw [if_pos h, if_pos (by omega), if_pos (by omega), if_pos (by omega)]; simp
  ·rw [if_neg h, if_pos (by unfold Blk at hc; omega), if_pos (by omega), if_pos (by omega), if_pos (by omega)]; simp
 | cons c w ih =>
  intro j k hd hw hi hk; obtain ⟨k, rfl⟩ : ∃ m, k = m + 1 := ⟨k - 1, by omega⟩
  have hlt := sz_lt hd; have hc := hw c List.mem_cons_self; simp only [gjson_parseLiteral.l0]; rw [if_pos (by omega), if_pos (by omega), bt_drop hd, if_neg (by omega), if_neg (by omega), w64_1 (by omega), ih (j + 1) k (drop_next hd) (fun x hx => hw x (List.mem_cons_of_mem _ hx)) (by omega) (by simp at hk; omega)]; rw [show j + 1 + w.length = j + (c :: w).length by simp; omega]
def NumS (c : Int) : Prop := 33 ≤ c ∧ c ≠ 44 ∧ c ≠ 93 ∧ c ≠ 125
theorem num_l0 (s : ByteArray) (hs : s.size ≤ 65536) (i0 : Nat) (q : List Int) (hq : Hq q) : ∀ (w : List Int) (j k : Nat), (bytesOf s).drop j = w ++ q → (∀ c ∈ w, NumS c) → i0 ≤ j → w.length < k →
  gjson_parseNumber.l0 k s (j : Int) (i0 : Int) = some (((j + w.length : Nat) : Int), s.extract i0 (j + w.length)) := by
 intro w
 induction w with
 | nil =>
  intro j k hd _ hi hk; obtain ⟨k, rfl⟩ : ∃ m, k = m + 1 := ⟨k - 1, by omega⟩
  obtain ⟨c, r, rfl, hc⟩ := hq; have hd : (bytesOf s).drop j = c :: r := hd; have hlt := sz_lt hd; simp only [gjson_parseNumber.l0]; rw [if_pos (by omega), if_pos (by omega), bt_drop hd, if_pos (show (0 : Int) ≤ (i0 : Int) by omega), if_pos (show (i0 : Int) ≤ (j : Int) by omega), if_pos (show (j : Int) ≤ (s.size : Int) by omega)]; simp only [Int.toNat_natCast, List.length_nil, Nat.add_zero]
  by_cases h : c ≤ 32
  ·rw [if_pos h]
  ·rw [if_neg h]
   by_cases h1 : c = 44
   ·rw [if_pos h1]
   ·rw [if_neg h1]
    by_cases h2 : c = 93
    ·rw [if_pos h2]
    ·rw [if_neg h2, if_pos (by unfold Blk at hc; omega)]
 | cons c w ih =>
  intro j k hd hw hi hk; obtain ⟨k, rfl⟩ : ∃ m, k = m + 1 := ⟨k - 1, by omega⟩
  have hlt := sz_lt hd; obtain ⟨h1, h2, h3, h4⟩ := hw c List.mem_cons_self; simp only [gjson_parseNumber.l0]; rw [if_pos (by omega), if_pos (by omega), bt_drop hd, if_neg (by omega), if_neg h2, if_neg h3, if_neg h4, w64_1 (by omega), ih (j + 1) k (drop_next hd) (fun x hx => hw x (List.mem_cons_of_mem _ hx)) (by omega) (by simp at hk; omega)]; rw [show j + 1 + w.length = j + (c :: w).length by simp; omega]
theorem lit_f (s : ByteArray) (hs : s.size ≤ 65536) {i : Nat} {c : Int} {w q : List Int} (hd : (bytesOf s).drop i = c :: (w ++ q)) (hw : ∀ c ∈ w, 97 ≤ c ∧ c ≤ 122) (hq : Hq q) :
  gjson_parseLiteral.f (w.length + 1) s (i : Int) = some (((i + (c :: w).length : Nat) : Int), s.extract i (i + (c :: w).length)) := by
 have hlt := sz_lt hd; unfold gjson_parseLiteral.f; rw [w64_1 (by omega), lit_l0 s hs i q hq w (i + 1) _ (drop_next hd) hw (by omega) (by omega), show i + 1 + w.length = i + (c :: w).length by simp; omega]
theorem num_f (s : ByteArray) (hs : s.size ≤ 65536) {i : Nat} {c : Int} {w q : List Int} (hd : (bytesOf s).drop i = c :: (w ++ q)) (hw : ∀ c ∈ w, NumS c) (hq : Hq q) :
  gjson_parseNumber.f (w.length + 1) s (i : Int) = some (((i + (c :: w).length : Nat) : Int), s.extract i (i + (c :: w).length)) := by
 have hlt := sz_lt hd; unfold gjson_parseNumber.f; rw [w64_1 (by omega), num_l0 s hs i q hq w (i + 1) _ (drop_next hd) hw (by omega) (by omega), show i + 1 + w.length = i + (c :: w).length by simp; omega]
def PsR (s : ByteArray) (s2 E : Nat) (v : Bool) : Int × ByteArray × Bool × Bool := (((E + 1 : Nat) : Int), s.extract (s2 - 1) (E + 1), v, true)
theorem w64_m {n m : Nat} (h : n = m + 1) (hn : n ≤ 65537) : wrap64 ((n : Int) - 1) = (m : Int) := by rw [Go.IntWalk.wrap64_in _ (by omega)]; omega
theorem w64_m2 {n m : Nat} (h : n = m + 2) (hn : n ≤ 65537) : wrap64 ((n : Int) - 2) = (m : Int) := by rw [Go.IntWalk.wrap64_in _ (by omega)]; omega
theorem ps_l2 (s : ByteArray) (hs : s.size ≤ 65536) (s2 i : Nat) (h1 : 1 ≤ s2) (hi : i < s.size) (h2 : s2 ≤ i) (h34 : B (bytesOf s) (s2 - 1) = 34) (r : Int × ByteArray × Bool × Bool) (hodd : runB (bytesOf s) i % 2 = 1 → ∃ K, ∀ k, K ≤ k → gjson_parseString.l1 k s (((i + 1 : Nat) : Int)) (s2 : Int) = some r)
  (heven : runB (bytesOf s) i % 2 = 0 → r = PsR s s2 i true) : ∀ (j n : Nat), CntP (bytesOf s) s2 i n j → ∃ K, ∀ k, K ≤ k → gjson_parseString.l2 k s (i : Int) (s2 : Int) (n : Int) (j : Int) = some r := by
 have fin : ∀ n : Nat, n + 1 = runB (bytesOf s) i → ∃ K, ∀ k, K ≤ k → (if (Int.tmod (n : Int) 2) = 0 then (gjson_parseString.l1 k s (wrap64 ((i : Int) + 1)) (s2 : Int)) else (if 0 ≤ (wrap64 ((s2 : Int) - 1)) then (if (wrap64 ((s2 : Int) - 1)) ≤ (wrap64 ((i : Int) + 1)) then (if (wrap64 ((i : Int) + 1)) ≤ (s.size : Int) then (some (wrap64 ((i : Int) + 1), s.extract ((wrap64 ((s2 : Int) - 1)) : Int).toNat ((wrap64 ((i : Int) + 1)) : Int).toNat, true, true)) else (none)) else (none)) else (none))) = some r := by
  intro n hn; obtain ⟨m, hm⟩ : ∃ m, s2 = m + 1 := ⟨s2 - 1, by omega⟩
  have w1 := w64_m hm (by omega); have w2 : wrap64 ((i : Int) + 1) = ((i + 1 : Nat) : Int) := w64_1 (by omega)
  by_cases hp : n % 2 = 0
  ·obtain ⟨K, hK⟩ := hodd (rk5 hn hp); exact ⟨K, fun k hk => by rw [if_pos (tm0 hp), w2]; exact hK k hk⟩
  ·refine ⟨0, fun k _ => ?_⟩; rw [if_neg (by rw [tm1 hp]; decide), w1, w2, if_pos (by omega), if_pos (by omega), if_pos (by omega), heven (rk6 hn hp)]; unfold PsR; rw [show s2 - 1 = m by omega]; simp
 intro j
 induction j with
 | zero =>
  intro n hc; obtain ⟨K, hK⟩ := fin n (cnt_low hc h1 (by omega) h34); refine ⟨K + 1, fun k hk => ?_⟩; obtain ⟨k, rfl⟩ : ∃ m, k = m + 1 := ⟨k - 1, by omega⟩
  simp only [gjson_parseString.l2]; rw [if_neg (by omega)]; exact hK k (by omega)
 | succ j ih =>
  intro n hc; have hj := hc.2.1
  by_cases hb : B (bytesOf s) (j + 1) = 92
  ·have hlow : s2 ≤ j + 1 := by
    apply Classical.byContradiction; intro hn; have := hc.1; have e : s2 - 1 = j + 1 := by omega
    rw [e] at h34; omega
   obtain ⟨K, hK⟩ := ih (n + 1) (cnt_down hc h1 rfl hlow hb); refine ⟨K + 1, fun k hk => ?_⟩; obtain ⟨k, rfl⟩ : ∃ m, k = m + 1 := ⟨k - 1, by omega⟩
   simp only [gjson_parseString.l2]; rw [← B_bt, if_pos (by omega), if_pos (by omega), if_pos (by omega), if_pos hb, w64_1 (by have := cnt_n hc hi; omega), w64_m rfl (by omega)]; exact hK k (by omega)
  ·obtain ⟨K, hK⟩ := fin n (cnt_ne hc hb); refine ⟨K + 1, fun k hk => ?_⟩; obtain ⟨k, rfl⟩ : ∃ m, k = m + 1 := ⟨k - 1, by omega⟩
   simp only [gjson_parseString.l2]; rw [← B_bt, if_pos (by omega), if_pos (by omega), if_pos (by omega), if_neg hb]; exact hK k (by omega)
theorem ps_ret (s : ByteArray) (hs : s.size ≤ 65536) (s2 i : Nat) (v : Bool) (h1 : 1 ≤ s2) (hi : i < s.size) (h2 : s2 ≤ i) : (if 0 ≤ (wrap64 ((s2 : Int) - 1)) then (if (wrap64 ((s2 : Int) - 1)) ≤ (wrap64 ((i : Int) + 1)) then (if (wrap64 ((i : Int) + 1)) ≤ (s.size : Int) then (some (wrap64 ((i : Int) + 1), s.extract ((wrap64 ((s2 : Int) - 1)) : Int).toNat ((wrap64 ((i : Int) + 1)) : Int).toNat, v, true)) else (none)) else (none)) else (none)) = some (PsR s s2 i v) := by
 obtain ⟨m, hm⟩ : ∃ m, s2 = m + 1 := ⟨s2 - 1, by omega⟩
 have w1 := w64_m hm (by omega); have w2 : wrap64 ((i : Int) + 1) = ((i + 1 : Nat) : Int) := w64_1 (by omega); rw [w1, w2, if_pos (by omega), if_pos (by omega), if_pos (by omega)]; unfold PsR; rw [show s2 - 1 = m by omega]; simp
theorem ps_l1 (s : ByteArray) (hs : s.size ≤ 65536) (s2 E : Nat) (h1 : 1 ≤ s2) (h34 : B (bytesOf s) (s2 - 1) = 34) (h : StrOk (bytesOf s) s2 E) : ∀ (m i : Nat), i + m = E → s2 < i → ∃ K, ∀ k, K ≤ k → gjson_parseString.l1 k s (i : Int) (s2 : Int) = some (PsR s s2 E true) := by
 have hE := h.lt; rw [bytesOf_length] at hE; intro m
 induction m with
 | zero =>
  intro i hm hi; obtain rfl : i = E := by omega
  have he := h.ends
  by_cases hb : B (bytesOf s) (i - 1) = 92
  ·obtain ⟨j, hj⟩ : ∃ j, i = j + 2 := ⟨i - 2, by omega⟩
   have e1 : i - 1 = j + 1 := by omega
   rw [e1] at hb; have hc : CntP (bytesOf s) s2 i 0 j := ⟨by omega, by omega, by rw [hj, runB_bs hb]; omega⟩
   obtain ⟨K, hK⟩ := ps_l2 s hs s2 i h1 hE (by omega) h34 (PsR s s2 i true) (fun ho => by omega) (fun _ => rfl) j 0 hc; refine ⟨K + 1, fun k hk => ?_⟩; obtain ⟨k, rfl⟩ : ∃ m, k = m + 1 := ⟨k - 1, by omega⟩
   simp only [gjson_parseString.l1]; have hm34 : bt s (i : Int) = 34 := by rw [← B_bt]; exact h.mark
   have w1 : wrap64 ((i : Int) - 1) = ((j + 1 : Nat) : Int) := w64_m (by omega) (by omega); have w2 : wrap64 ((i : Int) - 2) = ((j : Nat) : Int) := w64_m2 (by omega) (by omega); rw [if_pos (by omega), if_pos (by omega), hm34, if_neg (by decide), if_pos rfl, w1, w2, if_pos (by omega), if_pos (by omega), ← B_bt, if_pos hb]; exact hK k (by omega)
  ·refine ⟨1, fun k hk => ?_⟩; obtain ⟨k, rfl⟩ : ∃ m, k = m + 1 := ⟨k - 1, by omega⟩
   simp only [gjson_parseString.l1]; have hm34 : bt s (i : Int) = 34 := by rw [← B_bt]; exact h.mark
   have w1 : wrap64 ((i : Int) - 1) = ((i - 1 : Nat) : Int) := w64_m (by omega) (by omega); rw [if_pos (by omega), if_pos (by omega), hm34, if_neg (by decide), if_pos rfl, w1, if_pos (by omega), if_pos (by omega), ← B_bt, if_neg hb]; exact ps_ret s hs s2 i true h1 hE (by omega)
 | succ m ih =>
  intro i hm hi; obtain ⟨K1, hK1⟩ := ih (i + 1) (by omega) (by omega)
  by_cases hq : bt s (i : Int) = 34
  ·have hrun := h.inner i (by omega) (by omega) (by rw [B_bt]; exact hq); have hb : B (bytesOf s) (i - 1) = 92 := by
    apply Classical.byContradiction; intro hn; obtain ⟨j, hj⟩ : ∃ j, i = j + 1 := ⟨i - 1, by omega⟩
    rw [show i - 1 = j by omega] at hn; rw [hj, runB_ne hn] at hrun; omega
   obtain ⟨j, hj⟩ : ∃ j, i = j + 2 := ⟨i - 2, by omega⟩
   have e1 : i - 1 = j + 1 := by omega
   rw [e1] at hb; have hc : CntP (bytesOf s) s2 i 0 j := ⟨by omega, by omega, by rw [hj, runB_bs hb]; omega⟩
   obtain ⟨K, hK⟩ := ps_l2 s hs s2 i h1 (by omega) (by omega) h34 (PsR s s2 E true) (fun _ => ⟨K1, hK1⟩) (fun he => by omega) j 0 hc; refine ⟨K + 1, fun k hk => ?_⟩; obtain ⟨k, rfl⟩ : ∃ m, k = m + 1 := ⟨k - 1, by omega⟩
   simp only [gjson_parseString.l1]; have w1 : wrap64 ((i : Int) - 1) = ((j + 1 : Nat) : Int) := w64_m (by omega) (by omega); have w2 : wrap64 ((i : Int) - 2) = ((j : Nat) : Int) := w64_m2 (by omega) (by omega); rw [if_pos (by omega), if_pos (by omega), hq, if_neg (by decide), if_pos rfl, w1, w2, if_pos (by omega), if_pos (by omega), ← B_bt, if_pos hb]; exact hK k (by omega)
  ·refine ⟨K1 + 1, fun k hk => ?_⟩; obtain ⟨k, rfl⟩ : ∃ m, k = m + 1 := ⟨k - 1, by omega⟩
   simp only [gjson_parseString.l1]; rw [if_pos (by omega), if_pos (by omega), w64_1 (by omega)]
   by_cases h92 : bt s (i : Int) > 92
   ·rw [if_pos h92]; exact hK1 k (by omega)
   ·rw [if_neg h92, if_neg hq]; exact hK1 k (by omega)
theorem ps_l0 (s : ByteArray) (hs : s.size ≤ 65536) (s2 E : Nat) (h1 : 1 ≤ s2) (h34 : B (bytesOf s) (s2 - 1) = 34) (h : StrOk (bytesOf s) s2 E) : ∀ (m i : Nat), i + m = E → s2 ≤ i → runB (bytesOf s) i = 0 → ∃ K v, ∀ k, K ≤ k → gjson_parseString.l0 k s (i : Int) (s2 : Int) = some (PsR s s2 E v) := by
 have hE := h.lt; rw [bytesOf_length] at hE; intro m
 induction m with
 | zero =>
  intro i hm hi _; obtain rfl : i = E := by omega
  refine ⟨1, false, fun k hk => ?_⟩; obtain ⟨k, rfl⟩ : ∃ m, k = m + 1 := ⟨k - 1, by omega⟩
  simp only [gjson_parseString.l0]; have hm34 : bt s (i : Int) = 34 := by rw [← B_bt]; exact h.mark
  rw [if_pos (by omega), if_pos (by omega), hm34, if_neg (by decide), if_pos rfl]; exact ps_ret s hs s2 i false h1 hE (by omega)
 | succ m ih =>
  intro i hm hi h0; have hq : bt s (i : Int) ≠ 34 := fun e => by
   have := h.inner i hi (by omega) (by rw [B_bt]; exact e); omega
  by_cases h9 : bt s (i : Int) = 92
  ·obtain ⟨K, hK⟩ := ps_l1 s hs s2 E h1 h34 h m (i + 1) (by omega) (by omega); refine ⟨K + 1, true, fun k hk => ?_⟩; obtain ⟨k, rfl⟩ : ∃ m, k = m + 1 := ⟨k - 1, by omega⟩
   simp only [gjson_parseString.l0]; rw [if_pos (by omega), if_pos (by omega), h9, if_neg (by decide), if_neg (by decide), if_pos rfl, w64_1 (by omega)]; exact hK k (by omega)
  ·obtain ⟨K, v, hK⟩ := ih (i + 1) (by omega) (by omega) (runB_ne (by rw [B_bt]; exact h9)); refine ⟨K + 1, v, fun k hk => ?_⟩; obtain ⟨k, rfl⟩ : ∃ m, k = m + 1 := ⟨k - 1, by omega⟩
   simp only [gjson_parseString.l0]; rw [if_pos (by omega), if_pos (by omega), w64_1 (by omega)]
   by_cases h92 : bt s (i : Int) > 92
   ·rw [if_pos h92]; exact hK k (by omega)
   ·rw [if_neg h92, if_neg hq, if_neg h9]; exact hK k (by omega)
theorem str_f (s : ByteArray) (hs : s.size ≤ 65536) {i : Nat} {x q : List Int} (hx : SB x) (hd : (bytesOf s).drop i = 34 :: (x ++ 34 :: q)) :
  ∃ K v, gjson_parseString.f K s ((i + 1 : Nat) : Int) = some (((i + (x.length + 2) : Nat) : Int), s.extract i (i + (x.length + 2)), v, true) := by
 have hb := B_drop hd; have hok := str_ok _ q hx (i + 1) (drop_next hd) (by rw [runB_ne (by rw [hb]; decide)]); obtain ⟨K, v, hK⟩ := ps_l0 s hs (i + 1) (i + 1 + x.length) (by omega) (by rw [Nat.add_sub_cancel]; exact hb) hok x.length (i + 1) rfl (Nat.le_refl _) (runB_ne (by rw [hb]; decide)); refine ⟨K, v, ?_⟩; unfold gjson_parseString.f; rw [hK K (Nat.le_refl _)]; unfold PsR; rw [Nat.add_sub_cancel, show i + 1 + x.length + 1 = i + (x.length + 2) by omega]
section
open Sem
theorem store_float {P : Program} {w : World} {a : Addr} {m : Mode} (k : FloatKind) (n : Nat) : (store a (.float k n) m).run P w = stored P w a (.float k n) m := run_store P w a _ m rfl
end
theorem VT.keep {w W : World} (h : VT w) (hb : Below w.heap.size w W) : VT W := ⟨fun c hc => kc (h.ex c hc) hb⟩
structure RB (W : World) (b : Nat) (v0 v1 v2 v3 v4 v5 : Value) : Prop where
 h : W.heap[b]? = some (.cells #[v0, v1, v2, v3, v4, v5] 64 (0, 0))
section
variable {w W : World} {b : Nat} {v0 v1 v2 v3 v4 v5 : Value}
theorem RB.cells (h : RB W b v0 v1 v2 v3 v4 v5) : W.cell? ⟨b, 0, none⟩ = some v0 ∧ W.cell? ⟨b, 1, none⟩ = some v1 ∧ W.cell? ⟨b, 2, none⟩ = some v2 ∧ W.cell? ⟨b, 3, none⟩ = some v3 ∧ W.cell? ⟨b, 4, none⟩ = some v4 ∧ W.cell? ⟨b, 5, none⟩ = some v5 :=
 ⟨(blk_cell h.h 0).trans rfl, (blk_cell h.h 1).trans rfl, (blk_cell h.h 2).trans rfl, (blk_cell h.h 3).trans rfl, (blk_cell h.h 4).trans rfl, (blk_cell h.h 5).trans rfl⟩
theorem RB.free (h : RB W b v0 v1 v2 v3 v4 v5) (i : Nat) : W.frozen? ⟨b, i, none⟩ = false := blk_frozen h.h i
theorem RB.below (h : RB w b v0 v1 v2 v3 v4 v5) (hb : Below w.heap.size w W) : RB W b v0 v1 v2 v3 v4 v5 := ⟨blk_below h.h hb⟩
theorem RB.new (w : World) (v0 v1 v2 v3 v4 v5 : Value) : RB (w.alloc (.cells #[v0, v1, v2, v3, v4, v5] 64)) w.heap.size v0 v1 v2 v3 v4 v5 := ⟨blk_new w _⟩
theorem RB.alloc (h : RB w b v0 v1 v2 v3 v4 v5) (o : Obj) : RB (w.alloc o) b v0 v1 v2 v3 v4 v5 := ⟨blk_alloc h.h o⟩
theorem RB.far (h : RB w b v0 v1 v2 v3 v4 v5) {p : Addr} (hp : b ≠ p.block) (u : Value) : RB (w.setCell p u) b v0 v1 v2 v3 v4 v5 := ⟨blk_far h.h hp u⟩
theorem RB.set0 (h : RB w b v0 v1 v2 v3 v4 v5) (u : Value) : RB (w.setCell ⟨b, 0, none⟩ u) b u v1 v2 v3 v4 v5 := ⟨(blk_set h.h 0 u).trans rfl⟩
theorem RB.set1 (h : RB w b v0 v1 v2 v3 v4 v5) (u : Value) : RB (w.setCell ⟨b, 1, none⟩ u) b v0 u v2 v3 v4 v5 := ⟨(blk_set h.h 1 u).trans rfl⟩
theorem RB.set2 (h : RB w b v0 v1 v2 v3 v4 v5) (u : Value) : RB (w.setCell ⟨b, 2, none⟩ u) b v0 v1 u v3 v4 v5 := ⟨(blk_set h.h 2 u).trans rfl⟩
theorem RB.set3 (h : RB w b v0 v1 v2 v3 v4 v5) (u : Value) : RB (w.setCell ⟨b, 3, none⟩ u) b v0 v1 v2 u v4 v5 := ⟨(blk_set h.h 3 u).trans rfl⟩
theorem RB.set4 (h : RB w b v0 v1 v2 v3 v4 v5) (u : Value) : RB (w.setCell ⟨b, 4, none⟩ u) b v0 v1 v2 v3 u v5 := ⟨(blk_set h.h 4 u).trans rfl⟩
theorem RB.set5 (h : RB w b v0 v1 v2 v3 v4 v5) (u : Value) : RB (w.setCell ⟨b, 5, none⟩ u) b v0 v1 v2 v3 v4 u := ⟨(blk_set h.h 5 u).trans rfl⟩
theorem RB.drew (h : RB w b v0 v1 v2 v3 v4 v5) : RB w.drew b v0 v1 v2 v3 v4 v5 := ⟨h.h⟩
theorem RB.lt (h : RB w b v0 v1 v2 v3 v4 v5) : b < w.heap.size := blk_lt h.h
end
theorem bset {n : Nat} {w W : World} (h : Below n w W) (b o : Nat) (hb : n ≤ b) (u : Value) : Below n w (W.setCell ⟨b, o, none⟩ u) := h.setCell (p := ⟨b, o, none⟩) hb u
def put6 (W : World) (b : Nat) (v0 v1 v2 v3 v4 v5 : Value) : World := ((((((W.setCell ⟨b, 0, none⟩ v0).setCell ⟨b, 1, none⟩ v1).setCell ⟨b, 2, none⟩ v2).setCell ⟨b, 3, none⟩ v3).setCell ⟨b, 4, none⟩ v4).setCell ⟨b, 5, none⟩ v5).drew
theorem put6_rb {W : World} {b : Nat} {u0 u1 u2 u3 u4 u5 : Value} (h : RB W b u0 u1 u2 u3 u4 u5) (v0 v1 v2 v3 v4 v5 : Value) : RB (put6 W b v0 v1 v2 v3 v4 v5) b v0 v1 v2 v3 v4 v5 := ((((((h.set0 v0).set1 v1).set2 v2).set3 v3).set4 v4).set5 v5).drew
theorem put6_below {n : Nat} {w W : World} (h : Below n w W) {b : Nat} (hb : n ≤ b) (v0 v1 v2 v3 v4 v5 : Value) : Below n w (put6 W b v0 v1 v2 v3 v4 v5) := below_drew (bset (bset (bset (bset (bset (bset h b 0 hb v0) b 1 hb v1) b 2 hb v2) b 3 hb v3) b 4 hb v4) b 5 hb v5)
theorem size64 : (Tryz.prog.info? 64).map (·.size) = some 6 := by kernel_rfl
theorem res_tct {fn : Func} {t p u : Tmp} (h : fn.results = #[.tmp t, .cell p 64, .tmp u]) (tmps : Array Value) (w : World) (g : Nat) {v0 v1 v2 v3 v4 v5 : Value} (hg : RB w g v0 v1 v2 v3 v4 v5) (hp : tmps.getD p undef = .pointer (some ⟨g, 0, none⟩)) :
  (results fn tmps).run Tryz.prog w = .ok (.tuple #[tmps.getD t undef, .agg #[v0, v1, v2, v3, v4, v5], tmps.getD u undef]) w := by
 have hp' : tmps[p]?.getD undef = .pointer (some ⟨g, 0, none⟩) := by simpa using hp
 simp [results, h, hp', asAddr, run_loadVar_row w g 64 64 #[v0, v1, v2, v3, v4, v5] (0, 0) _ hg.h Tryz.underlying64 rfl size64]
theorem res_c {fn : Func} {p : Tmp} (h : fn.results = #[.cell p 64]) (tmps : Array Value) (w : World) (g : Nat) {v0 v1 v2 v3 v4 v5 : Value} (hg : RB w g v0 v1 v2 v3 v4 v5) (hp : tmps.getD p undef = .pointer (some ⟨g, 0, none⟩)) :
  (results fn tmps).run Tryz.prog w = .ok (.agg #[v0, v1, v2, v3, v4, v5]) w :=
 results_cell_row h tmps w g 64 #[v0, v1, v2, v3, v4, v5] (0, 0) _ hp hg.h Tryz.underlying64 rfl size64
theorem bstep {n : Nat} {w W W2 : World} (hn : w.heap.size = n) (h : Below n w W) (hb : Below W.heap.size W W2) : Below n w W2 := by subst hn; exact below_step h hb
theorem tct_eq {a b c a' b' c' : Value} (h1 : a = a') (h2 : b = b') (h3 : c = c') : Ending.returned (.tuple #[a, b, c]) = .returned (.tuple #[a', b', c']) := by rw [h1, h2, h3]
theorem far1 (n : Nat) (o : Nat) : n ≠ (⟨n + 1, o, none⟩ : Addr).block := by show n ≠ n + 1; omega
end Go.Proofs.YtdacgdjjdifneaaGreatDoor.PFnGjFlattenOften
