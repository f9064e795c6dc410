/- Part of the proof that laws.FnJrTypedMisses answers true for every input (the card: text ZF). -/
import Derived.Test.YthgpfljhmhkaiacGreatDoorZR
import Derived.Test.YthgpfljhmhkaiacGreatDoorZH
import Derived.Test.YthgpfljhmhkaiacGreatDoorV11
import Derived.Test.YthgpfljhmhkaiacGreatDoorV15
import Derived.Test.YthgpfljhmhkaiacGreatDoorV16
import Derived.Test.YthgpfljhmhkaiacGreatDoorV12
set_option linter.all false
/- What the search for keys of jsonparser passes where it finds nothing: the words in which its walk is told. -/
namespace Go.Proofs.YthgpfljhmhkaiacGreatDoor.PFnJrTypedMisses
open Go.RowKit Go.Proofs.YthgpfljhmhkaiacGreatDoorW.PrintWords Go.Proofs.YthgpfljhmhkaiacGreatDoorW.PrintLast Go.Proofs.YthgpfljhmhkaiacGreatDoorW.PrintMore
/-! ### Escapes -/
/-- From a backslash on: what the library's Unescape makes of a text, m escapes behind the first. -/
inductive UL : Nat → List Int → List Int → Prop
 | last (m k : Nat) (inn : List Int) (n : Nat) (bs : List Int) : escOne k inn = some ((n : Int), bs) → n ≤ inn.length → 1 ≤ n → bs.length < n → 92 ∉ inn.drop n → UL m inn (bs ++ inn.drop n)
 | more (m k : Nat) (inn : List Int) (n : Nat) (bs pre rest u : List Int) : escOne k inn = some ((n : Int), bs) → n ≤ inn.length → 1 ≤ n → bs.length < n → inn.drop n = pre ++ 92 :: rest → 92 ∉ pre → UL m (92 :: rest) u → UL (m + 1) inn (bs ++ (pre ++ u))
/-- What the library's Unescape makes of a text that holds a backslash. -/
inductive UE : List Int → List Int → Prop
 | esc (m : Nat) (pre rest u : List Int) : 92 ∉ pre → UL m (92 :: rest) u → UE (pre ++ 92 :: rest) (pre ++ u)
/-! ### Values -/
/-- What getTypeConfig finds at a place: where it ends, and its kind. -/
inductive GtP (l : List Int) (o : Nat) : Nat → Int → Prop
 | str (k se : Nat) (esc : Bool) : rd l o = 34 → jsonparser_stringEndConfig.f k false false 0 (l.drop (o + 1)) 34 = some ((se : Int), esc) → 1 ≤ se → o + (se + 1) ≤ l.length → GtP l o (o + (se + 1)) 1
 | arr (k r : Nat) : rd l o = 91 → jsonparser_blockEndConfig.f k false false 0 (l.drop o) 91 93 = some (r : Int) → 1 ≤ r → o + r ≤ l.length → GtP l o (o + r) 4
 | obj (k r : Nat) : rd l o = 123 → jsonparser_blockEndConfig.f k false false 0 (l.drop o) 123 125 = some (r : Int) → 1 ≤ r → o + r ≤ l.length → GtP l o (o + r) 3
 | num (k r : Nat) (d : Int) : (d = 45 ∨ d = 48 ∨ d = 49 ∨ d = 50 ∨ d = 51 ∨ d = 52 ∨ d = 53 ∨ d = 54 ∨ d = 55 ∨ d = 56 ∨ d = 57) → rd l o = d → jsonparser_tokenEnd.f k (l.drop o) = some (r : Int) → 1 ≤ r → o + r ≤ l.length → GtP l o (o + r) 2
 | tru (k r : Nat) : rd l o = 116 → (l.take (o + r)).drop o = [116, 114, 117, 101] → jsonparser_tokenEnd.f k (l.drop o) = some (r : Int) → 1 ≤ r → o + r ≤ l.length → GtP l o (o + r) 5
 | fal (k r : Nat) : rd l o = 102 → (l.take (o + r)).drop o = [102, 97, 108, 115, 101] → jsonparser_tokenEnd.f k (l.drop o) = some (r : Int) → 1 ≤ r → o + r ≤ l.length → GtP l o (o + r) 5
 | nul (k r : Nat) : rd l o = 110 → (l.take (o + r)).drop o = [110, 117, 108, 108] → jsonparser_tokenEnd.f k (l.drop o) = some (r : Int) → 1 ≤ r → o + r ≤ l.length → GtP l o (o + r) 6
/-- What Get without keys finds in a text: where it begins and ends, its kind. -/
def GetE (l : List Int) (n e : Nat) (ty : Int) : Prop := (∃ k, jsonparser_nextTokenConfig.f k false false 0 l = some (n : Int)) ∧ n < e ∧ e ≤ l.length ∧ (ty = 1 → n + 2 ≤ e) ∧ GtP l n e ty
/-- The elements of an array from a place behind its bracket or a comma on: each one's begin, end and kind. -/
inductive Ael (l : List Int) : Nat → Nat → List (Nat × Nat × Int) → Prop
 | last (m off n e : Nat) (ty : Int) (k v : Nat) : off ≤ l.length → GetE (l.drop off) n e ty → jsonparser_nextTokenConfig.f k false false 0 (l.drop (off + e)) = some (v : Int) → off + e + v < l.length → rd l ((off + e + v : Nat) : Int) = 93 → Ael l m off [(off + n, off + e, ty)]
 | more (m off n e : Nat) (ty : Int) (k v : Nat) (els : List (Nat × Nat × Int)) : off ≤ l.length → GetE (l.drop off) n e ty → jsonparser_nextTokenConfig.f k false false 0 (l.drop (off + e)) = some (v : Int) → off + e + v < l.length → rd l ((off + e + v : Nat) : Int) = 44 →
   Ael l m (off + e + v + 1) els → Ael l (m + 1) off ((off + n, off + e, ty) :: els)
/-- The elements of an array that begins a text. -/
inductive AelT (l : List Int) : List (Nat × Nat × Int) → Prop
 | none (k v : Nat) : rd l 0 = 91 → jsonparser_nextTokenConfig.f k false false 0 (l.drop 1) = some (v : Int) → 1 + v < l.length → rd l ((1 + v : Nat) : Int) = 93 → AelT l []
 | some (k v m : Nat) (els : List (Nat × Nat × Int)) : rd l 0 = 91 → jsonparser_nextTokenConfig.f k false false 0 (l.drop 1) = some (v : Int) → 1 + v < l.length → rd l ((1 + v : Nat) : Int) ≠ 93 → Ael l m (1 + v) els → AelT l els
/-! ### The search -/
/-- A name's place: behind the quote at i the text goes on for se bytes to behind the closing quote, then v blanks; what the name stands for. -/
structure KeyAt (data : List Int) (i se v : Nat) (u : List Int) : Prop where
 q : rd data (i : Int) = 34
 lt : i + 1 + se + v < data.length
 se1 : 1 ≤ se
 str : ∃ (k : Nat) (esc : Bool), jsonparser_stringEndConfig.f k false false 0 (data.drop (i + 1)) 34 = some ((se : Int), esc) ∧ ((esc = false ∧ u = (data.take (i + se)).drop (i + 1)) ∨ (esc = true ∧ UE ((data.take (i + se)).drop (i + 1)) u))
 nxt : ∃ k, jsonparser_nextTokenConfig.f k false false 0 (data.drop (i + 1 + se)) = some (v : Int)
/-- From a place of the data on the search for keys finds nothing, n steps at most. -/
inductive Sk : List ByteArray → List Int → Nat → Nat → Nat → Int → Bool → Prop
 | done (keys : List ByteArray) (data : List Int) (n i L : Nat) (K : Int) (M : Bool) : data.length ≤ i → Sk keys data n i L K M
 | fast (keys : List ByteArray) (data : List Int) (n i L : Nat) (K : Int) (M : Bool) : i < data.length → (rd data i ≤ 32 ∨ (92 < rd data i ∧ rd data i ≠ 123 ∧ rd data i ≠ 125)) → Sk keys data n (i + 1) L K M → Sk keys data (n + 1) i L K M
 | other (keys : List ByteArray) (data : List Int) (n i L : Nat) (K : Int) (M : Bool) : i < data.length → 32 < rd data i → rd data i ≤ 92 → rd data i ≠ 34 → rd data i ≠ 39 → rd data i ≠ 91 → rd data i ≠ 58 → Sk keys data n (i + 1) L K M → Sk keys data (n + 1) i L K M
 | strEnd (keys : List ByteArray) (data : List Int) (n i L : Nat) (K : Int) (M : Bool) (k k' se : Nat) (esc : Bool) : i < data.length → rd data i = 34 → jsonparser_stringEndConfig.f k false false 0 (data.drop (i + 1)) 34 = some ((se : Int), esc) → 1 ≤ se → i + 1 + se ≤ data.length →
   jsonparser_nextTokenConfig.f k' false false 0 (data.drop (i + 1 + se)) = some (-1) → Sk keys data n i L K M
 | strVal (keys : List ByteArray) (data : List Int) (n i L : Nat) (K : Int) (M : Bool) (k k' se v : Nat) (esc : Bool) : i < data.length → rd data i = 34 → jsonparser_stringEndConfig.f k false false 0 (data.drop (i + 1)) 34 = some ((se : Int), esc) → 1 ≤ se → i + 1 + se + v < data.length →
   jsonparser_nextTokenConfig.f k' false false 0 (data.drop (i + 1 + se)) = some (v : Int) → rd data ((i + 1 + se + v : Nat) : Int) ≠ 58 → Sk keys data n (i + 1 + se + v) L K M → Sk keys data (n + 1) i L K M
 | keyNo (keys : List ByteArray) (data : List Int) (n i L : Nat) (K : Int) (M : Bool) (se v : Nat) (u : List Int) (key : ByteArray) : KeyAt data i se v u → rd data ((i + 1 + se + v : Nat) : Int) = 58 → keys[L]? = some key → strOfNums u ≠ key →
   Sk keys data n (i + 1 + se + v + 1) (L + 1) K false → Sk keys data (n + 1) i (L + 1) K M
 | keyYes (keys : List ByteArray) (data : List Int) (n i L : Nat) (M : Bool) (se v : Nat) (u : List Int) (key : ByteArray) : KeyAt data i se v u → rd data ((i + 1 + se + v : Nat) : Int) = 58 → keys[L]? = some key → strOfNums u = key → L + 1 < keys.length →
   Sk keys data n (i + 1 + se + v + 1) (L + 1) ((L : Int) + 1) true → Sk keys data (n + 1) i (L + 1) (L : Int) M
 | openSkip (keys : List ByteArray) (data : List Int) (n i L : Nat) (K : Int) (k e : Nat) : i < data.length → rd data i = 123 → jsonparser_blockEndConfig.f k false false 0 (data.drop i) 123 125 = some (e : Int) → 1 ≤ e → i + e ≤ data.length → Sk keys data n (i + e) L K false → Sk keys data (n + 1) i L K false
 | openIn (keys : List ByteArray) (data : List Int) (n i L : Nat) (K : Int) : i < data.length → rd data i = 123 → L + 1 ≤ keys.length → Sk keys data n (i + 1) (L + 1) K true → Sk keys data (n + 1) i L K true
 | closeEq (keys : List ByteArray) (data : List Int) (n i L : Nat) (M : Bool) : i < data.length → rd data i = 125 → Sk keys data n (i + 1) L ((L : Int) - 1) M → Sk keys data (n + 1) i (L + 1) (L : Int) M
 | closeNe (keys : List ByteArray) (data : List Int) (n i L : Nat) (K : Int) (M : Bool) : i < data.length → rd data i = 125 → (L : Int) ≠ K → Sk keys data n (i + 1) L K M → Sk keys data (n + 1) i (L + 1) K M
 | arrNe (keys : List ByteArray) (data : List Int) (n i L : Nat) (K : Int) (M : Bool) (k e : Nat) : i < data.length → rd data i = 91 → K ≠ (L : Int) → jsonparser_blockEndConfig.f k false false 0 (data.drop i) 91 93 = some (e : Int) → 1 ≤ e → i + e ≤ data.length → Sk keys data n (i + e) L K M → Sk keys data (n + 1) i L K M
 | arrName (keys : List ByteArray) (data : List Int) (n i L : Nat) (M : Bool) (k e : Nat) (key : ByteArray) : i < data.length → rd data i = 91 → keys[L]? = some key → ¬ IdxK key → jsonparser_blockEndConfig.f k false false 0 (data.drop i) 91 93 = some (e : Int) → 1 ≤ e → i + e ≤ data.length → Sk keys data n (i + e) L (L : Int) M → Sk keys data (n + 1) i L (L : Int) M
 | arrFar (keys : List ByteArray) (data : List Int) (n i L : Nat) (M : Bool) (key : ByteArray) (d : List Int) (els : List (Nat × Nat × Int)) : i < data.length → rd data i = 91 → keys[L]? = some key → BrK key d → AelT (data.drop i) els → (els.length : Int) ≤ decV d → Sk keys data n i L (L : Int) M
 | arrDown (keys : List ByteArray) (data : List Int) (n i L : Nat) (M : Bool) (key : ByteArray) (d : List Int) (els : List (Nat × Nat × Int)) (b e : Nat) (ty : Int) : i < data.length → rd data i = 91 → keys[L]? = some key → BrK key d → AelT (data.drop i) els → els[(decV d).toNat]? = some (b, e, ty) →
   L + 1 < keys.length → Sk (keys.drop (L + 1)) ((data.take (i + e)).drop (i + b)) n 0 0 0 true → Sk keys data (n + 1) i L (L : Int) M
/-! ### Blanks -/
theorem next_l0 (data : List Int) (hn : data.length < 2 ^ 38) : ∀ (w : List Int) (i k : Nat) (c : Int) (r : List Int), Ws w → ¬ Blk c → data.drop i = w ++ c :: r → w.length < k →
  jsonparser_nextTokenConfig.l0 k data (data.length : Int) (i : Int) = some ((i + w.length : Nat) : Int) := by
 intro w
 induction w with
 | nil =>
  intro i k c r _ hc h hk
  obtain ⟨k, rfl⟩ : ∃ m, k = m + 1 := ⟨k - 1, by omega⟩
  have h : data.drop i = c :: r := h
  have hlt := drop_lt h
  unfold Blk at hc
  simp only [jsonparser_nextTokenConfig.l0]
  rw [if_pos (by omega), if_pos (by omega), if_pos (by omega), rd_drop h, if_neg (by omega), if_neg (by omega), if_neg (by omega), if_neg (by omega)]
  rfl
 | cons b w ih =>
  intro i k c r hw hc h hk
  obtain ⟨k, rfl⟩ : ∃ m, k = m + 1 := ⟨k - 1, by omega⟩
  have h : data.drop i = b :: (w ++ c :: r) := h
  have hlt := drop_lt h
  have hb := hw b List.mem_cons_self
  have next := ih (i + 1) k c r (fun x hx => hw x (List.mem_cons_of_mem _ hx)) hc (drop_next h) (by simp at hk; omega)
  rw [← w64_1 (by omega)] at next
  simp only [jsonparser_nextTokenConfig.l0]
  rw [if_pos (by omega), if_pos (by omega), if_pos (by omega), rd_drop h, next]
  rw [List.length_cons, show i + 1 + w.length = i + (w.length + 1) by omega]
  unfold Blk at hb
  by_cases h1 : b = 32
  ·rw [if_pos h1]
  rw [if_neg h1]
  by_cases h2 : b = 10
  ·rw [if_pos h2]
  rw [if_neg h2]
  by_cases h3 : b = 13
  ·rw [if_pos h3]
  rw [if_neg h3, if_pos (by omega)]
theorem next_f (w : List Int) (c : Int) (r : List Int) (hn : (w ++ c :: r).length < 2 ^ 38) (hw : Ws w) (hc : ¬ Blk c) (k : Nat) (hk : w.length < k) : jsonparser_nextTokenConfig.f k false false 0 (w ++ c :: r) = some (w.length : Int) := by
 have := next_l0 (w ++ c :: r) hn w 0 k c r hw hc rfl hk
 rw [Nat.zero_add] at this
 exact this
theorem next_none_l0 (data : List Int) (hn : data.length < 2 ^ 38) : ∀ (w : List Int) (i k : Nat), Ws w → data.drop i = w → w.length < k →
  jsonparser_nextTokenConfig.l0 k data (data.length : Int) (i : Int) = some (-1) := by
 intro w
 induction w with
 | nil =>
  intro i k _ h hk
  obtain ⟨k, rfl⟩ : ∃ m, k = m + 1 := ⟨k - 1, by omega⟩
  have := List.drop_eq_nil_iff.mp h
  simp only [jsonparser_nextTokenConfig.l0]
  rw [if_neg (by omega)]
 | cons b w ih =>
  intro i k hw h hk
  obtain ⟨k, rfl⟩ : ∃ m, k = m + 1 := ⟨k - 1, by omega⟩
  have hlt := drop_lt h
  have hb := hw b List.mem_cons_self
  have next := ih (i + 1) k (fun x hx => hw x (List.mem_cons_of_mem _ hx)) (drop_next h) (by simp at hk; omega)
  rw [← w64_1 (by omega)] at next
  simp only [jsonparser_nextTokenConfig.l0]
  rw [if_pos (by omega), if_pos (by omega), if_pos (by omega), rd_drop h, next]
  unfold Blk at hb
  by_cases h1 : b = 32
  ·rw [if_pos h1]
  rw [if_neg h1]
  by_cases h2 : b = 10
  ·rw [if_pos h2]
  rw [if_neg h2]
  by_cases h3 : b = 13
  ·rw [if_pos h3]
  rw [if_neg h3, if_pos (by omega)]
theorem next_none (w : List Int) (hn : w.length < 2 ^ 38) (hw : Ws w) (k : Nat) (hk : w.length < k) : jsonparser_nextTokenConfig.f k false false 0 w = some (-1) :=
 next_none_l0 w hn w 0 k hw rfl hk
/-! ### The end of a word -/
def Dlm (c : Int) : Prop := c = 32 ∨ c = 10 ∨ c = 13 ∨ c = 9 ∨ c = 44 ∨ c = 125 ∨ c = 93
theorem tokEnd_l0 (data x0 : List Int) (hx0 : x0.length = data.length) (hn : data.length < 2 ^ 38) : ∀ (w : List Int) (i k : Nat) (r : List Int), (∀ c ∈ w, ¬ Dlm c) → (∀ c r', r = c :: r' → Dlm c) → data.drop i = w ++ r → i ≤ data.length → w.length < k →
  jsonparser_tokenEnd.l0 k x0 data (data.length : Int) (i : Int) = some ((i + w.length : Nat) : Int) := by
 intro w
 induction w with
 | nil =>
  intro i k r _ hr h hi hk
  obtain ⟨k, rfl⟩ : ∃ m, k = m + 1 := ⟨k - 1, by omega⟩
  have h : data.drop i = r := h
  cases hr' : r with
  | nil =>
   rw [hr'] at h
   have := List.drop_eq_nil_iff.mp h
   simp only [jsonparser_tokenEnd.l0]
   rw [if_neg (by omega), hx0, show data.length = i by omega]; rfl
  | cons c r' =>
   rw [hr'] at h
   have hlt := drop_lt h
   have hd := hr c r' hr'
   unfold Dlm at hd
   simp only [jsonparser_tokenEnd.l0]
   rw [if_pos (by omega), if_pos (by omega), if_pos (by omega), rd_drop h]
   repeat (split; · rfl)
   omega
 | cons b w ih =>
  intro i k r hw hr h hi hk
  obtain ⟨k, rfl⟩ : ∃ m, k = m + 1 := ⟨k - 1, by omega⟩
  have h : data.drop i = b :: (w ++ r) := h
  have hlt := drop_lt h
  have hb := hw b List.mem_cons_self
  unfold Dlm at hb
  have next := ih (i + 1) k r (fun x hx => hw x (List.mem_cons_of_mem _ hx)) hr (drop_next h) (by omega) (by simp at hk; omega)
  simp only [jsonparser_tokenEnd.l0]
  rw [if_pos (by omega), if_pos (by omega), if_pos (by omega), rd_drop h, if_neg (by omega), if_neg (by omega), if_neg (by omega), if_neg (by omega), if_neg (by omega), if_neg (by omega), if_neg (by omega), w64_1 (by omega), next]
  rw [List.length_cons, show i + 1 + w.length = i + (w.length + 1) by omega]
theorem tokEnd_f (w r : List Int) (hn : (w ++ r).length < 2 ^ 38) (hw : ∀ c ∈ w, ¬ Dlm c) (hr : ∀ c r', r = c :: r' → Dlm c) (k : Nat) (hk : w.length < k) : jsonparser_tokenEnd.f k (w ++ r) = some (w.length : Int) := by
 have := tokEnd_l0 (w ++ r) (w ++ r) rfl hn w 0 k r hw hr rfl (by omega) hk
 rw [Nat.zero_add] at this
 exact this
/-! ### Eight bytes at once -/
theorem u64w {n : Nat} (h : n < 2 ^ 64) : IntKind.u64.wrap (n : Int) = n := Go.IntWalk.u64_in _ ⟨by omega, by omega⟩
theorem bits_or (x y : Nat) (hx : x < 2 ^ 64) (hy : y < 2 ^ 64) : Go.bits .or .u64 (x : Int) (y : Int) = ((x ||| y : Nat) : Int) := by
 have e : (BitVec.ofNat 64 x ||| BitVec.ofNat 64 y).toNat = x ||| y := by rw [BitVec.toNat_or, BitVec.toNat_ofNat, BitVec.toNat_ofNat, Nat.mod_eq_of_lt hx, Nat.mod_eq_of_lt hy]
 show IntKind.u64.wrap (((BitVec.ofInt 64 (x : Int) ||| BitVec.ofInt 64 (y : Int)).toNat : Nat) : Int) = _
 rw [BitVec.ofInt_natCast, BitVec.ofInt_natCast, e]
 exact u64w (Nat.or_lt_two_pow hx hy)
theorem bits_xor (x y : Nat) (hx : x < 2 ^ 64) (hy : y < 2 ^ 64) : Go.bits .xor .u64 (x : Int) (y : Int) = ((x ^^^ y : Nat) : Int) := by
 have e : (BitVec.ofNat 64 x ^^^ BitVec.ofNat 64 y).toNat = x ^^^ y := by rw [BitVec.toNat_xor, BitVec.toNat_ofNat, BitVec.toNat_ofNat, Nat.mod_eq_of_lt hx, Nat.mod_eq_of_lt hy]
 show IntKind.u64.wrap (((BitVec.ofInt 64 (x : Int) ^^^ BitVec.ofInt 64 (y : Int)).toNat : Nat) : Int) = _
 rw [BitVec.ofInt_natCast, BitVec.ofInt_natCast, e]
 exact u64w (Nat.xor_lt_two_pow hx hy)
theorem bits_and (x y : Nat) (hx : x < 2 ^ 64) (hy : y < 2 ^ 64) : Go.bits .and .u64 (x : Int) (y : Int) = ((x &&& y : Nat) : Int) := by
 have e : (BitVec.ofNat 64 x &&& BitVec.ofNat 64 y).toNat = x &&& y := by rw [BitVec.toNat_and, BitVec.toNat_ofNat, BitVec.toNat_ofNat, Nat.mod_eq_of_lt hx, Nat.mod_eq_of_lt hy]
 show IntKind.u64.wrap (((BitVec.ofInt 64 (x : Int) &&& BitVec.ofInt 64 (y : Int)).toNat : Nat) : Int) = _
 rw [BitVec.ofInt_natCast, BitVec.ofInt_natCast, e]
 exact u64w (Nat.and_lt_two_pow _ hy)
/-- Eight bytes, the least one first. -/
def oct (b0 b1 b2 b3 b4 b5 b6 b7 : Nat) : Nat := b0 + 2 ^ 8 * (b1 + 2 ^ 8 * (b2 + 2 ^ 8 * (b3 + 2 ^ 8 * (b4 + 2 ^ 8 * (b5 + 2 ^ 8 * (b6 + 2 ^ 8 * b7))))))
theorem or_shift (x y n : Nat) (hx : x < 2 ^ n) : x ||| y * 2 ^ n = x + 2 ^ n * y := by
 rw [Nat.mul_comm, Nat.or_comm, ← Nat.two_pow_add_eq_or_of_lt hx, Nat.add_comm]
theorem xor_byte (a b c d : Nat) (hb : b < 2 ^ 8) (hd : d < 2 ^ 8) : (b + 2 ^ 8 * a) ^^^ (d + 2 ^ 8 * c) = (b ^^^ d) + 2 ^ 8 * (a ^^^ c) := by
 have hbd : b ^^^ d < 2 ^ 8 := Nat.xor_lt_two_pow hb hd
 rw [Nat.add_comm b, Nat.add_comm d, Nat.add_comm (b ^^^ d)]
 apply Nat.eq_of_testBit_eq
 intro i
 rw [Nat.testBit_xor, Nat.testBit_two_pow_mul_add a hb, Nat.testBit_two_pow_mul_add c hd, Nat.testBit_two_pow_mul_add (a ^^^ c) hbd]
 split
 ·rw [Nat.testBit_xor]
 ·rw [Nat.testBit_xor]
theorem oct_xor (a0 a1 a2 a3 a4 a5 a6 a7 q : Nat) (h0 : a0 < 256) (h1 : a1 < 256) (h2 : a2 < 256) (h3 : a3 < 256) (h4 : a4 < 256) (h5 : a5 < 256) (h6 : a6 < 256) (h7 : a7 < 256) (hq : q < 256) :
  oct a0 a1 a2 a3 a4 a5 a6 a7 ^^^ oct q q q q q q q q = oct (a0 ^^^ q) (a1 ^^^ q) (a2 ^^^ q) (a3 ^^^ q) (a4 ^^^ q) (a5 ^^^ q) (a6 ^^^ q) (a7 ^^^ q) := by
 unfold oct
 rw [xor_byte _ _ _ _ h0 hq, xor_byte _ _ _ _ h1 hq, xor_byte _ _ _ _ h2 hq, xor_byte _ _ _ _ h3 hq, xor_byte _ _ _ _ h4 hq, xor_byte _ _ _ _ h5 hq, xor_byte _ _ _ _ h6 hq]
/-- The test for a byte that is 0. -/
def hasZ (v : Nat) : Nat := ((v + 2 ^ 64 - 72340172838076673) % 2 ^ 64) &&& (18446744073709551615 ^^^ v) &&& 9259542123273814144
theorem hasZ_bit (v m : Nat) (hv : v < 2 ^ 64) (hm : m < 64) (h1 : ((v + 2 ^ 64 - 72340172838076673) % 2 ^ 64) / 2 ^ m % 2 = 1) (h2 : v / 2 ^ m % 2 = 0) (h3 : 9259542123273814144 / 2 ^ m % 2 = 1) : hasZ v ≠ 0 := by
 intro h
 have hb : (hasZ v).testBit m = true := by
  unfold hasZ
  rw [Nat.testBit_and, Nat.testBit_and, Nat.testBit_xor]
  have e1 : ((v + 2 ^ 64 - 72340172838076673) % 2 ^ 64).testBit m = true := by rw [Nat.testBit_eq_decide_div_mod_eq]; simpa using h1
  have e2 : v.testBit m = false := by rw [Nat.testBit_eq_decide_div_mod_eq]; simp [h2]
  have e3 : Nat.testBit 9259542123273814144 m = true := by rw [Nat.testBit_eq_decide_div_mod_eq]; simpa using h3
  have e4 : Nat.testBit 18446744073709551615 m = true := by
   rw [show (18446744073709551615 : Nat) = 2 ^ 64 - 1 by decide, Nat.testBit_two_pow_sub_one]
   simpa using hm
  rw [e1, e2, e3, e4]; rfl
 rw [h, Nat.zero_testBit] at hb
 cases hb
theorem oct_lt (a0 a1 a2 a3 a4 a5 a6 a7 : Nat) (h0 : a0 < 256) (h1 : a1 < 256) (h2 : a2 < 256) (h3 : a3 < 256) (h4 : a4 < 256) (h5 : a5 < 256) (h6 : a6 < 256) (h7 : a7 < 256) : oct a0 a1 a2 a3 a4 a5 a6 a7 < 2 ^ 64 := by
 unfold oct; omega
theorem hasZ_oct (a0 a1 a2 a3 a4 a5 a6 a7 : Nat) (h0 : a0 < 256) (h1 : a1 < 256) (h2 : a2 < 256) (h3 : a3 < 256) (h4 : a4 < 256) (h5 : a5 < 256) (h6 : a6 < 256) (h7 : a7 < 256)
  (h : hasZ (oct a0 a1 a2 a3 a4 a5 a6 a7) = 0) : 0 < a0 ∧ 0 < a1 ∧ 0 < a2 ∧ 0 < a3 ∧ 0 < a4 ∧ 0 < a5 ∧ 0 < a6 ∧ 0 < a7 := by
 have hl := oct_lt a0 a1 a2 a3 a4 a5 a6 a7 h0 h1 h2 h3 h4 h5 h6 h7
 have z0 : 0 < a0 := by
  refine Nat.pos_of_ne_zero fun z => hasZ_bit _ 7 hl (by omega) ?_ ?_ (by decide) h
  ·unfold oct; omega
  ·unfold oct; omega
 have z1 : 0 < a1 := by
  refine Nat.pos_of_ne_zero fun z => hasZ_bit _ 15 hl (by omega) ?_ ?_ (by decide) h
  ·unfold oct; omega
  ·unfold oct; omega
 have z2 : 0 < a2 := by
  refine Nat.pos_of_ne_zero fun z => hasZ_bit _ 23 hl (by omega) ?_ ?_ (by decide) h
  ·unfold oct; omega
  ·unfold oct; omega
 have z3 : 0 < a3 := by
  refine Nat.pos_of_ne_zero fun z => hasZ_bit _ 31 hl (by omega) ?_ ?_ (by decide) h
  ·unfold oct; omega
  ·unfold oct; omega
 have z4 : 0 < a4 := by
  refine Nat.pos_of_ne_zero fun z => hasZ_bit _ 39 hl (by omega) ?_ ?_ (by decide) h
  ·unfold oct; omega
  ·unfold oct; omega
 have z5 : 0 < a5 := by
  refine Nat.pos_of_ne_zero fun z => hasZ_bit _ 47 hl (by omega) ?_ ?_ (by decide) h
  ·unfold oct; omega
  ·unfold oct; omega
 have z6 : 0 < a6 := by
  refine Nat.pos_of_ne_zero fun z => hasZ_bit _ 55 hl (by omega) ?_ ?_ (by decide) h
  ·unfold oct; omega
  ·unfold oct; omega
 have z7 : 0 < a7 := by
  refine Nat.pos_of_ne_zero fun z => hasZ_bit _ 63 hl (by omega) ?_ ?_ (by decide) h
  ·unfold oct; omega
  ·unfold oct; omega
 exact ⟨z0, z1, z2, z3, z4, z5, z6, z7⟩
/-- Bytes. -/
def BytesL (l : List Int) : Prop := ∀ c ∈ l, 0 ≤ c ∧ c ≤ 255
theorem BytesL.drop {l : List Int} (h : BytesL l) (i : Nat) : BytesL (l.drop i) := fun c hc => h c (List.mem_of_mem_drop hc)
theorem BytesL.rdr {l : List Int} (h : BytesL l) (i : Int) : 0 ≤ rd l i ∧ rd l i ≤ 255 := by
 unfold rd
 rw [List.getD_eq_getElem?_getD]
 cases e : l[i.toNat]? with
 | none => simp
 | some c => exact h c (List.mem_of_getElem? e)
theorem le64 (l : List Int) (hb : BytesL l) (h : 7 < l.length) : ∃ b0 b1 b2 b3 b4 b5 b6 b7 : Nat, (b0 < 256 ∧ b1 < 256 ∧ b2 < 256 ∧ b3 < 256 ∧ b4 < 256 ∧ b5 < 256 ∧ b6 < 256 ∧ b7 < 256) ∧
  (rd l 0 = b0 ∧ rd l 1 = b1 ∧ rd l 2 = b2 ∧ rd l 3 = b3 ∧ rd l 4 = b4 ∧ rd l 5 = b5 ∧ rd l 6 = b6 ∧ rd l 7 = b7) ∧ binary_littleEndian_Uint64.f l = some ((oct b0 b1 b2 b3 b4 b5 b6 b7 : Nat) : Int) := by
 have get : ∀ i : Int, ∃ b : Nat, rd l i = b ∧ b < 256 := fun i => ⟨(rd l i).toNat, by have := hb.rdr i; omega, by have := hb.rdr i; omega⟩
 obtain ⟨b0, e0, h0⟩ := get 0
 obtain ⟨b1, e1, h1⟩ := get 1
 obtain ⟨b2, e2, h2⟩ := get 2
 obtain ⟨b3, e3, h3⟩ := get 3
 obtain ⟨b4, e4, h4⟩ := get 4
 obtain ⟨b5, e5, h5⟩ := get 5
 obtain ⟨b6, e6, h6⟩ := get 6
 obtain ⟨b7, e7, h7⟩ := get 7
 refine ⟨b0, b1, b2, b3, b4, b5, b6, b7, ⟨h0, h1, h2, h3, h4, h5, h6, h7⟩, ⟨e0, e1, e2, e3, e4, e5, e6, e7⟩, ?_⟩
 unfold binary_littleEndian_Uint64.f
 rw [if_pos h, e0, e1, e2, e3, e4, e5, e6, e7]
 rw [u64w (n := b0) (by omega), u64w (n := b1) (by omega), u64w (n := b2) (by omega), u64w (n := b3) (by omega), u64w (n := b4) (by omega), u64w (n := b5) (by omega), u64w (n := b6) (by omega), u64w (n := b7) (by omega)]
 have m1 : IntKind.u64.wrap ((b1 : Int) * 256) = ((b1 * 2 ^ 8 : Nat) : Int) := by rw [← u64w (n := b1 * 2 ^ 8) (by omega)]; congr 1
 have m2 : IntKind.u64.wrap ((b2 : Int) * 65536) = ((b2 * 2 ^ 16 : Nat) : Int) := by rw [← u64w (n := b2 * 2 ^ 16) (by omega)]; congr 1
 have m3 : IntKind.u64.wrap ((b3 : Int) * 16777216) = ((b3 * 2 ^ 24 : Nat) : Int) := by rw [← u64w (n := b3 * 2 ^ 24) (by omega)]; congr 1
 have m4 : IntKind.u64.wrap ((b4 : Int) * 4294967296) = ((b4 * 2 ^ 32 : Nat) : Int) := by rw [← u64w (n := b4 * 2 ^ 32) (by omega)]; congr 1
 have m5 : IntKind.u64.wrap ((b5 : Int) * 1099511627776) = ((b5 * 2 ^ 40 : Nat) : Int) := by rw [← u64w (n := b5 * 2 ^ 40) (by omega)]; congr 1
 have m6 : IntKind.u64.wrap ((b6 : Int) * 281474976710656) = ((b6 * 2 ^ 48 : Nat) : Int) := by rw [← u64w (n := b6 * 2 ^ 48) (by omega)]; congr 1
 have m7 : IntKind.u64.wrap ((b7 : Int) * 72057594037927936) = ((b7 * 2 ^ 56 : Nat) : Int) := by rw [← u64w (n := b7 * 2 ^ 56) (by omega)]; congr 1
 rw [m1, m2, m3, m4, m5, m6, m7]
 rw [bits_or b0 (b1 * 2 ^ 8) (by omega) (by omega), or_shift _ _ _ (show b0 < 2 ^ 8 by omega),
  bits_or _ (b2 * 2 ^ 16) (by omega) (by omega), or_shift _ _ _ (show b0 + 2 ^ 8 * b1 < 2 ^ 16 by omega),
  bits_or _ (b3 * 2 ^ 24) (by omega) (by omega), or_shift _ _ _ (show b0 + 2 ^ 8 * b1 + 2 ^ 16 * b2 < 2 ^ 24 by omega),
  bits_or _ (b4 * 2 ^ 32) (by omega) (by omega), or_shift _ _ _ (show b0 + 2 ^ 8 * b1 + 2 ^ 16 * b2 + 2 ^ 24 * b3 < 2 ^ 32 by omega),
  bits_or _ (b5 * 2 ^ 40) (by omega) (by omega), or_shift _ _ _ (show b0 + 2 ^ 8 * b1 + 2 ^ 16 * b2 + 2 ^ 24 * b3 + 2 ^ 32 * b4 < 2 ^ 40 by omega),
  bits_or _ (b6 * 2 ^ 48) (by omega) (by omega), or_shift _ _ _ (show b0 + 2 ^ 8 * b1 + 2 ^ 16 * b2 + 2 ^ 24 * b3 + 2 ^ 32 * b4 + 2 ^ 40 * b5 < 2 ^ 48 by omega),
  bits_or _ (b7 * 2 ^ 56) (by omega) (by omega), or_shift _ _ _ (show b0 + 2 ^ 8 * b1 + 2 ^ 16 * b2 + 2 ^ 24 * b3 + 2 ^ 32 * b4 + 2 ^ 40 * b5 + 2 ^ 48 * b6 < 2 ^ 56 by omega)]
 congr 2
 unfold oct
 omega
theorem hasZ_bits (v : Nat) (hv : v < 2 ^ 64) : Go.bits .and .u64 (Go.bits .and .u64 (IntKind.u64.wrap ((v : Int) - 72340172838076673)) (Go.bits .xor .u64 (IntKind.max .u64) (v : Int))) 9259542123273814144 = ((hasZ v : Nat) : Int) := by
 have h1 : IntKind.u64.wrap ((v : Int) - 72340172838076673) = (((v + 2 ^ 64 - 72340172838076673) % 2 ^ 64 : Nat) : Int) := by
  simp only [IntKind.wrap, IntKind.bits, IntKind.signed, Bool.false_and, Bool.false_eq_true, if_false]
  omega
 have h2 : (IntKind.max .u64) = ((18446744073709551615 : Nat) : Int) := by decide
 have h3 : (9259542123273814144 : Int) = ((9259542123273814144 : Nat) : Int) := rfl
 have l1 : (v + 2 ^ 64 - 72340172838076673) % 2 ^ 64 < 2 ^ 64 := Nat.mod_lt _ (by decide)
 have l2 : 18446744073709551615 ^^^ v < 2 ^ 64 := Nat.xor_lt_two_pow (by decide) hv
 rw [h1, h2, h3, bits_xor _ _ (by decide) hv, bits_and _ _ l1 l2, bits_and _ _ (Nat.and_lt_two_pow _ l2) (by decide)]
 rfl
theorem hasZ_lt (v : Nat) : hasZ v < 2 ^ 64 := Nat.and_lt_two_pow _ (by decide)
theorem xor_self_ne {b q : Nat} (h : 0 < b ^^^ q) : b ≠ q := fun e => by subst e; simp at h
/-- Where the test of eight bytes is 0, none is a quote or a backslash. -/
theorem swar (l : List Int) (hb : BytesL l) (h : 7 < l.length) : ∃ t : Int, binary_littleEndian_Uint64.f l = some t ∧
  ((Go.bits .or .u64 (Go.bits .and .u64 (Go.bits .and .u64 (IntKind.u64.wrap ((Go.bits .xor .u64 t 2459565876494606882) - 72340172838076673)) (Go.bits .xor .u64 (IntKind.max .u64) (Go.bits .xor .u64 t 2459565876494606882))) 9259542123273814144)
   (Go.bits .and .u64 (Go.bits .and .u64 (IntKind.u64.wrap ((Go.bits .xor .u64 t 6655295901103053916) - 72340172838076673)) (Go.bits .xor .u64 (IntKind.max .u64) (Go.bits .xor .u64 t 6655295901103053916))) 9259542123273814144)) = 0 →
   ∀ j : Nat, j < 8 → rd l (j : Int) ≠ 34 ∧ rd l (j : Int) ≠ 92) := by
 obtain ⟨b0, b1, b2, b3, b4, b5, b6, b7, ⟨h0, h1, h2, h3, h4, h5, h6, h7⟩, ⟨e0, e1, e2, e3, e4, e5, e6, e7⟩, hf⟩ := le64 l hb h
 refine ⟨_, hf, fun hz => ?_⟩
 have hl := oct_lt b0 b1 b2 b3 b4 b5 b6 b7 h0 h1 h2 h3 h4 h5 h6 h7
 have q1 : (2459565876494606882 : Int) = ((oct 34 34 34 34 34 34 34 34 : Nat) : Int) := by decide
 have q2 : (6655295901103053916 : Int) = ((oct 92 92 92 92 92 92 92 92 : Nat) : Int) := by decide
 have x1 := oct_xor b0 b1 b2 b3 b4 b5 b6 b7 34 h0 h1 h2 h3 h4 h5 h6 h7 (by decide)
 have x2 := oct_xor b0 b1 b2 b3 b4 b5 b6 b7 92 h0 h1 h2 h3 h4 h5 h6 h7 (by decide)
 have lx : ∀ {b q : Nat}, b < 256 → q < 256 → b ^^^ q < 256 := fun hb hq => Nat.xor_lt_two_pow (n := 8) hb hq
 have l1 : oct (b0 ^^^ 34) (b1 ^^^ 34) (b2 ^^^ 34) (b3 ^^^ 34) (b4 ^^^ 34) (b5 ^^^ 34) (b6 ^^^ 34) (b7 ^^^ 34) < 2 ^ 64 := oct_lt _ _ _ _ _ _ _ _ (lx h0 (by decide)) (lx h1 (by decide)) (lx h2 (by decide)) (lx h3 (by decide)) (lx h4 (by decide)) (lx h5 (by decide)) (lx h6 (by decide)) (lx h7 (by decide))
 have l2 : oct (b0 ^^^ 92) (b1 ^^^ 92) (b2 ^^^ 92) (b3 ^^^ 92) (b4 ^^^ 92) (b5 ^^^ 92) (b6 ^^^ 92) (b7 ^^^ 92) < 2 ^ 64 := oct_lt _ _ _ _ _ _ _ _ (lx h0 (by decide)) (lx h1 (by decide)) (lx h2 (by decide)) (lx h3 (by decide)) (lx h4 (by decide)) (lx h5 (by decide)) (lx h6 (by decide)) (lx h7 (by decide))
 rw [q1, q2, bits_xor _ _ hl (by decide), bits_xor _ _ hl (by decide), x1, x2, hasZ_bits _ l1, hasZ_bits _ l2, bits_or _ _ (hasZ_lt _) (hasZ_lt _)] at hz
 have hz : (hasZ (oct (b0 ^^^ 34) (b1 ^^^ 34) (b2 ^^^ 34) (b3 ^^^ 34) (b4 ^^^ 34) (b5 ^^^ 34) (b6 ^^^ 34) (b7 ^^^ 34)) ||| hasZ (oct (b0 ^^^ 92) (b1 ^^^ 92) (b2 ^^^ 92) (b3 ^^^ 92) (b4 ^^^ 92) (b5 ^^^ 92) (b6 ^^^ 92) (b7 ^^^ 92))) = 0 := by omega
 obtain ⟨z1, z2⟩ := Nat.or_eq_zero_iff.mp hz
 obtain ⟨p0, p1, p2, p3, p4, p5, p6, p7⟩ := hasZ_oct _ _ _ _ _ _ _ _ (lx h0 (by decide)) (lx h1 (by decide)) (lx h2 (by decide)) (lx h3 (by decide)) (lx h4 (by decide)) (lx h5 (by decide)) (lx h6 (by decide)) (lx h7 (by decide)) z1
 obtain ⟨r0, r1, r2, r3, r4, r5, r6, r7⟩ := hasZ_oct _ _ _ _ _ _ _ _ (lx h0 (by decide)) (lx h1 (by decide)) (lx h2 (by decide)) (lx h3 (by decide)) (lx h4 (by decide)) (lx h5 (by decide)) (lx h6 (by decide)) (lx h7 (by decide)) z2
 have fin : ∀ (b : Nat) (x : Int), x = b → 0 < b ^^^ 34 → 0 < b ^^^ 92 → x ≠ 34 ∧ x ≠ 92 := fun b x e u v => by
  have := xor_self_ne u
  have := xor_self_ne v
  omega
 intro j hj
 match j, hj with
 | 0, _ => exact fin b0 _ e0 p0 r0
 | 1, _ => exact fin b1 _ e1 p1 r1
 | 2, _ => exact fin b2 _ e2 p2 r2
 | 3, _ => exact fin b3 _ e3 p3 r3
 | 4, _ => exact fin b4 _ e4 p4 r4
 | 5, _ => exact fin b5 _ e5 p5 r5
 | 6, _ => exact fin b6 _ e6 p6 r6
 | 7, _ => exact fin b7 _ e7 p7 r7
/-! ### Byte by byte -/
/-- How many backslashes stand right before a place. -/
def runB (data : List Int) : Nat → Nat
 | 0 => 0
 | p + 1 => if rd data (p : Int) = 92 then runB data p + 1 else 0
section
abbrev SE1 (data : List Int) (i : Nat) (fl : Bool) (R : Int × Bool) : Prop := Ev (fun k => jsonparser_stringEndConfig.l1 k data 34 (i : Int) (data.length : Int) fl) R
theorem se_l2 (data : List Int) (hn : data.length < 2 ^ 38) (i : Nat) (hi : i < data.length) (fl : Bool) : ∀ (p : Nat), p ≤ i →
  (runB data p % 2 = 0 → Ev (fun k => jsonparser_stringEndConfig.l2 k data 34 (i : Int) (data.length : Int) fl ((p : Int) - 1)) (((i + 1 : Nat) : Int), true)) ∧
  (runB data p % 2 = 1 → ∀ R, SE1 data (i + 1) fl R → Ev (fun k => jsonparser_stringEndConfig.l2 k data 34 (i : Int) (data.length : Int) fl ((p : Int) - 1)) R)
 | 0, _ => by
  refine ⟨fun _ => ⟨2, fun k hk => ?_⟩, fun h => by simp [runB] at h⟩
  obtain ⟨k, rfl⟩ : ∃ m, k = m + 2 := ⟨k - 2, by omega⟩
  simp only [jsonparser_stringEndConfig.l2, jsonparser_stringEndConfig.j4]
  rw [if_pos (by omega), if_true, w64_1 (by omega)]
 | 1, hp => by
  by_cases h : rd data 0 = 92
  ·have hr : runB data 1 = 1 := by simp [runB, h]
   refine ⟨fun h => by omega, fun _ R hR => ?_⟩
   obtain ⟨K, hK⟩ := hR
   refine ⟨K + 2, fun k hk => ?_⟩
   obtain ⟨k, rfl⟩ : ∃ m, k = m + 2 := ⟨k - 2, by omega⟩
   simp only [jsonparser_stringEndConfig.l2, jsonparser_stringEndConfig.j4]
   rw [if_neg (by omega), if_pos (by omega), if_pos (by omega), show (((1 : Nat) : Int) - 1) = 0 by omega, h, if_neg (by decide), Go.IntWalk.wrap64_in (0 - 1) (by omega), if_pos (by omega), w64_1 (by omega)]
   exact hK k (by omega)
  ·have hr : runB data 1 = 0 := by simp [runB, h]
   refine ⟨fun _ => ⟨2, fun k hk => ?_⟩, fun h => by omega⟩
   obtain ⟨k, rfl⟩ : ∃ m, k = m + 2 := ⟨k - 2, by omega⟩
   simp only [jsonparser_stringEndConfig.l2, jsonparser_stringEndConfig.j4]
   rw [if_neg (by omega), if_pos (by omega), if_pos (by omega), show (((1 : Nat) : Int) - 1) = 0 by omega, if_pos (by simpa using h), w64_1 (by omega)]
 | p + 2, hp => by
  have e1 : (((p + 2 : Nat) : Int) - 1) = ((p + 1 : Nat) : Int) := by omega
  by_cases h : rd data ((p + 1 : Nat) : Int) = 92
  ·have ww : wrap64 (((p + 1 : Nat) : Int) - 1) = (p : Int) := by rw [show (((p + 1 : Nat) : Int) - 1) = (p : Int) by omega]; exact w64n (by omega)
   by_cases h2 : rd data (p : Int) = 92
   ·have hr : runB data (p + 2) = runB data p + 2 := by
     show (if rd data ((p + 1 : Nat) : Int) = 92 then runB data (p + 1) + 1 else 0) = _
     rw [if_pos h]
     show (if rd data (p : Int) = 92 then runB data p + 1 else 0) + 1 = _
     rw [if_pos h2]
    obtain ⟨ih1, ih2⟩ := se_l2 data hn i hi fl p (by omega)
    have step : ∀ R, Ev (fun k => jsonparser_stringEndConfig.l2 k data 34 (i : Int) (data.length : Int) fl ((p : Int) - 1)) R → Ev (fun k => jsonparser_stringEndConfig.l2 k data 34 (i : Int) (data.length : Int) fl (((p + 2 : Nat) : Int) - 1)) R := by
     intro R hR
     obtain ⟨K, hK⟩ := hR
     refine ⟨K + 2, fun k hk => ?_⟩
     obtain ⟨k, rfl⟩ : ∃ m, k = m + 2 := ⟨k - 2, by omega⟩
     simp only [jsonparser_stringEndConfig.l2, jsonparser_stringEndConfig.j4]
     rw [if_neg (by omega), if_pos (by omega), if_pos (by omega), e1, h, if_neg (by decide), ww, if_neg (by omega), if_pos (by omega), if_pos (by omega), if_pos h2, Go.IntWalk.wrap64_in _ (by omega)]
     exact hK k (by omega)
    exact ⟨fun h => step _ (ih1 (by omega)), fun h R hR => step _ (ih2 (by omega) R hR)⟩
   ·have hr : runB data (p + 2) = 1 := by
     show (if rd data ((p + 1 : Nat) : Int) = 92 then runB data (p + 1) + 1 else 0) = _
     rw [if_pos h]
     show (if rd data (p : Int) = 92 then runB data p + 1 else 0) + 1 = _
     rw [if_neg h2]
    refine ⟨fun h => by omega, fun _ R hR => ?_⟩
    obtain ⟨K, hK⟩ := hR
    refine ⟨K + 2, fun k hk => ?_⟩
    obtain ⟨k, rfl⟩ : ∃ m, k = m + 2 := ⟨k - 2, by omega⟩
    simp only [jsonparser_stringEndConfig.l2, jsonparser_stringEndConfig.j4]
    rw [if_neg (by omega), if_pos (by omega), if_pos (by omega), e1, h, if_neg (by decide), ww, if_neg (by omega), if_pos (by omega), if_pos (by omega), if_neg h2, w64_1 (by omega)]
    exact hK k (by omega)
  ·have hr : runB data (p + 2) = 0 := by
    show (if rd data ((p + 1 : Nat) : Int) = 92 then runB data (p + 1) + 1 else 0) = _
    rw [if_neg h]
   refine ⟨fun _ => ⟨2, fun k hk => ?_⟩, fun h => by omega⟩
   obtain ⟨k, rfl⟩ : ∃ m, k = m + 2 := ⟨k - 2, by omega⟩
   simp only [jsonparser_stringEndConfig.l2, jsonparser_stringEndConfig.j4]
   rw [if_neg (by omega), if_pos (by omega), if_pos (by omega), e1, if_pos (by simpa using h), w64_1 (by omega)]
theorem se_skip (data : List Int) (hn : data.length < 2 ^ 38) {i : Nat} {c : Int} {r : List Int} (h : data.drop i = c :: r) (h1 : c ≠ 34) (h2 : c ≠ 92) (fl : Bool) (R : Int × Bool) (hR : SE1 data (i + 1) fl R) : SE1 data i fl R := by
 have hlt := drop_lt h
 obtain ⟨K, hK⟩ := hR
 dsimp only at hK
 refine ⟨K + 1, fun k hk => ?_⟩
 obtain ⟨k, rfl⟩ : ∃ m, k = m + 1 := ⟨k - 1, by omega⟩
 simp only [jsonparser_stringEndConfig.l1]
 rw [if_pos (by omega), if_pos (by omega), if_pos (by omega), rd_drop h, w64_1 (by omega), hK k (by omega)]
 by_cases h3 : c > 92
 ·rw [if_pos h3]
 ·rw [if_neg h3, if_neg h1, if_neg h2]
theorem se_bs (data : List Int) (hn : data.length < 2 ^ 38) {i : Nat} {r : List Int} (h : data.drop i = 92 :: r) (fl : Bool) (R : Int × Bool) (hR : SE1 data (i + 1) true R) : SE1 data i fl R := by
 have hlt := drop_lt h
 obtain ⟨K, hK⟩ := hR
 dsimp only at hK
 refine ⟨K + 1, fun k hk => ?_⟩
 obtain ⟨k, rfl⟩ : ∃ m, k = m + 1 := ⟨k - 1, by omega⟩
 simp only [jsonparser_stringEndConfig.l1]
 rw [if_pos (by omega), if_pos (by omega), if_pos (by omega), rd_drop h, if_neg (by decide), if_neg (by decide), if_pos rfl, w64_1 (by omega), hK k (by omega)]
theorem se_odd (data : List Int) (hn : data.length < 2 ^ 38) {i : Nat} {r : List Int} (h : data.drop i = 34 :: r) (ho : runB data i % 2 = 1) (R : Int × Bool) (hR : SE1 data (i + 1) true R) : SE1 data i true R := by
 have hlt := drop_lt h
 obtain ⟨K, hK⟩ := (se_l2 data hn i hlt true i (Nat.le_refl _)).2 ho R hR
 dsimp only at hK
 refine ⟨K + 1, fun k hk => ?_⟩
 obtain ⟨k, rfl⟩ : ∃ m, k = m + 1 := ⟨k - 1, by omega⟩
 simp only [jsonparser_stringEndConfig.l1]
 rw [if_pos (by omega), if_pos (by omega), if_pos (by omega), rd_drop h, if_neg (by decide), if_pos rfl, if_true, Go.IntWalk.wrap64_in _ (by omega), hK k (by omega)]
theorem se_end (data : List Int) (hn : data.length < 2 ^ 38) {i : Nat} {r : List Int} (h : data.drop i = 34 :: r) (he : runB data i % 2 = 0) (fl : Bool) : SE1 data i fl (((i + 1 : Nat) : Int), fl) := by
 have hlt := drop_lt h
 cases fl with
 | false =>
  refine ⟨1, fun k hk => ?_⟩
  obtain ⟨k, rfl⟩ : ∃ m, k = m + 1 := ⟨k - 1, by omega⟩
  simp only [jsonparser_stringEndConfig.l1]
  rw [if_pos (by omega), if_pos (by omega), if_pos (by omega), rd_drop h, if_neg (by decide), if_pos rfl, if_neg (by simp), w64_1 (by omega)]
 | true =>
  obtain ⟨K, hK⟩ := (se_l2 data hn i hlt true i (Nat.le_refl _)).1 he
  dsimp only at hK
  refine ⟨K + 1, fun k hk => ?_⟩
  obtain ⟨k, rfl⟩ : ∃ m, k = m + 1 := ⟨k - 1, by omega⟩
  simp only [jsonparser_stringEndConfig.l1]
  rw [if_pos (by omega), if_pos (by omega), if_pos (by omega), rd_drop h, if_neg (by decide), if_pos rfl, if_true, Go.IntWalk.wrap64_in _ (by omega), hK k (by omega)]
theorem runB_ne (data : List Int) {i : Nat} {c : Int} {r : List Int} (h : data.drop i = c :: r) (hc : c ≠ 92) : runB data (i + 1) = 0 := by
 show (if rd data (i : Int) = 92 then runB data i + 1 else 0) = 0
 rw [rd_drop h, if_neg hc]
theorem runB_bs (data : List Int) {i : Nat} {r : List Int} (h : data.drop i = 92 :: r) : runB data (i + 1) = runB data i + 1 := by
 show (if rd data (i : Int) = 92 then runB data i + 1 else 0) = _
 rw [rd_drop h, if_pos rfl]
theorem se_hex (data : List Int) (hn : data.length < 2 ^ 38) {i : Nat} {c : Int} {r : List Int} (h : data.drop i = c :: r) (hc : HexD c) (fl : Bool) (R : Int × Bool) (hR : SE1 data (i + 1) fl R) : SE1 data i fl R := by
 unfold HexD at hc
 exact se_skip data hn h (by omega) (by omega) fl R hR
/-- From a place between two units of a string on. -/
theorem se_body (data : List Int) (hn : data.length < 2 ^ 38) (q : List Int) {s : List Int} (hs : SB s) : ∀ (i : Nat) (fl : Bool), data.drop i = s ++ 34 :: q → runB data i % 2 = 0 → SE1 data i fl (((i + s.length + 1 : Nat) : Int), fl || decide (92 ∈ s)) := by
 induction hs with
 | nil =>
  intro i fl h he
  have := se_end data hn (r := q) h he fl
  simpa using this
 | chr c s h1 h2 h3 h4 hs ih =>
  intro i fl h he
  have h : data.drop i = c :: (s ++ 34 :: q) := h
  refine se_skip data hn h h3 h4 fl _ ?_
  have := ih (i + 1) fl (drop_next h) (by rw [runB_ne data h h4])
  rw [show i + (c :: s).length + 1 = i + 1 + s.length + 1 by simp; omega]
  have e : decide (92 ∈ c :: s) = decide (92 ∈ s) := by
   simp only [List.mem_cons, decide_eq_decide]
   exact ⟨fun h => h.resolve_left (fun e => h4 e.symm), .inr⟩
  rw [e]; exact this
 | esc e s he' hs ih =>
  intro i fl h he
  have h : data.drop i = 92 :: e :: (s ++ 34 :: q) := h
  have h1 := drop_next h
  refine se_bs data hn h fl _ ?_
  have hr := runB_bs data h
  rw [show i + (92 :: e :: s).length + 1 = i + 1 + 1 + s.length + 1 by simp; omega, show (fl || decide ((92 : Int) ∈ 92 :: e :: s)) = (true || decide (92 ∈ s)) by simp]
  have hih := ih (i + 1 + 1) true (drop_next h1)
  by_cases e1 : e = 34
  ·subst e1
   exact se_odd data hn h1 (by omega) _ (hih (by rw [runB_ne data h1 (by decide)]))
  ·by_cases e2 : e = 92
   ·subst e2
    exact se_bs data hn h1 true _ (hih (by rw [runB_bs data h1, hr]; omega))
   ·exact se_skip data hn h1 e1 e2 true _ (hih (by rw [runB_ne data h1 e2]))
 | uni a b c d s ha hb hc hd hs ih =>
  intro i fl h he
  have h : data.drop i = 92 :: 117 :: a :: b :: c :: d :: (s ++ 34 :: q) := h
  have h1 := drop_next h
  have h2 := drop_next h1
  have h3 := drop_next h2
  have h4 := drop_next h3
  have h5 := drop_next h4
  have h6 := drop_next h5
  rw [show i + (92 :: 117 :: a :: b :: c :: d :: s).length + 1 = i + 1 + 1 + 1 + 1 + 1 + 1 + s.length + 1 by simp; omega, show (fl || decide ((92 : Int) ∈ 92 :: 117 :: a :: b :: c :: d :: s)) = (true || decide (92 ∈ s)) by simp]
  refine se_bs data hn h fl _ (se_skip data hn h1 (by decide) (by decide) _ _ (se_hex data hn h2 ha _ _ (se_hex data hn h3 hb _ _ (se_hex data hn h4 hc _ _ (se_hex data hn h5 hd _ _ (ih _ true h6 ?_))))))
  have hd92 : d ≠ 92 := by unfold HexD at hd; omega
  rw [runB_ne data h5 hd92]
theorem SB.tail_clean {c : Int} {s : List Int} (h : SB (c :: s)) (hc : c ≠ 92) : SB s := by
 cases h with
 | chr _ _ _ _ _ _ hs => exact hs
 | esc e s he hs => exact absurd rfl hc
 | uni a b c d s _ _ _ _ hs => exact absurd rfl hc
/-- A place behind which the rest of the string's inside begins, ahead of which stand no quotes and no backslashes. -/
theorem SB.drop_clean (data : List Int) (q : List Int) : ∀ (m : Nat) (s : List Int) (i : Nat), SB s → data.drop i = s ++ 34 :: q → m ≤ s.length → (∀ j, j < m → rd data ((i + j : Nat) : Int) ≠ 92) → ∃ s', SB s' ∧ data.drop (i + m) = s' ++ 34 :: q ∧ s.length = s'.length + m ∧ (92 ∈ s ↔ 92 ∈ s')
 | 0, s, i, hs, h, _, _ => ⟨s, hs, h, rfl, Iff.rfl⟩
 | m + 1, [], i, hs, h, hm, _ => by simp at hm
 | m + 1, c :: s, i, hs, h, hm, hc => by
  have h : data.drop i = c :: (s ++ 34 :: q) := h
  have hc0 : c ≠ 92 := by
   have := hc 0 (by omega)
   rwa [Nat.add_zero, rd_drop h] at this
  obtain ⟨s', h1, h2, h3, h4⟩ := SB.drop_clean data q m s (i + 1) (hs.tail_clean hc0) (drop_next h) (by simp at hm; omega) (fun j hj => by
   have := hc (j + 1) (by omega)
   rwa [show i + (j + 1) = i + 1 + j by omega] at this)
  refine ⟨s', h1, by rw [show i + (m + 1) = i + 1 + m by omega]; exact h2, by simp; omega, ?_⟩
  rw [← h4]
  simp only [List.mem_cons]
  exact ⟨fun h => h.resolve_left (fun e => hc0 e.symm), .inr⟩
theorem runB_clean (data : List Int) : ∀ (m : Nat), (∀ j, j < m → rd data (j : Int) ≠ 92) → runB data m = 0
 | 0, _ => rfl
 | m + 1, h => by
  show (if rd data (m : Int) = 92 then runB data m + 1 else 0) = 0
  rw [if_neg (h m (by omega))]
theorem se_l0 (data : List Int) (hn : data.length < 2 ^ 38) (hb : BytesL data) (x8 : Int) (hx8 : x8 = 2459565876494606882) (p : Nat) (q : List Int) (hp : data.drop p = 34 :: q) (R : Int × Bool) (fin : ∀ i, i ≤ p → (∀ j, j < i → rd data (j : Int) ≠ 92) → Ev (fun k => jsonparser_stringEndConfig.j1 k data 34 (i : Int) (data.length : Int)) R) :
  ∀ (m i : Nat), p - i ≤ m → i ≤ p → (∀ j, j < i → rd data (j : Int) ≠ 92) → Ev (fun k => jsonparser_stringEndConfig.l0 k data 34 x8 6655295901103053916 (i : Int) (data.length : Int)) R := by
 subst hx8
 have hpl := drop_lt hp
 intro m
 induction m with
 | zero =>
  intro i hm hi hc
  have : i = p := by omega
  subst this
  obtain ⟨K, hK⟩ := fin i hi hc
  refine ⟨K + 1, fun k hk => ?_⟩
  obtain ⟨k, rfl⟩ : ∃ m, k = m + 1 := ⟨k - 1, by omega⟩
  simp only [jsonparser_stringEndConfig.l0]
  rw [show wrap64 ((i : Int) + 8) = ((i + 8 : Nat) : Int) from w64s (m := 8) (by omega)]
  by_cases h8 : ((i + 8 : Nat) : Int) ≤ (data.length : Int)
  ·rw [if_pos h8, if_pos (by omega), if_pos (by omega), Int.toNat_natCast]
   obtain ⟨t, ht, hz⟩ := swar (data.drop i) (hb.drop i) (by rw [List.length_drop]; omega)
   rw [ht]
   simp only [Option.bind_some]
   split
   ·rename_i h0
    exfalso
    have := (hz h0 0 (by omega)).1
    rw [hp] at this
    exact this rfl
   ·exact hK k (by omega)
  ·rw [if_neg h8]
   exact hK k (by omega)
 | succ m ih =>
  intro i hm hi hc
  obtain ⟨K, hK⟩ := fin i hi hc
  by_cases h8 : ((i + 8 : Nat) : Int) ≤ (data.length : Int)
  ·obtain ⟨t, ht, hz⟩ := swar (data.drop i) (hb.drop i) (by rw [List.length_drop]; omega)
   by_cases h0 : (Go.bits .or .u64 (Go.bits .and .u64 (Go.bits .and .u64 (IntKind.u64.wrap ((Go.bits .xor .u64 t 2459565876494606882) - 72340172838076673)) (Go.bits .xor .u64 (IntKind.max .u64) (Go.bits .xor .u64 t 2459565876494606882))) 9259542123273814144)
   (Go.bits .and .u64 (Go.bits .and .u64 (IntKind.u64.wrap ((Go.bits .xor .u64 t 6655295901103053916) - 72340172838076673)) (Go.bits .xor .u64 (IntKind.max .u64) (Go.bits .xor .u64 t 6655295901103053916))) 9259542123273814144)) = 0
   ·have hz := hz h0
    have hrd : ∀ j : Nat, rd (data.drop i) (j : Int) = rd data ((i + j : Nat) : Int) := by
     intro j
     simp [rd, List.getD_eq_getElem?_getD, List.getElem?_drop]
     rw [show ((i : Int) + (j : Int)).toNat = i + j by omega]
    have h8p : i + 8 ≤ p := by
     rcases Nat.lt_or_ge p (i + 8) with h | h
     ·exfalso
      have h1 := (hz (p - i) (by omega)).1
      rw [hrd, show i + (p - i) = p by omega, rd_drop hp] at h1
      exact h1 rfl
     ·exact h
    obtain ⟨K', hK'⟩ := ih (i + 8) (by omega) h8p (fun j hj => by
     rcases Nat.lt_or_ge j i with h | h
     ·exact hc j h
     ·have := (hz (j - i) (by omega)).2
      rwa [hrd, show i + (j - i) = j by omega] at this)
    refine ⟨K' + 1, fun k hk => ?_⟩
    obtain ⟨k, rfl⟩ : ∃ m, k = m + 1 := ⟨k - 1, by omega⟩
    simp only [jsonparser_stringEndConfig.l0]
    rw [show wrap64 ((i : Int) + 8) = ((i + 8 : Nat) : Int) from w64s (m := 8) (by omega), if_pos h8, if_pos (by omega), if_pos (by omega), Int.toNat_natCast, ht]
    simp only [Option.bind_some]
    rw [if_pos h0]
    exact hK' k (by omega)
   ·refine ⟨K + 1, fun k hk => ?_⟩
    obtain ⟨k, rfl⟩ : ∃ m, k = m + 1 := ⟨k - 1, by omega⟩
    simp only [jsonparser_stringEndConfig.l0]
    rw [show wrap64 ((i : Int) + 8) = ((i + 8 : Nat) : Int) from w64s (m := 8) (by omega), if_pos h8, if_pos (by omega), if_pos (by omega), Int.toNat_natCast, ht]
    simp only [Option.bind_some]
    rw [if_neg h0]
    exact hK k (by omega)
  ·refine ⟨K + 1, fun k hk => ?_⟩
   obtain ⟨k, rfl⟩ : ∃ m, k = m + 1 := ⟨k - 1, by omega⟩
   simp only [jsonparser_stringEndConfig.l0]
   rw [show wrap64 ((i : Int) + 8) = ((i + 8 : Nat) : Int) from w64s (m := 8) (by omega), if_neg h8]
   exact hK k (by omega)
end
/-- Where a string ends, from behind its opening quote on. -/
theorem strEnd_f (s q : List Int) (hs : SB s) (hn : (s ++ 34 :: q).length < 2 ^ 38) (hb : BytesL (s ++ 34 :: q)) : Ev (fun k => jsonparser_stringEndConfig.f k false false 0 (s ++ 34 :: q) 34) (((s.length + 1 : Nat) : Int), decide (92 ∈ s)) := by
 generalize hd : s ++ 34 :: q = data at hn hb ⊢
 have hp : data.drop s.length = 34 :: q := by rw [← hd]; simp
 have main := se_l0 data hn hb (IntKind.u64.wrap ((IntKind.u64.wrap (34)) * 72340172838076673)) (by decide) s.length q hp (((s.length + 1 : Nat) : Int), decide (92 ∈ s)) (fun i hi hc => ?_) s.length 0 (by omega) (by omega) (fun j hj => by omega)
 ·exact main
 ·obtain ⟨s', h1, h2, h3, h4⟩ := SB.drop_clean data q i s 0 hs (by rw [List.drop_zero, hd]) hi (fun j hj => by rw [Nat.zero_add]; exact hc j hj)
  rw [Nat.zero_add] at h2
  obtain ⟨K, hK⟩ := se_body data hn q h1 i false h2 (by rw [runB_clean data i hc])
  refine ⟨K + 1, fun k hk => ?_⟩
  obtain ⟨k, rfl⟩ : ∃ m, k = m + 1 := ⟨k - 1, by omega⟩
  simp only [jsonparser_stringEndConfig.j1]
  have := hK k (by omega)
  dsimp only at this
  rw [this]
  have e : decide ((92 : Int) ∈ s) = decide (92 ∈ s') := by simp only [decide_eq_decide]; exact h4
  rw [e, show i + s'.length + 1 = s.length + 1 by omega]; rfl
section
abbrev BE (data : List Int) (a b : Int) (d i R : Nat) : Prop := Ev (fun k => jsonparser_blockEndConfig.l0 k data a b (d : Int) (i : Int) (data.length : Int) false false 0) (R : Int)
abbrev BF (data : List Int) (a b : Int) (d i R : Nat) : Prop := Ev (fun k => jsonparser_blockEndConfig.l1 k data a b (d : Int) (i : Int) (data.length : Int) false false 0) (R : Int)
def BB (data : List Int) (a b : Int) (d i R : Nat) : Prop := BE data a b d i R ∧ BF data a b d i R
theorem bb_of (data : List Int) (a : Int) (b : Int) {d i R : Nat} (hi : i < data.length) (h : BF data a b d i R) : BB data a b d i R := by
 refine ⟨?_, h⟩
 obtain ⟨K, hK⟩ := h
 refine ⟨K + 1, fun k hk => ?_⟩
 obtain ⟨k, rfl⟩ : ∃ m, k = m + 1 := ⟨k - 1, by omega⟩
 dsimp only
 rw [jsonparser_blockEndConfig.l0, if_pos (by omega)]
 exact hK k (by omega)
theorem bb_skip (data : List Int) (hn : data.length < 2 ^ 38) (a : Int) (b : Int) {d i R : Nat} {c : Int} {r : List Int} (h : data.drop i = c :: r) (h1 : c ≠ 34) (h2 : c ≠ a) (h3 : c ≠ b) (hR : BB data a b d (i + 1) R) : BB data a b d i R := by
 have hlt := drop_lt h
 obtain ⟨⟨K, hK⟩, ⟨K', hK'⟩⟩ := hR
 dsimp only at hK hK'
 refine bb_of data a b hlt ⟨K + K' + 5, fun k hk => ?_⟩
 obtain ⟨k, rfl⟩ : ∃ m, k = m + 5 := ⟨k - 5, by omega⟩
 dsimp only
 have e1 : rd data (i : Int) = c := rd_drop h
 rw [jsonparser_blockEndConfig.l1, if_pos (by omega), if_pos (by omega), if_pos (by omega), e1, w64_1 (by omega)]
 by_cases h4 : c ≤ 32
 ·rw [if_pos h4, hK' _ (by omega)]
 ·rw [if_neg h4]
  have hj : jsonparser_blockEndConfig.j2 (k + 4) data a b (d : Int) (i : Int) (data.length : Int) false false 0 = some (R : Int) := by
   rw [jsonparser_blockEndConfig.j2, if_neg (by omega), if_pos (by omega), if_pos (by omega), e1, if_neg h1, jsonparser_blockEndConfig.j3]
   by_cases h5 : c = 39
   ·rw [if_pos (by rw [h5]; rfl), if_pos (by omega), if_pos (by omega), e1, if_pos h5, jsonparser_blockEndConfig.j4, if_pos (by decide), w64_1 (by omega), hK _ (by omega)]
   ·rw [if_neg (by simpa using h5), if_neg h2, if_neg h3, w64_1 (by omega), hK _ (by omega)]
  by_cases h6 : c > 92
  ·rw [if_pos h6, if_neg h2, if_neg h3, hK' _ (by omega)]
  ·rw [if_neg h6, hj]
theorem bb_open (data : List Int) (hn : data.length < 2 ^ 38) (a : Int) (b : Int) (hab : a = 91 ∧ b = 93 ∨ a = 123 ∧ b = 125) {d i R : Nat} {r : List Int} (hd : d < 2 ^ 38) (h : data.drop i = a :: r) (hR : BB data a b (d + 1) (i + 1) R) : BB data a b d i R := by
 have hlt := drop_lt h
 obtain ⟨⟨K, hK⟩, ⟨K', hK'⟩⟩ := hR
 dsimp only at hK hK'
 refine bb_of data a b hlt ⟨K + K' + 5, fun k hk => ?_⟩
 obtain ⟨k, rfl⟩ : ∃ m, k = m + 5 := ⟨k - 5, by omega⟩
 dsimp only
 have e1 : rd data (i : Int) = a := rd_drop h
 have hj : jsonparser_blockEndConfig.j2 (k + 4) data a b (d : Int) (i : Int) (data.length : Int) false false 0 = some (R : Int) := by
  rw [jsonparser_blockEndConfig.j2, if_neg (by omega), if_pos (by omega), if_pos (by omega), e1, if_neg (by omega), jsonparser_blockEndConfig.j3,
   if_neg (by simp; omega), if_pos rfl, w64_1 (by omega), w64_1 (by omega), hK _ (by omega)]
 rw [jsonparser_blockEndConfig.l1, if_pos (by omega), if_pos (by omega), if_pos (by omega), e1, if_neg (by omega)]
 by_cases h6 : a > 92
 ·rw [if_pos h6, if_pos rfl, hj]
 ·rw [if_neg h6, hj]
/-- What follows a closing byte: the search goes on, or ends here. -/
def Fin (data : List Int) (a b : Int) (d i R : Nat) : Prop := (1 ≤ d ∧ BB data a b d i R) ∨ (d = 0 ∧ R = i)
theorem bb_close (data : List Int) (hn : data.length < 2 ^ 38) (a : Int) (b : Int) (hab : a = 91 ∧ b = 93 ∨ a = 123 ∧ b = 125) {d i R : Nat} {r : List Int} (hd : d < 2 ^ 38) (h : data.drop i = b :: r) (hR : Fin data a b d (i + 1) R) : BB data a b (d + 1) i R := by
 have hlt := drop_lt h
 have e1 : rd data (i : Int) = b := rd_drop h
 have ew : wrap64 (((d + 1 : Nat) : Int) - 1) = (d : Int) := by rw [Int.natCast_add]; show wrap64 ((d : Int) + 1 - 1) = _; rw [Int.add_sub_cancel]; exact w64n (by omega)
 have key : ∃ K, ∀ k, K ≤ k → jsonparser_blockEndConfig.j2 k data a b ((d + 1 : Nat) : Int) (i : Int) (data.length : Int) false false 0 = some (R : Int) := by
  have step : ∀ k, jsonparser_blockEndConfig.j2 (k + 2) data a b ((d + 1 : Nat) : Int) (i : Int) (data.length : Int) false false 0 =
    if (d : Int) = 0 then some ((i + 1 : Nat) : Int) else jsonparser_blockEndConfig.l0 k data a b (d : Int) ((i + 1 : Nat) : Int) (data.length : Int) false false 0 := fun k => by
   rw [jsonparser_blockEndConfig.j2, if_neg (by omega), if_pos (by omega), if_pos (by omega), e1, if_neg (by omega), jsonparser_blockEndConfig.j3,
    if_neg (by simp; omega), if_neg (by omega), if_pos rfl, ew, w64_1 (by omega)]
  rcases hR with ⟨h1, ⟨K, hK⟩, _⟩ | ⟨h1, h2⟩
  ·refine ⟨K + 2, fun k hk => ?_⟩
   obtain ⟨k, rfl⟩ : ∃ m, k = m + 2 := ⟨k - 2, by omega⟩
   rw [step, if_neg (by omega)]
   exact hK k (by omega)
  ·refine ⟨2, fun k hk => ?_⟩
   obtain ⟨k, rfl⟩ : ∃ m, k = m + 2 := ⟨k - 2, by omega⟩
   rw [step, if_pos (by omega), h2]
 obtain ⟨K, hK⟩ := key
 refine bb_of data a b hlt ⟨K + 1, fun k hk => ?_⟩
 obtain ⟨k, rfl⟩ : ∃ m, k = m + 1 := ⟨k - 1, by omega⟩
 dsimp only
 rw [jsonparser_blockEndConfig.l1, if_pos (by omega), if_pos (by omega), if_pos (by omega), e1, if_neg (by omega)]
 by_cases h6 : b > 92
 ·rw [if_pos h6, if_neg (by omega), if_pos rfl, hK _ (by omega)]
 ·rw [if_neg h6, hK _ (by omega)]
theorem bb_str (data : List Int) (hn : data.length < 2 ^ 38) (hb : BytesL data) (a : Int) (b : Int) {d i R : Nat} {s q : List Int} (h : data.drop i = 34 :: (s ++ 34 :: q)) (hs : SB s) (hR : BB data a b d (i + (s.length + 2)) R) : BB data a b d i R := by
 have hlt := drop_lt h
 have e1 : rd data (i : Int) = 34 := rd_drop h
 have h2 : data.drop (i + 1) = s ++ 34 :: q := drop_next h
 have hl := drop_len h2 (by omega)
 rw [List.length_append, List.length_cons] at hl
 obtain ⟨Ks, hKs⟩ := strEnd_f s q hs (by rw [← h2, List.length_drop]; omega) (by rw [← h2]; exact hb.drop _)
 obtain ⟨⟨K, hK⟩, _⟩ := hR
 dsimp only at hK hKs
 have hj : ∀ k, K + Ks ≤ k → jsonparser_blockEndConfig.j2 (k + 3) data a b (d : Int) (i : Int) (data.length : Int) false false 0 = some (R : Int) := fun k hk => by
  rw [jsonparser_blockEndConfig.j2, if_neg (by omega), if_pos (by omega), if_pos (by omega), e1, if_pos rfl, jsonparser_blockEndConfig.j3, if_pos (by decide), if_pos (by omega), if_pos (by omega), e1,
   if_neg (by omega), jsonparser_blockEndConfig.j4, if_neg (by simp), w64_1 (by omega), if_pos (by omega), if_pos (by omega), Int.toNat_natCast, h2, hKs k (by omega), Option.bind_some]
  rw [if_neg (by omega), w64s (by omega), w64_1 (by omega)]
  exact hK k (by omega)
 refine bb_of data a b hlt ⟨K + Ks + 4, fun k hk => ?_⟩
 obtain ⟨k, rfl⟩ : ∃ m, k = m + 4 := ⟨k - 4, by omega⟩
 dsimp only
 rw [jsonparser_blockEndConfig.l1, if_pos (by omega), if_pos (by omega), if_pos (by omega), e1, if_neg (by omega), if_neg (by omega), hj k (by omega)]
theorem bb_run (data : List Int) (hn : data.length < 2 ^ 38) (a : Int) (b : Int) (hab : a = 91 ∧ b = 93 ∨ a = 123 ∧ b = 125) {d R : Nat} {r : List Int} : ∀ (w : List Int) (i : Nat), data.drop i = w ++ r → (∀ c ∈ w, c ≠ 34 ∧ c ≠ 91 ∧ c ≠ 93 ∧ c ≠ 123 ∧ c ≠ 125) → BB data a b d (i + w.length) R → BB data a b d i R
 | [], i, h, hw, hR => hR
 | c :: w, i, h, hw, hR => by
  have hc := hw c List.mem_cons_self
  refine bb_skip data hn a b h hc.1 (by omega) (by omega) (bb_run data hn a b hab w (i + 1) (drop_next h) (fun x hx => hw x (List.mem_cons_of_mem _ hx)) ?_)
  rw [show i + 1 + w.length = i + (c :: w).length by rw [List.length_cons]; omega]
  exact hR
theorem bb_ws (data : List Int) (hn : data.length < 2 ^ 38) (a : Int) (b : Int) (hab : a = 91 ∧ b = 93 ∨ a = 123 ∧ b = 125) {d R i : Nat} {r w : List Int} (h : data.drop i = w ++ r) (hw : Ws w) (hR : BB data a b d (i + w.length) R) : BB data a b d i R :=
 bb_run data hn a b hab w i h (fun c hc => by have := hw c hc; unfold Blk at this; omega) hR
/-- One deeper inside an array, or not. -/
def dA (a : Int) : Nat := if a = 91 then 1 else 0
def dO (a : Int) : Nat := if a = 123 then 1 else 0
theorem bb_openA (data : List Int) (hn : data.length < 2 ^ 38) (a : Int) (b : Int) (hab : a = 91 ∧ b = 93 ∨ a = 123 ∧ b = 125) {d i R : Nat} {r : List Int} (hd : d ≤ i) (h : data.drop i = 91 :: r) (hR : BB data a b (d + dA a) (i + 1) R) : BB data a b d i R := by
 have hlt := drop_lt h
 unfold dA at hR
 rcases hab with ⟨rfl, rfl⟩ | ⟨rfl, rfl⟩
 ·exact bb_open data hn 91 93 (by omega) (by omega) h hR
 ·exact bb_skip data hn 123 125 h (by omega) (by omega) (by omega) hR
theorem bb_openO (data : List Int) (hn : data.length < 2 ^ 38) (a : Int) (b : Int) (hab : a = 91 ∧ b = 93 ∨ a = 123 ∧ b = 125) {d i R : Nat} {r : List Int} (hd : d ≤ i) (h : data.drop i = 123 :: r) (hR : BB data a b (d + dO a) (i + 1) R) : BB data a b d i R := by
 have hlt := drop_lt h
 unfold dO at hR
 rcases hab with ⟨rfl, rfl⟩ | ⟨rfl, rfl⟩
 ·exact bb_skip data hn 91 93 h (by omega) (by omega) (by omega) hR
 ·exact bb_open data hn 123 125 (by omega) (by omega) h hR
theorem bb_closeA (data : List Int) (hn : data.length < 2 ^ 38) (a : Int) (b : Int) (hab : a = 91 ∧ b = 93 ∨ a = 123 ∧ b = 125) {d i R : Nat} {r : List Int} (hd1 : 1 ≤ d + dA a) (hd : d + dA a ≤ i) (h : data.drop i = 93 :: r) (hR : Fin data a b d (i + 1) R) : BB data a b (d + dA a) i R := by
 have hlt := drop_lt h
 unfold dA at hd hd1 ⊢
 rcases hab with ⟨rfl, rfl⟩ | ⟨rfl, rfl⟩
 ·exact bb_close data hn 91 93 (by omega) (by omega) h hR
 ·rcases hR with ⟨_, hR⟩ | ⟨h1, _⟩
  ·exact bb_skip data hn 123 125 h (by omega) (by omega) (by omega) hR
  ·simp at hd1; omega
theorem bb_closeO (data : List Int) (hn : data.length < 2 ^ 38) (a : Int) (b : Int) (hab : a = 91 ∧ b = 93 ∨ a = 123 ∧ b = 125) {d i R : Nat} {r : List Int} (hd1 : 1 ≤ d + dO a) (hd : d + dO a ≤ i) (h : data.drop i = 125 :: r) (hR : Fin data a b d (i + 1) R) : BB data a b (d + dO a) i R := by
 have hlt := drop_lt h
 unfold dO at hd hd1 ⊢
 rcases hab with ⟨rfl, rfl⟩ | ⟨rfl, rfl⟩
 ·rcases hR with ⟨_, hR⟩ | ⟨h1, _⟩
  ·exact bb_skip data hn 91 93 h (by omega) (by omega) (by omega) hR
  ·simp at hd1; omega
 ·exact bb_close data hn 123 125 (by omega) (by omega) h hR
def PV (data : List Int) (a b : Int) (l : List Int) : Prop := ∀ (d i R : Nat) (q : List Int), data.drop i = l ++ q → 1 ≤ d → d ≤ i → BB data a b d (i + l.length) R → BB data a b d i R
def PE (data : List Int) (a b : Int) (e : Nat) (l : List Int) : Prop := ∀ (d i R : Nat) (q : List Int), data.drop i = l ++ q → 1 ≤ d + e → d + e ≤ i → Fin data a b d (i + l.length) R → BB data a b (d + e) i R
theorem Fin.at (data : List Int) (a : Int) (b : Int) {d i j R : Nat} (h : Fin data a b d i R) (e : i = j) : Fin data a b d j R := e ▸ h
theorem bb_at (data : List Int) (a : Int) (b : Int) {d i j R : Nat} (h : BB data a b d i R) (e : i = j) : BB data a b d j R := e ▸ h
theorem pe_last (data : List Int) (hn : data.length < 2 ^ 38) (hb : BytesL data) (a : Int) (b : Int) (hab : a = 91 ∧ b = 93 ∨ a = 123 ∧ b = 125) {l w : List Int} (hl : PV data a b l) (hw : Ws w) : PE data a b (dA a) (l ++ (w ++ [93])) := fun d i R q h h1 h2 hR => by
 rw [List.append_assoc, List.append_assoc] at h
 have h3 := drop_app h
 have h4 := drop_app h3
 refine hl (d + dA a) i R _ h h1 h2 (bb_ws data hn a b hab h3 hw (bb_closeA data hn a b hab h1 (by omega) h4 (Fin.at data a b hR ?_)))
 simp only [List.length_append, List.length_cons, List.length_nil]; omega
theorem pe_more (data : List Int) (hn : data.length < 2 ^ 38) (hb : BytesL data) (a : Int) (b : Int) (hab : a = 91 ∧ b = 93 ∨ a = 123 ∧ b = 125) {l w1 w2 r : List Int} (hl : PV data a b l) (hw1 : Ws w1) (hw2 : Ws w2) (hr : PE data a b (dA a) r) : PE data a b (dA a) (l ++ (w1 ++ 44 :: (w2 ++ r))) := fun d i R q h h1 h2 hR => by
 simp only [List.append_assoc, List.cons_append] at h
 have h3 := drop_app h
 have h4 := drop_app h3
 have h5 := drop_next h4
 have h6 := drop_app h5
 refine hl (d + dA a) i R _ h h1 h2 (bb_ws data hn a b hab h3 hw1 (bb_skip data hn a b h4 (by omega) (by omega) (by omega) (bb_ws data hn a b hab h5 hw2 (hr d _ R q h6 h1 (by omega) (Fin.at data a b hR ?_)))))
 simp only [List.length_append, List.length_cons, List.length_nil]; omega
theorem pm_head (data : List Int) (hn : data.length < 2 ^ 38) (hb : BytesL data) (a : Int) (b : Int) (hab : a = 91 ∧ b = 93 ∨ a = 123 ∧ b = 125) {s w1 w2 l : List Int} {R d i : Nat} {q : List Int} (hs : SB s) (hw1 : Ws w1) (hw2 : Ws w2) (hl : PV data a b l) (h : data.drop i = 34 :: (s ++ 34 :: (w1 ++ 58 :: (w2 ++ (l ++ q))))) (h1 : 1 ≤ d) (h2 : d ≤ i)
  (hR : BB data a b d (i + (s.length + 2 + w1.length + 1 + w2.length + l.length)) R) : BB data a b d i R := by
 have h3 := drop_next h
 have h4 := drop_next (drop_app h3)
 have h5 := drop_app h4
 have h6 := drop_next h5
 have h7 := drop_app h6
 refine bb_str data hn hb a b h hs ?_
 refine bb_at data a b ?_ (show i + 1 + s.length + 1 = i + (s.length + 2) by omega)
 refine bb_ws data hn a b hab h4 hw1 (bb_skip data hn a b h5 (by omega) (by omega) (by omega) (bb_ws data hn a b hab h6 hw2 (hl d _ R _ h7 h1 (by omega) (bb_at data a b hR ?_))))
 omega
theorem pm_last (data : List Int) (hn : data.length < 2 ^ 38) (hb : BytesL data) (a : Int) (b : Int) (hab : a = 91 ∧ b = 93 ∨ a = 123 ∧ b = 125) {s w1 w2 l w3 : List Int} (hs : SB s) (hw1 : Ws w1) (hw2 : Ws w2) (hl : PV data a b l) (hw3 : Ws w3) : PE data a b (dO a) (34 :: (s ++ 34 :: (w1 ++ 58 :: (w2 ++ (l ++ (w3 ++ [125])))))) := fun d i R q h h1 h2 hR => by
 simp only [List.append_assoc, List.cons_append] at h
 have h3 := drop_next h
 have h4 := drop_next (drop_app h3)
 have h5 := drop_app h4
 have h6 := drop_next h5
 have h7 := drop_app h6
 have h8 := drop_app h7
 have h9 := drop_app h8
 refine pm_head data hn hb a b hab hs hw1 hw2 hl h h1 h2 (bb_at data a b (bb_ws data hn a b hab h8 hw3 (bb_closeO data hn a b hab h1 (by omega) h9 (Fin.at data a b hR ?_))) (by omega))
 simp only [List.length_append, List.length_cons, List.length_nil]; omega
theorem pm_more (data : List Int) (hn : data.length < 2 ^ 38) (hb : BytesL data) (a : Int) (b : Int) (hab : a = 91 ∧ b = 93 ∨ a = 123 ∧ b = 125) {s w1 w2 l w3 w4 r : List Int} (hs : SB s) (hw1 : Ws w1) (hw2 : Ws w2) (hl : PV data a b l) (hw3 : Ws w3) (hw4 : Ws w4) (hr : PE data a b (dO a) r) :
  PE data a b (dO a) (34 :: (s ++ 34 :: (w1 ++ 58 :: (w2 ++ (l ++ (w3 ++ 44 :: (w4 ++ r))))))) := fun d i R q h h1 h2 hR => by
 simp only [List.append_assoc, List.cons_append] at h
 have h3 := drop_next h
 have h4 := drop_next (drop_app h3)
 have h5 := drop_app h4
 have h6 := drop_next h5
 have h7 := drop_app h6
 have h8 := drop_app h7
 have h9 := drop_app h8
 have h10 := drop_next h9
 have h11 := drop_app h10
 refine pm_head data hn hb a b hab hs hw1 hw2 hl h h1 h2 (bb_at data a b (bb_ws data hn a b hab h8 hw3 (bb_skip data hn a b h9 (by omega) (by omega) (by omega) (bb_ws data hn a b hab h10 hw4 (hr d _ R q h11 h1 (by omega) (Fin.at data a b hR ?_))))) (by omega))
 simp only [List.length_append, List.length_cons, List.length_nil]; omega
theorem pv_atom (data : List Int) (hn : data.length < 2 ^ 38) (a : Int) (b : Int) (hab : a = 91 ∧ b = 93 ∨ a = 123 ∧ b = 125) {l : List Int} (h : AtomOk l) : PV data a b l := fun d i R q hd _ _ hR => by
 refine bb_run data hn a b hab l i hd (fun c hc => ?_) hR
 rcases h with rfl | rfl | rfl | ⟨h, _⟩
 ·revert c; decide
 ·revert c; decide
 ·revert c; decide
 ·have := h c hc; unfold NumC at this; omega
theorem pv_str (data : List Int) (hn : data.length < 2 ^ 38) (hb : BytesL data) (a : Int) (b : Int) {s : List Int} (hs : SB s) : PV data a b (34 :: (s ++ [34])) := fun d i R q hd _ _ hR => by
 simp only [List.append_assoc, List.cons_append, List.nil_append] at hd
 exact bb_str data hn hb a b hd hs (bb_at data a b hR (by simp only [List.length_append, List.length_cons, List.length_nil]))
theorem fin_of (data : List Int) (a : Int) (b : Int) {d i R : Nat} (h1 : 1 ≤ d) (h : BB data a b d i R) : Fin data a b d i R := .inl ⟨h1, h⟩
theorem pe_arr0 (data : List Int) (hn : data.length < 2 ^ 38) (a : Int) (b : Int) (hab : a = 91 ∧ b = 93 ∨ a = 123 ∧ b = 125) {w : List Int} (hw : Ws w) {d i R : Nat} {q : List Int} (h : data.drop i = 91 :: (w ++ 93 :: q)) (h1 : 1 ≤ d + dA a) (h2 : d ≤ i) (hR : Fin data a b d (i + (w.length + 2)) R) : BB data a b d i R := by
 have h3 := drop_next h
 refine bb_openA data hn a b hab h2 h (bb_ws data hn a b hab h3 hw (bb_closeA data hn a b hab h1 ?_ (drop_app h3) (Fin.at data a b hR (by omega))))
 have : dA a ≤ 1 := by unfold dA; split <;> omega
 omega
theorem pe_arr (data : List Int) (hn : data.length < 2 ^ 38) (a : Int) (b : Int) (hab : a = 91 ∧ b = 93 ∨ a = 123 ∧ b = 125) {w l : List Int} (hw : Ws w) (hl : PE data a b (dA a) l) {d i R : Nat} {q : List Int} (h : data.drop i = 91 :: (w ++ (l ++ q))) (h1 : 1 ≤ d + dA a) (h2 : d ≤ i) (hR : Fin data a b d (i + (w.length + l.length + 1)) R) : BB data a b d i R := by
 have h3 := drop_next h
 have : dA a ≤ 1 := by unfold dA; split <;> omega
 exact bb_openA data hn a b hab h2 h (bb_ws data hn a b hab h3 hw (hl d _ R q (drop_app h3) h1 (by omega) (Fin.at data a b hR (by omega))))
theorem pe_obj0 (data : List Int) (hn : data.length < 2 ^ 38) (a : Int) (b : Int) (hab : a = 91 ∧ b = 93 ∨ a = 123 ∧ b = 125) {w : List Int} (hw : Ws w) {d i R : Nat} {q : List Int} (h : data.drop i = 123 :: (w ++ 125 :: q)) (h1 : 1 ≤ d + dO a) (h2 : d ≤ i) (hR : Fin data a b d (i + (w.length + 2)) R) : BB data a b d i R := by
 have h3 := drop_next h
 refine bb_openO data hn a b hab h2 h (bb_ws data hn a b hab h3 hw (bb_closeO data hn a b hab h1 ?_ (drop_app h3) (Fin.at data a b hR (by omega))))
 have : dO a ≤ 1 := by unfold dO; split <;> omega
 omega
theorem pe_obj (data : List Int) (hn : data.length < 2 ^ 38) (a : Int) (b : Int) (hab : a = 91 ∧ b = 93 ∨ a = 123 ∧ b = 125) {w l : List Int} (hw : Ws w) (hl : PE data a b (dO a) l) {d i R : Nat} {q : List Int} (h : data.drop i = 123 :: (w ++ (l ++ q))) (h1 : 1 ≤ d + dO a) (h2 : d ≤ i) (hR : Fin data a b d (i + (w.length + l.length + 1)) R) : BB data a b d i R := by
 have h3 := drop_next h
 have : dO a ≤ 1 := by unfold dO; split <;> omega
 exact bb_openO data hn a b hab h2 h (bb_ws data hn a b hab h3 hw (hl d _ R q (drop_app h3) h1 (by omega) (Fin.at data a b hR (by omega))))
theorem pv_all (data : List Int) (hn : data.length < 2 ^ 38) (hb : BytesL data) (a : Int) (b : Int) (hab : a = 91 ∧ b = 93 ∨ a = 123 ∧ b = 125) {l : List Int} {j : J} (h : V l j) : PV data a b l := by
 refine V.rec (motive_1 := fun l j _ => PV data a b l) (motive_2 := fun l ks _ => PE data a b (dA a) l) (motive_3 := fun l ms _ => PE data a b (dO a) l) ?_ ?_ ?_ ?_ ?_ ?_ ?_ ?_ ?_ ?_ h
 ·exact fun l hl => pv_atom data hn a b hab hl
 ·exact fun s hs => pv_str data hn hb a b hs
 ·exact fun w hw d i R q hd h1 h2 hR => pe_arr0 data hn a b hab hw (by simpa using hd) (by omega) h2 (fin_of data a b h1 (bb_at data a b hR (by simp)))
 ·exact fun w l ks hw _ hl d i R q hd h1 h2 hR => pe_arr data hn a b hab hw hl (by simpa using hd) (by omega) h2 (fin_of data a b h1 (bb_at data a b hR (by simp)))
 ·exact fun w hw d i R q hd h1 h2 hR => pe_obj0 data hn a b hab hw (by simpa using hd) (by omega) h2 (fin_of data a b h1 (bb_at data a b hR (by simp)))
 ·exact fun w l ks hw _ hl d i R q hd h1 h2 hR => pe_obj data hn a b hab hw hl (by simpa using hd) (by omega) h2 (fin_of data a b h1 (bb_at data a b hR (by simp)))
 ·exact fun l j w _ hw hl => pe_last data hn hb a b hab hl hw
 ·exact fun l j w1 w2 r ks _ hw1 hw2 _ hl hr => pe_more data hn hb a b hab hl hw1 hw2 hr
 ·exact fun s u w1 w2 l j w3 hu hw1 hw2 _ hw3 hl => pm_last data hn hb a b hab hu.SB hw1 hw2 hl hw3
 ·exact fun s u w1 w2 l j w3 w4 r ms hu hw1 hw2 _ hw3 hw4 _ hl hr => pm_more data hn hb a b hab hu.SB hw1 hw2 hl hw3 hw4 hr
theorem pe_els (data : List Int) (hn : data.length < 2 ^ 38) (hb : BytesL data) (a : Int) (b : Int) (hab : a = 91 ∧ b = 93 ∨ a = 123 ∧ b = 125) {l : List Int} {ks : List J} (h : Els l ks) : PE data a b (dA a) l := by
 refine Els.rec (motive_1 := fun l j _ => PV data a b l) (motive_2 := fun l ks _ => PE data a b (dA a) l) (motive_3 := fun l ms _ => PE data a b (dO a) l) ?_ ?_ ?_ ?_ ?_ ?_ ?_ ?_ ?_ ?_ h
 ·exact fun l hl => pv_atom data hn a b hab hl
 ·exact fun s hs => pv_str data hn hb a b hs
 ·exact fun w hw => pv_all data hn hb a b hab (.arr0 w hw)
 ·exact fun w l ks hw hl _ => pv_all data hn hb a b hab (.arr w l ks hw hl)
 ·exact fun w hw => pv_all data hn hb a b hab (.obj0 w hw)
 ·exact fun w l ks hw hl _ => pv_all data hn hb a b hab (.obj w l ks hw hl)
 ·exact fun l j w _ hw hl => pe_last data hn hb a b hab hl hw
 ·exact fun l j w1 w2 r ks _ hw1 hw2 _ hl hr => pe_more data hn hb a b hab hl hw1 hw2 hr
 ·exact fun s u w1 w2 l j w3 hu hw1 hw2 _ hw3 hl => pm_last data hn hb a b hab hu.SB hw1 hw2 hl hw3
 ·exact fun s u w1 w2 l j w3 w4 r ms hu hw1 hw2 _ hw3 hw4 _ hl hr => pm_more data hn hb a b hab hu.SB hw1 hw2 hl hw3 hw4 hr
theorem pe_mbs (data : List Int) (hn : data.length < 2 ^ 38) (hb : BytesL data) (a : Int) (b : Int) (hab : a = 91 ∧ b = 93 ∨ a = 123 ∧ b = 125) {l : List Int} {ms : List (List Int × J)} (h : Mbs l ms) : PE data a b (dO a) l := by
 refine Mbs.rec (motive_1 := fun l j _ => PV data a b l) (motive_2 := fun l ks _ => PE data a b (dA a) l) (motive_3 := fun l ms _ => PE data a b (dO a) l) ?_ ?_ ?_ ?_ ?_ ?_ ?_ ?_ ?_ ?_ h
 ·exact fun l hl => pv_atom data hn a b hab hl
 ·exact fun s hs => pv_str data hn hb a b hs
 ·exact fun w hw => pv_all data hn hb a b hab (.arr0 w hw)
 ·exact fun w l ks hw hl _ => pv_all data hn hb a b hab (.arr w l ks hw hl)
 ·exact fun w hw => pv_all data hn hb a b hab (.obj0 w hw)
 ·exact fun w l ks hw hl _ => pv_all data hn hb a b hab (.obj w l ks hw hl)
 ·exact fun l j w _ hw hl => pe_last data hn hb a b hab hl hw
 ·exact fun l j w1 w2 r ks _ hw1 hw2 _ hl hr => pe_more data hn hb a b hab hl hw1 hw2 hr
 ·exact fun s u w1 w2 l j w3 hu hw1 hw2 _ hw3 hl => pm_last data hn hb a b hab hu.SB hw1 hw2 hl hw3
 ·exact fun s u w1 w2 l j w3 w4 r ms hu hw1 hw2 _ hw3 hw4 _ hl hr => pm_more data hn hb a b hab hu.SB hw1 hw2 hl hw3 hw4 hr
end
/-- An array's text ends where blockEnd says. -/
theorem blkAb (l q : List Int) (ks : List J) (h : V l (.arr ks)) (hn : (l ++ q).length < 2 ^ 38) (hb : BytesL (l ++ q)) : Ev (fun k => jsonparser_blockEndConfig.f k false false 0 (l ++ q) 91 93) ((l.length : Nat) : Int) := by
 have key : BB (l ++ q) 91 93 0 0 l.length := by
  cases h with
  | arr0 w hw => exact pe_arr0 _ hn 91 93 (by omega) (w := w) (q := q) hw (by simp) (by simp [dA]) (Nat.le_refl _) (.inr ⟨rfl, by simp⟩)
  | arr w l ks hw hl => exact pe_arr _ hn 91 93 (by omega) (w := w) (q := q) hw (pe_els _ hn hb 91 93 (by omega) hl) (by simp) (by simp [dA]) (Nat.le_refl _) (.inr ⟨rfl, by simp⟩)
 exact key.1
/-- An object's text ends where blockEnd says. -/
theorem blkOb (l q : List Int) (ms : List (List Int × J)) (h : V l (.obj ms)) (hn : (l ++ q).length < 2 ^ 38) (hb : BytesL (l ++ q)) : Ev (fun k => jsonparser_blockEndConfig.f k false false 0 (l ++ q) 123 125) ((l.length : Nat) : Int) := by
 have key : BB (l ++ q) 123 125 0 0 l.length := by
  cases h with
  | obj0 w hw => exact pe_obj0 _ hn 123 125 (by omega) (w := w) (q := q) hw (by simp) (by simp [dO]) (Nat.le_refl _) (.inr ⟨rfl, by simp⟩)
  | obj w l ms hw hl => exact pe_obj _ hn 123 125 (by omega) (w := w) (q := q) hw (pe_mbs _ hn hb 123 125 (by omega) hl) (by simp) (by simp [dO]) (Nat.le_refl _) (.inr ⟨rfl, by simp⟩)
 exact key.1
theorem h2I_f {c : Int} (h : HexD c) (k : Nat) : jsonparser_h2I.f (k + 2) c = some (hexV c) := by
 unfold jsonparser_h2I.f hexV
 rcases h with h | h | h
 ·rw [if_pos (by omega), jsonparser_h2I.j0, if_pos (by simp; omega), if_pos (by omega)]
  congr 1; omega
 ·rw [if_pos (by omega), jsonparser_h2I.j0, if_neg (by simp; omega), if_pos (by omega), jsonparser_h2I.j1, if_neg (by simp; omega), if_pos (by omega), if_pos (by omega), if_neg (by omega), if_neg (by omega)]
  congr 1; omega
 ·rw [if_pos (by omega), jsonparser_h2I.j0, if_neg (by simp; omega), if_pos (by omega), jsonparser_h2I.j1, if_pos (by simp; omega), if_neg (by omega), if_pos (by omega)]
  congr 1; omega
theorem w64r {x : Int} (h : 0 ≤ x ∧ x < 1000000000) : wrap64 x = x := Go.IntWalk.wrap64_in _ (by omega)
theorem w32r {x : Int} (h : 0 ≤ x ∧ x < 1000000000) : wrap32 x = x := Go.IntWalk.wrap32_in _ (by omega)
theorem one_f {a b c d : Int} (ha : HexD a) (hb : HexD b) (hc : HexD c) (hd : HexD d) (s : List Int) (k : Nat) : jsonparser_decodeSingleUnicodeEscape.f (k + 2) (92 :: 117 :: a :: b :: c :: d :: s) = some (hex4 a b c d, true) := by
 have ra := hexV_range ha
 have rb := hexV_range hb
 have rc := hexV_range hc
 have rd' := hexV_range hd
 have e2 : rd (92 :: 117 :: a :: b :: c :: d :: s) 2 = a := rfl
 have e3 : rd (92 :: 117 :: a :: b :: c :: d :: s) 3 = b := rfl
 have e4 : rd (92 :: 117 :: a :: b :: c :: d :: s) 4 = c := rfl
 have e5 : rd (92 :: 117 :: a :: b :: c :: d :: s) 5 = d := rfl
 have hl : ((92 :: 117 :: a :: b :: c :: d :: s).length : Int) = (s.length : Int) + 6 := by simp only [List.length_cons]; omega
 unfold jsonparser_decodeSingleUnicodeEscape.f hex4
 rw [hl, if_neg (by omega), if_pos (by omega), e2, h2I_f ha, Option.bind_some, if_pos (by omega), e3, h2I_f hb, Option.bind_some, if_pos (by omega), e4, h2I_f hc, Option.bind_some, if_pos (by omega), e5, h2I_f hd, Option.bind_some,
  if_neg (by omega), if_neg (by omega), if_neg (by omega), if_neg (by omega), w64r (x := hexV a * 4096) (by omega), w64r (x := hexV b * 256) (by omega), w64r (x := hexV a * 4096 + hexV b * 256) (by omega), w64r (x := hexV c * 16) (by omega),
  w64r (x := hexV a * 4096 + hexV b * 256 + hexV c * 16) (by omega), w64r (x := hexV a * 4096 + hexV b * 256 + hexV c * 16 + hexV d) (by omega), w32r (by omega)]
theorem utf8_z {r : Int} (h0 : 0 ≤ r) (h1 : r ≤ 1114111) (hs : ¬ (HighS r ∨ LowS r)) : Lib.encodeRuneZ r = utf8 r := by
 unfold HighS LowS at hs
 unfold Lib.encodeRuneZ utf8
 by_cases a1 : r < 128
 ·rw [if_pos (by omega), if_pos a1]
 by_cases a2 : r < 2048
 ·rw [if_neg (by omega), if_pos (by omega), if_neg a1, if_pos a2]
 by_cases a3 : r < 65536
 ·rw [if_neg (by omega), if_neg (by omega), if_pos (by omega), if_neg a1, if_neg a2, if_neg (by unfold HighS LowS; exact hs), if_pos a3]
 ·rw [if_neg (by omega), if_neg (by omega), if_neg (by omega), if_pos (by omega), if_neg a1, if_neg a2, if_neg (by unfold HighS LowS; exact hs), if_neg a3]
theorem utf8_s {r : Int} (hs : HighS r ∨ LowS r) : Lib.encodeRuneZ 65533 = utf8 r := by
 have e : utf8 r = [239, 191, 189] := by
  have h : 55296 ≤ r := by unfold HighS LowS at hs; omega
  unfold utf8
  rw [if_neg (by omega), if_neg (by omega), if_pos hs]
 rw [e]; decide
theorem utf8_le4 (r : Int) : 1 ≤ (utf8 r).length ∧ (utf8 r).length ≤ 4 := by
 unfold utf8
 repeat' split
 all_goals simp
/-- An escape of one letter. -/
theorem escOne_short {e : Int} (h : Esc1 e) (s : List Int) (k : Nat) : escOne k (92 :: e :: s) = some (2, [shortB e]) := by
 have e0 : rd (92 :: e :: s) 0 = 92 := rfl
 have e1 : rd (92 :: e :: s) 1 = e := rfl
 unfold escOne
 rw [if_neg (by simp only [List.length_cons]; omega), e0, if_neg (by simp), e1, if_pos (by unfold Esc1 at h; omega)]
 unfold Esc1 at h
 rcases h with rfl | rfl | rfl | rfl | rfl | rfl | rfl | rfl <;> decide
theorem rd67 (a b c d : Int) (s : List Int) : rd (92 :: 117 :: a :: b :: c :: d :: s) 6 = rd s 0 ∧ rd (92 :: 117 :: a :: b :: c :: d :: s) 7 = rd s 1 := ⟨rfl, rfl⟩
/-- An escape of four digits that stands alone. -/
theorem dec_uni {a b c d : Int} (ha : HexD a) (hb : HexD b) (hc : HexD c) (hd : HexD d) {s : List Int} (hs : SB s) (hp : ¬ (HighS (hex4 a b c d) ∧ LowNext s)) (k : Nat) :
  ∃ r, jsonparser_decodeUnicodeEscape.f (k + 3) (92 :: 117 :: a :: b :: c :: d :: s) = some (r, 6) ∧ 0 ≤ r ∧ r ≤ 1114111 ∧ Lib.encodeRuneZ r = utf8 (hex4 a b c d) := by
 have hr := hex4_range ha hb hc hd
 have hl : ((92 :: 117 :: a :: b :: c :: d :: s).length : Int) = (s.length : Int) + 6 := by simp only [List.length_cons]; omega
 unfold jsonparser_decodeUnicodeEscape.f
 rw [one_f ha hb hc hd, Option.bind_some, if_pos rfl, hl, (rd67 a b c d s).1, (rd67 a b c d s).2]
 dsimp only
 unfold jsonparser_isUTF16EncodedRune.f
 by_cases hS : HighS (hex4 a b c d) ∨ LowS (hex4 a b c d)
 ·refine ⟨65533, ?_, by omega, by omega, utf8_s hS⟩
  rw [if_pos (by unfold HighS LowS at hS; omega), Option.bind_some, if_pos (by unfold HighS LowS at hS; simp; omega)]
  by_cases hL : LowS (hex4 a b c d)
  ·rw [if_pos (by unfold LowS at hL; omega)]
  ·have hH := hS.resolve_right hL
   rw [if_neg (by unfold HighS at hH; omega)]
   have hj : jsonparser_decodeUnicodeEscape.j0 (k + 3) (92 :: 117 :: a :: b :: c :: d :: s) (hex4 a b c d) true = some (65533, 6) := by rw [jsonparser_decodeUnicodeEscape.j0, if_pos rfl]
   by_cases h8 : (s.length : Int) + 6 < 8
   ·rw [if_pos h8, hj]
   ·rw [if_neg h8, if_pos (by omega)]
    by_cases h92 : rd s 0 = 92
    ·rw [if_pos h92, if_pos (by omega)]
     by_cases h117 : rd s 1 = 117
     ·cases hs with
      | nil => simp at h8
      | chr c s h1 h2 h3 h4 hs => exact absurd h92 h4
      | esc e s he hs =>
       have e : rd (92 :: e :: s) 1 = e := rfl
       rw [e] at h117
       subst h117
       exact absurd he (by decide)
      | uni a' b' c' d' s ha' hb' hc' hd' hs =>
       have hr' := hex4_range ha' hb' hc' hd'
       have hl' : ¬ LowS (hex4 a' b' c' d') := fun h => hp ⟨hH, a', b', c', d', s, rfl, ha', hb', hc', hd', h⟩
       unfold LowS at hl'
       have e6 : (92 :: 117 :: a :: b :: c :: d :: 92 :: 117 :: a' :: b' :: c' :: d' :: s).drop 6 = 92 :: 117 :: a' :: b' :: c' :: d' :: s := rfl
       rw [h117, jsonparser_decodeUnicodeEscape.j0, if_neg (by decide), if_pos (by simp only [List.length_cons]; omega), e6, one_f ha' hb' hc' hd', Option.bind_some, if_pos rfl]
       dsimp only
       by_cases h5 : hex4 a' b' c' d' < 56320
       ·rw [if_pos h5]
       ·rw [if_neg h5, if_pos (by omega)]
     ·rw [show (rd s 1 != 117) = true from bne_iff_ne.mpr h117, hj]
    ·rw [if_neg h92, hj]
 ·refine ⟨hex4 a b c d, ?_, hr.1, by omega, utf8_z hr.1 (by omega) hS⟩
  unfold HighS LowS at hS
  by_cases h5 : 55296 ≤ hex4 a b c d
  ·rw [if_pos h5, Option.bind_some, if_neg (by simp; omega)]
  ·rw [if_neg h5, Option.bind_some, if_neg (by simp)]
/-- A pair of escapes that makes one character. -/
theorem dec_pair {a b c d a' b' c' d' : Int} (ha : HexD a) (hb : HexD b) (hc : HexD c) (hd : HexD d) (ha' : HexD a') (hb' : HexD b') (hc' : HexD c') (hd' : HexD d') (s : List Int) (hH : HighS (hex4 a b c d)) (hL : LowS (hex4 a' b' c' d')) (k : Nat) :
  ∃ r, jsonparser_decodeUnicodeEscape.f (k + 3) (92 :: 117 :: a :: b :: c :: d :: 92 :: 117 :: a' :: b' :: c' :: d' :: s) = some (r, 12) ∧ 0 ≤ r ∧ r ≤ 1114111 ∧ Lib.encodeRuneZ r = utf8 (pairR (hex4 a b c d) (hex4 a' b' c' d')) := by
 have hl : ((92 :: 117 :: a :: b :: c :: d :: 92 :: 117 :: a' :: b' :: c' :: d' :: s).length : Int) = (s.length : Int) + 12 := by simp only [List.length_cons]; omega
 have e6 : (92 :: 117 :: a :: b :: c :: d :: 92 :: 117 :: a' :: b' :: c' :: d' :: s).drop 6 = 92 :: 117 :: a' :: b' :: c' :: d' :: s := rfl
 have r6 : rd (92 :: 117 :: a :: b :: c :: d :: 92 :: 117 :: a' :: b' :: c' :: d' :: s) 6 = 92 := rfl
 have r7 : rd (92 :: 117 :: a :: b :: c :: d :: 92 :: 117 :: a' :: b' :: c' :: d' :: s) 7 = 117 := rfl
 refine ⟨pairR (hex4 a b c d) (hex4 a' b' c' d'), ?_, by unfold HighS at hH; unfold LowS at hL; unfold pairR; omega, by unfold HighS at hH; unfold LowS at hL; unfold pairR; omega, utf8_z ?_ ?_ ?_⟩
 ·unfold jsonparser_decodeUnicodeEscape.f
  rw [one_f ha hb hc hd, Option.bind_some, if_pos rfl, hl, r6, r7]
  dsimp only
  unfold HighS at hH
  unfold LowS at hL
  unfold jsonparser_isUTF16EncodedRune.f
  rw [if_pos (by omega), Option.bind_some, if_pos (by simp; omega), if_neg (by omega), if_neg (by omega), if_pos (by omega), if_pos rfl, if_pos (by omega), jsonparser_decodeUnicodeEscape.j0, if_neg (by decide), hl, if_pos (by omega), e6,
   one_f ha' hb' hc' hd', Option.bind_some, if_pos rfl]
  dsimp only
  rw [if_neg (by omega), if_neg (by omega)]
  unfold jsonparser_combineUTF16Surrogates.f pairR
  rw [Option.bind_some, w32r (x := hex4 a b c d - 55296) (by omega), w32r (x := (hex4 a b c d - 55296) * 1024) (by omega), w32r (x := 65536 + (hex4 a b c d - 55296) * 1024) (by omega), w32r (x := hex4 a' b' c' d' - 56320) (by omega), w32r (by omega)]
 ·unfold HighS at hH; unfold LowS at hL; unfold pairR; omega
 ·unfold HighS at hH; unfold LowS at hL; unfold pairR; omega
 ·unfold HighS at hH; unfold LowS at hL; unfold HighS LowS pairR; omega
theorem escOne_u {l bs : List Int} {k : Nat} {r n : Int} (h0 : 2 ≤ l.length) (h1 : rd l 0 = 92) (h2 : rd l 1 = 117) (h : jsonparser_decodeUnicodeEscape.f k l = some (r, n)) (hn : n ≠ -1) (hr0 : 0 ≤ r) (hr1 : r ≤ 1114111) (hb : Lib.encodeRuneZ r = bs) : escOne k l = some (n, bs) := by
 unfold escOne
 rw [if_neg (by omega), h1, if_neg (by simp), h2, if_neg (by decide), if_pos rfl, h, Option.bind_some]
 dsimp only
 rw [if_neg hn, if_neg (by omega), if_pos hr1, hb]
theorem un_plain {s u : List Int} (h : Un s u) (hs : 92 ∉ s) : u = s := by
 induction h with
 | nil => rfl
 | chr c s u _ _ _ _ _ ih => rw [ih (fun h => hs (List.mem_cons_of_mem _ h))]
 | esc => exact absurd List.mem_cons_self hs
 | uni => exact absurd List.mem_cons_self hs
 | pair => exact absurd List.mem_cons_self hs
theorem un_pre : ∀ (pre : List Int) {rest u : List Int}, Un (pre ++ 92 :: rest) u → 92 ∉ pre → ∃ u1, u = pre ++ u1 ∧ Un (92 :: rest) u1
 | [], rest, u, h, _ => ⟨u, rfl, h⟩
 | c :: pre, rest, u, h, hp => by
  have hc : c ≠ 92 := fun e => hp (e ▸ List.mem_cons_self)
  rw [List.cons_append] at h
  generalize hx : pre ++ 92 :: rest = x at h
  cases h with
  | chr _ _ u' _ _ _ _ h =>
   obtain ⟨u1, e, h1⟩ := un_pre pre (hx ▸ h) (fun h => hp (List.mem_cons_of_mem _ h))
   exact ⟨u1, by rw [e]; rfl, h1⟩
  | esc => exact absurd rfl hc
  | uni => exact absurd rfl hc
  | pair => exact absurd rfl hc
/-- Behind an escape: no more of them, or on to the next one. -/
theorem ul_step {inn s u bs : List Int} {n k : Nat} (he : escOne k inn = some ((n : Int), bs)) (hd : inn.drop n = s) (hn : n ≤ inn.length) (h1 : 1 ≤ n) (hb : bs.length < n) (hu : Un s u)
  (IH : ∀ rest u1, Un (92 :: rest) u1 → rest.length + 1 ≤ s.length → ∃ m, UL m (92 :: rest) u1) : ∃ m, UL m inn (bs ++ u) := by
 by_cases h92 : 92 ∈ s
 ·obtain ⟨pre, rest, rfl, hp⟩ := List.eq_append_cons_of_mem h92
  obtain ⟨u1, rfl, hu1⟩ := un_pre pre hu hp
  obtain ⟨m, hm⟩ := IH rest u1 hu1 (by simp)
  exact ⟨m + 1, .more m k inn n bs pre rest u1 he hn h1 hb hd hp hm⟩
 ·rw [un_plain hu h92, ← hd]
  exact ⟨0, .last 0 k inn n bs he hn h1 hb (by rw [hd]; exact h92)⟩
theorem ul_of : ∀ (N : Nat) {rest u : List Int}, rest.length ≤ N → Un (92 :: rest) u → ∃ m, UL m (92 :: rest) u
 | 0, rest, u, hN, h => by
  have : rest = [] := List.length_eq_zero_iff.mp (by omega)
  subst this
  cases h with
  | chr _ _ _ _ _ _ h => exact absurd rfl h
 | N + 1, rest, u, hN, h => by
  cases h with
  | chr _ _ _ _ _ _ h => exact absurd rfl h
  | esc e s u he hu => exact ul_step (s := s) (n := 2) (escOne_short he s 0) rfl (by simp) (by omega) (by simp) hu (fun rest u1 h1 h2 => ul_of N (by simp at hN; omega) h1)
  | uni a b c d s u ha hb hc hd hp hu =>
   obtain ⟨r, hr, h0, h1, hz⟩ := dec_uni ha hb hc hd hu.SB hp 0
   have hlen := utf8_le4 (hex4 a b c d)
   exact ul_step (s := s) (n := 6) (escOne_u (by simp) rfl rfl hr (by decide) h0 h1 hz) rfl (by simp) (by omega) (by omega) hu (fun rest u1 h1 h2 => ul_of N (by simp at hN; omega) h1)
  | pair a b c d a' b' c' d' s u ha hb hc hd ha' hb' hc' hd' hH hL hu =>
   obtain ⟨r, hr, h0, h1, hz⟩ := dec_pair ha hb hc hd ha' hb' hc' hd' s hH hL 0
   have hlen := utf8_le4 (pairR (hex4 a b c d) (hex4 a' b' c' d'))
   exact ul_step (s := s) (n := 12) (escOne_u (by simp) rfl rfl hr (by decide) h0 h1 hz) rfl (by simp) (by omega) (by omega) hu (fun rest u1 h1 h2 => ul_of N (by simp at hN; omega) h1)
theorem ue_of {s u : List Int} (h : Un s u) (h92 : 92 ∈ s) : UE s u := by
 obtain ⟨pre, rest, rfl, hp⟩ := List.eq_append_cons_of_mem h92
 obtain ⟨u1, rfl, hu1⟩ := un_pre pre h hp
 obtain ⟨m, hm⟩ := ul_of rest.length (Nat.le_refl _) hu1
 exact .esc m pre rest u1 hp hm
theorem ev_one {α : Type} {f : Nat → Option α} {r : α} (h : Ev f r) : ∃ k, f k = some r := by
 obtain ⟨K, hK⟩ := h
 exact ⟨K, hK K (Nat.le_refl _)⟩
/-- From here on the search finds nothing. -/
def S (keys : List ByteArray) (data : List Int) (i L : Nat) (K : Int) (M : Bool) : Prop := ∃ n, Sk keys data n i L K M
/-- The same from here, and from behind blanks that stand here. -/
def Cont (keys : List ByteArray) (data : List Int) (i L : Nat) (K : Int) (M : Bool) : Prop := ∀ w r, data.drop i = w ++ r → Ws w → S keys data (i + w.length) L K M
/-- What follows a value: blanks alone, or blanks and a byte that is no colon. -/
def Tl (q : List Int) : Prop := Ws q ∨ ∃ w c r, q = w ++ c :: r ∧ Ws w ∧ ¬ Blk c ∧ c ≠ 58
theorem blk_le {c : Int} (h : Blk c) : c ≤ 32 := by unfold Blk at h; omega
theorem drop_split {data : List Int} {i : Nat} {c : Int} {r : List Int} (h : data.drop i = c :: r) : data = data.take i ++ c :: r := by rw [← h, List.take_append_drop]
section
theorem s_fast (keys : List ByteArray) (data : List Int) {i L : Nat} {K : Int} {M : Bool} {c : Int} {r : List Int} (h : data.drop i = c :: r) (hc : c ≤ 32 ∨ (92 < c ∧ c ≠ 123 ∧ c ≠ 125)) (hS : S keys data (i + 1) L K M) : S keys data i L K M := by
 obtain ⟨n, hS⟩ := hS
 exact ⟨n + 1, .fast _ _ _ _ _ _ _ (drop_lt h) (by rw [rd_drop h]; exact hc) hS⟩
theorem s_other (keys : List ByteArray) (data : List Int) {i L : Nat} {K : Int} {M : Bool} {c : Int} {r : List Int} (h : data.drop i = c :: r) (h1 : 32 < c) (h2 : c ≤ 92) (h3 : c ≠ 34) (h4 : c ≠ 39) (h5 : c ≠ 91) (h6 : c ≠ 58) (hS : S keys data (i + 1) L K M) : S keys data i L K M := by
 obtain ⟨n, hS⟩ := hS
 have e := rd_drop h
 exact ⟨n + 1, .other _ _ _ _ _ _ _ (drop_lt h) (by rw [e]; exact h1) (by rw [e]; exact h2) (by rw [e]; exact h3) (by rw [e]; exact h4) (by rw [e]; exact h5) (by rw [e]; exact h6) hS⟩
theorem s_ws (keys : List ByteArray) (data : List Int) {L : Nat} {K : Int} {M : Bool} {r : List Int} : ∀ (w : List Int) (i : Nat), data.drop i = w ++ r → Ws w → S keys data (i + w.length) L K M → S keys data i L K M
 | [], i, h, hw, hS => hS
 | c :: w, i, h, hw, hS => by
  refine s_fast keys data h (.inl (blk_le (hw c List.mem_cons_self))) (s_ws keys data w (i + 1) (drop_next h) (fun x hx => hw x (List.mem_cons_of_mem _ hx)) ?_)
  rw [show i + 1 + w.length = i + (c :: w).length by rw [List.length_cons]; omega]
  exact hS
theorem s_end (keys : List ByteArray) (data : List Int) {i L : Nat} {K : Int} {M : Bool} (h : data.length ≤ i) : S keys data i L K M := ⟨0, .done _ _ _ _ _ _ _ h⟩
theorem cont_s (keys : List ByteArray) (data : List Int) {i L : Nat} {K : Int} {M : Bool} (h : Cont keys data i L K M) : S keys data i L K M := h [] (data.drop i) rfl (fun _ h => by cases h)
theorem ws_app {w w' r r' : List Int} {c : Int} (h : w ++ c :: r = w' ++ r') (hc : ¬ Blk c) (hw' : Ws w') : ∃ w2, w = w' ++ w2 := by
 induction w' generalizing w with
 | nil => exact ⟨w, rfl⟩
 | cons a w' ih =>
  cases w with
  | nil =>
   injection h with h1 h2
   exact absurd (h1 ▸ hw' a List.mem_cons_self) hc
  | cons b w =>
   injection h with h1 h2
   obtain ⟨w2, e⟩ := ih h2 (fun x hx => hw' x (List.mem_cons_of_mem _ hx))
   exact ⟨w2, by rw [h1, e]; rfl⟩
/-- Behind blanks a byte that is none, and from there on nothing is found. -/
theorem cont_of (keys : List ByteArray) (data : List Int) {i L : Nat} {K : Int} {M : Bool} {w r : List Int} {c : Int} (h : data.drop i = w ++ c :: r) (hw : Ws w) (hc : ¬ Blk c) (hS : S keys data (i + w.length) L K M) : Cont keys data i L K M := fun w' r' h' hw' => by
 obtain ⟨w2, rfl⟩ := ws_app (h ▸ h') hc hw'
 rw [List.append_assoc] at h
 refine s_ws keys data w2 _ (drop_app h) (fun x hx => hw x (List.mem_append_right _ hx)) ?_
 rw [Nat.add_assoc, ← List.length_append]
 exact hS
theorem cont_end (keys : List ByteArray) (data : List Int) {i L : Nat} {K : Int} {M : Bool} (h : Ws (data.drop i)) (hi : i ≤ data.length) : Cont keys data i L K M := fun w r h' hw' => by
 rw [h'] at h
 have h2 := drop_app h'
 have hl := drop_len h' hi
 rw [List.length_append] at hl
 refine s_ws keys data (r := []) r _ (by rw [h2, List.append_nil]) (fun x hx => h x (List.mem_append_right _ hx)) (s_end keys data (by omega))
/-- A text whose bytes are passed one by one. -/
theorem s_run (keys : List ByteArray) (data : List Int) {L : Nat} {K : Int} {M : Bool} {r : List Int} : ∀ (w : List Int) (i : Nat), data.drop i = w ++ r → (∀ c ∈ w, NumC c ∨ (97 ≤ c ∧ c ≤ 122)) → S keys data (i + w.length) L K M → S keys data i L K M
 | [], i, h, hw, hS => hS
 | c :: w, i, h, hw, hS => by
  have hc := hw c List.mem_cons_self
  have next := s_run keys data w (i + 1) (drop_next h) (fun x hx => hw x (List.mem_cons_of_mem _ hx)) (by rw [show i + 1 + w.length = i + (c :: w).length by rw [List.length_cons]; omega]; exact hS)
  unfold NumC at hc
  by_cases h92 : 92 < c
  ·exact s_fast keys data h (.inr (by omega)) next
  ·exact s_other keys data h (by omega) (by omega) (by omega) (by omega) (by omega) (by omega) next
theorem atom_c {l : List Int} (h : AtomOk l) : ∀ c ∈ l, NumC c ∨ (97 ≤ c ∧ c ≤ 122) := fun c hc => by
 rcases h with rfl | rfl | rfl | ⟨h, _⟩
 ·right; revert c; decide
 ·right; revert c; decide
 ·right; revert c; decide
 ·exact .inl (h c hc)
/-- A string behind its first quote. -/
theorem str_at (data : List Int) (hn : data.length < 2 ^ 38) (hb : BytesL data) {i : Nat} {s q : List Int} (h : data.drop i = 34 :: (s ++ 34 :: q)) (hs : SB s) : ∃ k, jsonparser_stringEndConfig.f k false false 0 (data.drop (i + 1)) 34 = some (((s.length + 1 : Nat) : Int), decide (92 ∈ s)) := by
 have h2 : data.drop (i + 1) = s ++ 34 :: q := drop_next h
 rw [h2]
 exact ev_one (strEnd_f s q hs (by rw [← h2, List.length_drop]; omega) (by rw [← h2]; exact hb.drop _))
theorem s_str (keys : List ByteArray) (data : List Int) (hn : data.length < 2 ^ 38) (hb : BytesL data) {i L : Nat} {K : Int} {M : Bool} {s q : List Int} (h : data.drop i = 34 :: (s ++ 34 :: q)) (hs : SB s) (ht : Tl q) (hC : Cont keys data (i + (s.length + 2)) L K M) : S keys data i L K M := by
 have hlt := drop_lt h
 have e1 := rd_drop h
 obtain ⟨k, hk⟩ := str_at data hn hb h hs
 have h3 : data.drop (i + 1 + (s.length + 1)) = q := by
  have := drop_next (drop_app (drop_next h))
  rw [← this, show i + 1 + (s.length + 1) = i + 1 + s.length + 1 by omega]
 have hl : i + (s.length + 2) ≤ data.length := by
  have := drop_len h (by omega)
  rw [List.length_cons, List.length_append, List.length_cons] at this
  omega
 have hq : q.length < 2 ^ 38 := by rw [← h3, List.length_drop]; omega
 rcases ht with ht | ⟨w, c, r, rfl, hw, hc, h58⟩
 ·refine ⟨0, .strEnd _ _ _ _ _ _ _ k (q.length + 1) (s.length + 1) _ hlt e1 hk (by omega) (by omega) ?_⟩
  rw [h3]
  exact next_none q hq ht _ (by omega)
 ·obtain ⟨n, hS⟩ := hC w (c :: r) (by rw [show i + (s.length + 2) = i + 1 + (s.length + 1) by omega, h3]) hw
  have h4 : data.drop (i + 1 + (s.length + 1) + w.length) = c :: r := drop_app h3
  refine ⟨n + 1, .strVal _ _ _ _ _ _ _ k (w.length + 1) (s.length + 1) w.length _ hlt e1 hk (by omega) (drop_lt h4) ?_ (by rw [rd_drop h4]; exact h58) ?_⟩
  ·rw [h3]
   exact next_f w c r hq hw hc _ (by omega)
  ·rw [show i + 1 + (s.length + 1) + w.length = i + (s.length + 2) + w.length by omega]
   exact hS
/-- Where a name stands. -/
theorem key_at (data : List Int) (hn : data.length < 2 ^ 38) (hb : BytesL data) {i : Nat} {s u w q : List Int} {c : Int} (h : data.drop i = 34 :: (s ++ 34 :: (w ++ c :: q))) (hu : Un s u) (hw : Ws w) (hc : ¬ Blk c) : KeyAt data i (s.length + 1) w.length u := by
 have hlt := drop_lt h
 obtain ⟨k, hk⟩ := str_at data hn hb h hu.SB
 have h2 : data.drop (i + 1) = s ++ 34 :: (w ++ c :: q) := drop_next h
 have h3 : data.drop (i + 1 + (s.length + 1)) = w ++ c :: q := by
  rw [show i + 1 + (s.length + 1) = i + 1 + s.length + 1 by omega]
  exact drop_next (drop_app h2)
 have h4 := drop_lt (drop_app h3)
 have hbody : (data.take (i + (s.length + 1))).drop (i + 1) = s := by
  rw [show i + (s.length + 1) = i + 1 + s.length by omega, ← List.take_drop, h2, List.take_left]
 refine ⟨rd_drop h, h4, by omega, ⟨k, decide (92 ∈ s), hk, ?_⟩, ⟨w.length + 1, ?_⟩⟩
 ·rw [hbody]
  by_cases h92 : 92 ∈ s
  ·exact .inr ⟨decide_eq_true h92, ue_of hu h92⟩
  ·exact .inl ⟨decide_eq_false h92, un_plain hu h92⟩
 ·rw [h3]
  exact next_f w c q (by rw [← h3, List.length_drop]; omega) hw hc _ (by omega)
/-- A value under a name that does not match, or behind which the search has gone wrong. -/
theorem s_dead (keys : List ByteArray) (data : List Int) (hn : data.length < 2 ^ 38) (hb : BytesL data) {i L : Nat} {K : Int} {l q : List Int} {j : J} (hv : V l j) (h : data.drop i = l ++ q) (ht : Tl q) (hK : K = L → ∃ key, keys[L]? = some key ∧ ¬ IdxK key) (hC : Cont keys data (i + l.length) L K false) : S keys data i L K false := by
 have hle : (l ++ q).length = data.length - i := by rw [← h, List.length_drop]
 have hn' : (l ++ q).length < 2 ^ 38 := by rw [hle]; omega
 have hb' : BytesL (l ++ q) := by rw [← h]; exact hb.drop _
 rw [List.length_append] at hle
 cases j with
 | atom =>
  cases hv with
  | atom l hl => exact s_run keys data l i h (atom_c hl) (cont_s keys data hC)
 | str =>
  cases hv with
  | str s hs => exact s_str keys data hn hb (by simpa using h) hs ht (by simpa using hC)
 | arr ks =>
  have hh : ∃ r, l = 91 :: r := by cases hv with
   | arr0 w hw => exact ⟨_, rfl⟩
   | arr w l ks hw hl => exact ⟨_, rfl⟩
  obtain ⟨r, hr⟩ := hh
  have e1 : rd data (i : Int) = 91 := rd_drop (r := r ++ q) (by rw [h, hr]; rfl)
  have hlt : i < data.length := drop_lt (c := 91) (r := r ++ q) (by rw [h, hr]; rfl)
  obtain ⟨k, hk⟩ := ev_one (blkAb l q ks hv hn' hb')
  rw [← h] at hk
  have h1 : 1 ≤ l.length := by rw [hr]; simp
  obtain ⟨n, hS⟩ := cont_s keys data hC
  by_cases hKL : K = L
  ·obtain ⟨key, hk1, hk2⟩ := hK hKL
   subst hKL
   exact ⟨n + 1, .arrName _ _ _ _ _ _ k l.length key hlt e1 hk1 hk2 hk h1 (by omega) hS⟩
  ·exact ⟨n + 1, .arrNe _ _ _ _ _ _ _ k l.length hlt e1 hKL hk h1 (by omega) hS⟩
 | obj ms =>
  have hh : ∃ r, l = 123 :: r := by cases hv with
   | obj0 w hw => exact ⟨_, rfl⟩
   | obj w l ks hw hl => exact ⟨_, rfl⟩
  obtain ⟨r, hr⟩ := hh
  have e1 : rd data (i : Int) = 123 := rd_drop (r := r ++ q) (by rw [h, hr]; rfl)
  have hlt : i < data.length := drop_lt (c := 123) (r := r ++ q) (by rw [h, hr]; rfl)
  obtain ⟨k, hk⟩ := ev_one (blkOb l q ms hv hn' hb')
  rw [← h] at hk
  have h1 : 1 ≤ l.length := by rw [hr]; simp
  obtain ⟨n, hS⟩ := cont_s keys data hC
  exact ⟨n + 1, .openSkip _ _ _ _ _ _ k l.length hlt e1 hk h1 (by omega) hS⟩
end
/-! ### The elements of an array -/
theorem dlm_of {w r : List Int} {c : Int} (hw : Ws w) (hc : Dlm c) : ∀ c' r', w ++ c :: r = c' :: r' → Dlm c' := fun c' r' h => by
 cases w with
 | nil => injection h with h1 h2; rw [← h1]; exact hc
 | cons a w => injection h with h1 h2; have := hw a List.mem_cons_self; rw [h1] at this; unfold Blk at this; unfold Dlm; omega
theorem v_head {l : List Int} {j : J} (h : V l j) : ∃ c r, l = c :: r ∧ (c = 34 ∨ c = 91 ∨ c = 123 ∨ c = 45 ∨ (48 ≤ c ∧ c ≤ 57) ∨ c = 110 ∨ c = 102 ∨ c = 116) := by
 cases h with
 | atom l h =>
  rcases h with rfl | rfl | rfl | ⟨_, c, r, rfl, h⟩
  ·exact ⟨_, _, rfl, by omega⟩
  ·exact ⟨_, _, rfl, by omega⟩
  ·exact ⟨_, _, rfl, by omega⟩
  ·exact ⟨_, _, rfl, by omega⟩
 | str => exact ⟨_, _, rfl, by omega⟩
 | arr0 => exact ⟨_, _, rfl, by omega⟩
 | arr => exact ⟨_, _, rfl, by omega⟩
 | obj0 => exact ⟨_, _, rfl, by omega⟩
 | obj => exact ⟨_, _, rfl, by omega⟩
theorem atom_d {l : List Int} (h : AtomOk l) : ∀ c ∈ l, ¬ Dlm c := fun c hc => by
 have := atom_c h c hc
 unfold NumC at this
 unfold Dlm
 omega
theorem cut_at {t l q : List Int} {o : Nat} (h : t.drop o = l ++ q) : (t.take (o + l.length)).drop o = l := by
 rw [← List.take_drop, h, List.take_left]
theorem getE {t w l q : List Int} {j : J} (hv : V l j) (ht : t = w ++ (l ++ q)) (hw : Ws w) (hq : ∀ c r, q = c :: r → Dlm c) (hn : t.length < 2 ^ 38) (hb : BytesL t) : ∃ ty, GetE t w.length (w.length + l.length) ty := by
 have hd : t.drop w.length = l ++ q := by rw [ht, List.drop_left]
 have hl : w.length + (l.length + q.length) = t.length := by rw [ht]; simp only [List.length_append]
 have hn' : (l ++ q).length < 2 ^ 38 := by rw [List.length_append]; omega
 have hb' : BytesL (l ++ q) := by rw [← hd]; exact hb.drop _
 obtain ⟨c, r, hcr, hc⟩ := v_head hv
 have hlen1 : 1 ≤ l.length := by rw [hcr]; simp
 have hnext : ∃ k, jsonparser_nextTokenConfig.f k false false 0 t = some (w.length : Int) := by
  have e : t = w ++ c :: (r ++ q) := by rw [ht, hcr]; rfl
  exact ⟨w.length + 1, by rw [e]; exact next_f w c (r ++ q) (by rw [← e]; exact hn) hw (by unfold Blk; omega) _ (by omega)⟩
 have hhead : rd t (w.length : Int) = c := rd_drop (r := r ++ q) (by rw [hd, hcr]; rfl)
 have tok : AtomOk l → jsonparser_tokenEnd.f (l.length + 1) (t.drop w.length) = some (l.length : Int) := fun ha => by
  rw [hd]
  exact tokEnd_f l q hn' (atom_d ha) hq _ (by omega)
 suffices ∃ ty, (ty = 1 → 2 ≤ l.length) ∧ GtP t w.length (w.length + l.length) ty by
  obtain ⟨ty, h1, h2⟩ := this
  exact ⟨ty, hnext, by omega, by omega, fun h => by have := h1 h; omega, h2⟩
 cases j with
 | atom =>
  cases hv with
  | atom l ha =>
   have htok := tok ha
   rcases ha with rfl | rfl | rfl | ⟨_, c', r', rfl, hc'⟩
   ·exact ⟨6, by simp, .nul _ 4 (rd_drop (r := [117, 108, 108] ++ q) (by rw [hd]; rfl)) (cut_at hd) htok (by omega) (by simp at hl ⊢; omega)⟩
   ·exact ⟨5, by simp, .fal _ 5 (rd_drop (r := [97, 108, 115, 101] ++ q) (by rw [hd]; rfl)) (cut_at hd) htok (by omega) (by simp at hl ⊢; omega)⟩
   ·exact ⟨5, by simp, .tru _ 4 (rd_drop (r := [114, 117, 101] ++ q) (by rw [hd]; rfl)) (cut_at hd) htok (by omega) (by simp at hl ⊢; omega)⟩
   ·exact ⟨2, by simp, .num _ _ c' (by omega) (rd_drop (r := r' ++ q) hd) htok hlen1 (by omega)⟩
 | str =>
  cases hv with
  | str s hs =>
   have hd' : t.drop w.length = 34 :: (s ++ 34 :: q) := by rw [hd]; simp
   obtain ⟨k, hk⟩ := str_at t hn hb hd' hs
   refine ⟨1, by simp, ?_⟩
   have e : w.length + (34 :: (s ++ [34])).length = w.length + ((s.length + 1) + 1) := by simp
   rw [e]
   refine .str k _ _ (rd_drop hd') hk (by omega) ?_
   rw [← e]; omega
 | arr ks =>
  have hh : c = 91 := by cases hv with
   | arr0 w hw => injection hcr with h _; exact h.symm
   | arr w l ks hw hl => injection hcr with h _; exact h.symm
  obtain ⟨k, hk⟩ := ev_one (blkAb l q ks hv hn' hb')
  rw [← hd] at hk
  exact ⟨4, by simp, .arr k _ (by rw [hhead, hh]) hk hlen1 (by omega)⟩
 | obj ms =>
  have hh : c = 123 := by cases hv with
   | obj0 w hw => injection hcr with h _; exact h.symm
   | obj w l ks hw hl => injection hcr with h _; exact h.symm
  obtain ⟨k, hk⟩ := ev_one (blkOb l q ms hv hn' hb')
  rw [← hd] at hk
  exact ⟨3, by simp, .obj k _ (by rw [hhead, hh]) hk hlen1 (by omega)⟩
/-- The places found are those of the elements. -/
def Fit (t : List Int) (els : List (Nat × Nat × Int)) (ks : List J) : Prop := els.length = ks.length ∧ ∀ (m : Nat) (j : J), ks[m]? = some j → ∃ (b e : Nat) (ty : Int) (le q' : List Int), els[m]? = some (b, e, ty) ∧ t.drop b = le ++ q' ∧ e = b + le.length ∧ V le j
theorem fit_cons {t : List Int} {els : List (Nat × Nat × Int)} {ks : List J} {b e : Nat} {ty : Int} {le q' : List Int} {j : J} (hd : t.drop b = le ++ q') (he : e = b + le.length) (hv : V le j) (h : Fit t els ks) : Fit t ((b, e, ty) :: els) (j :: ks) := by
 refine ⟨by simp [h.1], fun m j' hj => ?_⟩
 cases m with
 | zero =>
  simp at hj
  subst hj
  exact ⟨b, e, ty, le, q', by simp, hd, he, hv⟩
 | succ m =>
  simp at hj
  obtain ⟨b', e', ty', le', q'', h1, h2⟩ := h.2 m j' hj
  exact ⟨b', e', ty', le', q'', by simpa using h1, h2⟩
theorem els_ael (t : List Int) (hn : t.length < 2 ^ 38) (hb : BytesL t) {x : List Int} {ks : List J} (h : Els x ks) : ∀ (off : Nat) (w q : List Int), t.drop off = w ++ (x ++ q) → Ws w → ∃ m els, Ael t m off els ∧ Fit t els ks := by
 refine Els.rec (motive_1 := fun _ _ _ => True) (motive_2 := fun x ks _ => ∀ (off : Nat) (w q : List Int), t.drop off = w ++ (x ++ q) → Ws w → ∃ m els, Ael t m off els ∧ Fit t els ks) (motive_3 := fun _ _ _ => True)
  (fun _ _ => trivial) (fun _ _ => trivial) (fun _ _ => trivial) (fun _ _ _ _ _ _ => trivial) (fun _ _ => trivial) (fun _ _ _ _ _ _ => trivial) ?_ ?_ (fun _ _ _ _ _ _ _ _ _ _ _ _ _ => trivial) (fun _ _ _ _ _ _ _ _ _ _ _ _ _ _ _ _ _ _ _ => trivial) h
 ·intro l j w1 hv hw1 _ off w q hd hw
  simp only [List.append_assoc, List.cons_append, List.nil_append] at hd
  have hoff : off ≤ t.length := by
   rcases Nat.lt_or_ge t.length off with h | h
   ·rw [List.drop_eq_nil_of_le (by omega)] at hd
    have := congrArg List.length hd
    simp at this
   ·exact h
  obtain ⟨ty, hg⟩ := getE (t := t.drop off) hv hd hw (dlm_of hw1 (by unfold Dlm; omega)) (by rw [List.length_drop]; omega) (hb.drop _)
  have h2 := drop_app hd
  have h3 := drop_app h2
  have h4 := drop_app h3
  have e : off + (w.length + l.length) = off + w.length + l.length := by omega
  refine ⟨0, _, .last 0 off _ _ ty (w1.length + 1) w1.length hoff hg ?_ ?_ ?_, fit_cons h2 (by omega) hv ⟨rfl, fun m j h => by simp at h⟩⟩
  ·rw [e, h3]
   exact next_f w1 93 q (by rw [← h3, List.length_drop]; omega) hw1 (by decide) _ (by omega)
  ·rw [e]; exact drop_lt h4
  ·rw [e]; exact rd_drop h4
 ·intro l j w1 w2 r ks hv hw1 hw2 hr _ ih off w q hd hw
  simp only [List.append_assoc, List.cons_append] at hd
  have hoff : off ≤ t.length := by
   rcases Nat.lt_or_ge t.length off with h | h
   ·rw [List.drop_eq_nil_of_le (by omega)] at hd
    have := congrArg List.length hd
    simp at this
   ·exact h
  obtain ⟨ty, hg⟩ := getE (t := t.drop off) hv hd hw (dlm_of hw1 (by unfold Dlm; omega)) (by rw [List.length_drop]; omega) (hb.drop _)
  have h2 := drop_app hd
  have h3 := drop_app h2
  have h4 := drop_app h3
  have h5 := drop_next h4
  have e : off + (w.length + l.length) = off + w.length + l.length := by omega
  obtain ⟨m, els, ha, hf⟩ := ih _ w2 q h5 hw2
  refine ⟨m + 1, _, .more m off _ _ ty (w1.length + 1) w1.length els hoff hg ?_ ?_ ?_ ?_, fit_cons h2 (by omega) hv hf⟩
  ·rw [e, h3]
   exact next_f w1 44 _ (by rw [← h3, List.length_drop]; omega) hw1 (by decide) _ (by omega)
  ·rw [e]; exact drop_lt h4
  ·rw [e]; exact rd_drop h4
  ·rw [e]; exact ha
theorem arr_ael (t : List Int) (hn : t.length < 2 ^ 38) (hb : BytesL t) {l q : List Int} {ks : List J} (h : V l (.arr ks)) (ht : t = l ++ q) : ∃ els, AelT t els ∧ Fit t els ks := by
 cases h with
 | arr0 w hw =>
  have e : t = 91 :: (w ++ 93 :: q) := by rw [ht]; simp
  have h1 : t.drop 1 = w ++ 93 :: q := by rw [e]; rfl
  have h2 := drop_app h1
  refine ⟨[], .none (w.length + 1) w.length (by rw [e]; rfl) ?_ (drop_lt h2) (rd_drop h2), rfl, fun m j h => by simp at h⟩
  rw [h1]
  exact next_f w 93 q (by rw [← h1, List.length_drop]; omega) hw (by decide) _ (by omega)
 | arr w l ks hw hl =>
  have e : t = 91 :: (w ++ (l ++ q)) := by rw [ht]; simp
  have h1 : t.drop 1 = w ++ (l ++ q) := by rw [e]; rfl
  have h2 := drop_app h1
  have hh : ∃ c r, l = c :: r ∧ ¬ Blk c ∧ c ≠ 93 := by
   cases hl with
   | last l j w hv _ =>
    obtain ⟨c, r, rfl, hc⟩ := v_head hv
    exact ⟨c, _, rfl, by unfold Blk; omega, by omega⟩
   | more l j w1 w2 r ks hv _ _ _ =>
    obtain ⟨c, r, rfl, hc⟩ := v_head hv
    exact ⟨c, _, rfl, by unfold Blk; omega, by omega⟩
  obtain ⟨c, r, hcr, hc, hc93⟩ := hh
  have h3 : t.drop (1 + w.length) = c :: (r ++ q) := by rw [h2, hcr]; rfl
  have h1' : t.drop 1 = w ++ c :: (r ++ q) := by rw [h1, hcr]; rfl
  obtain ⟨m, els, ha, hf⟩ := els_ael t hn hb hl (1 + w.length) [] q h2 (fun _ h => by cases h)
  refine ⟨els, .some (w.length + 1) w.length m els (by rw [e]; rfl) ?_ (drop_lt h3) (by rw [rd_drop h3]; exact hc93) ha, hf⟩
  rw [h1']
  exact next_f w c (r ++ q) (by rw [← h1', List.length_drop]; omega) hw hc _ (by omega)
/-! ### Objects and the whole -/
/-- How deep the search may stand once it has gone wrong at a level. -/
def DoneK (keys : List ByteArray) (P : Nat) (K : Int) : Prop := (P : Int) - 1 ≤ K ∧ (K = P → ∃ key, keys[P]? = some key ∧ ¬ IdxK key)
section
theorem s_close (keys : List ByteArray) (data : List Int) {i L : Nat} {K : Int} {M : Bool} {r : List Int} (h : data.drop i = 125 :: r) (hK : DoneK keys (L + 1) K) (hS : ∀ K' M', DoneK keys L K' → S keys data (i + 1) L K' M') : S keys data i (L + 1) K M := by
 have hK1 := hK.1
 by_cases hKL : K = L
 ·subst hKL
  obtain ⟨n, hS⟩ := hS ((L : Int) - 1) M ⟨by omega, fun h => by omega⟩
  exact ⟨n + 1, .closeEq _ _ _ _ _ _ (drop_lt h) (rd_drop h) hS⟩
 ·obtain ⟨n, hS⟩ := hS K M ⟨by omega, fun h => absurd h hKL⟩
  exact ⟨n + 1, .closeNe _ _ _ _ _ _ _ (drop_lt h) (rd_drop h) (by omega) hS⟩
/-- A member whose name is not asked for. -/
theorem mb_no (keys : List ByteArray) (data : List Int) (hn : data.length < 2 ^ 38) (hb : BytesL data) {i L : Nat} {K : Int} {M : Bool} {s u w1 w2 l w3 r : List Int} {j : J} {c : Int} {key : ByteArray} (h : data.drop i = 34 :: (s ++ 34 :: (w1 ++ 58 :: (w2 ++ (l ++ (w3 ++ c :: r)))))) (hu : Un s u) (hw1 : Ws w1) (hw2 : Ws w2) (hv : V l j) (hw3 : Ws w3)
  (hc : ¬ Blk c) (hc58 : c ≠ 58) (hk : keys[L]? = some key) (hne : strOfNums u ≠ key) (hK : DoneK keys (L + 1) K) (hS : S keys data (i + (s.length + 2 + w1.length + 1 + w2.length + l.length + w3.length)) (L + 1) K false) : S keys data i (L + 1) K M := by
 have hka := key_at data hn hb h hu hw1 (by decide)
 have h2 := drop_next h
 have h3 := drop_next (drop_app h2)
 have h4 := drop_app h3
 have h5 := drop_next h4
 have h6 := drop_app h5
 have h7 := drop_app h6
 have e : i + 1 + (s.length + 1) + w1.length = i + 1 + s.length + 1 + w1.length := by omega
 have val : S keys data (i + 1 + (s.length + 1) + w1.length + 1) (L + 1) K false := by
  rw [e]
  refine s_ws keys data w2 _ h5 hw2 (s_dead keys data hn hb hv h6 (.inr ⟨w3, c, r, rfl, hw3, hc, hc58⟩) (fun hKL => hK.2 hKL) (cont_of keys data h7 hw3 hc ?_))
  have e2 : i + 1 + s.length + 1 + w1.length + 1 + w2.length + l.length + w3.length = i + (s.length + 2 + w1.length + 1 + w2.length + l.length + w3.length) := by omega
  rw [e2]
  exact hS
 obtain ⟨n, hS⟩ := val
 exact ⟨n + 1, .keyNo _ _ _ _ _ _ _ _ _ _ key hka (by rw [e]; exact rd_drop h4) hk hne hS⟩
theorem mbs_done (keys : List ByteArray) (data : List Int) (hn : data.length < 2 ^ 38) (hb : BytesL data) {x : List Int} {ms : List (List Int × J)} (h : Mbs x ms) : ∀ (i L : Nat) (K : Int) (M : Bool) (q : List Int) (key : ByteArray), data.drop i = x ++ q → keys[L]? = some key → named key ms = [] → DoneK keys (L + 1) K →
  (∀ K' M', DoneK keys L K' → S keys data (i + x.length) L K' M') → S keys data i (L + 1) K M := by
 refine Mbs.rec (motive_1 := fun _ _ _ => True) (motive_2 := fun _ _ _ => True) (motive_3 := fun x ms _ => ∀ (i L : Nat) (K : Int) (M : Bool) (q : List Int) (key : ByteArray), data.drop i = x ++ q → keys[L]? = some key → named key ms = [] → DoneK keys (L + 1) K →
  (∀ K' M', DoneK keys L K' → S keys data (i + x.length) L K' M') → S keys data i (L + 1) K M)
  (fun _ _ => trivial) (fun _ _ => trivial) (fun _ _ => trivial) (fun _ _ _ _ _ _ => trivial) (fun _ _ => trivial) (fun _ _ _ _ _ _ => trivial) (fun _ _ _ _ _ _ => trivial) (fun _ _ _ _ _ _ _ _ _ _ _ _ => trivial) ?_ ?_ h
 ·intro s u w1 w2 l j w3 hu hw1 hw2 hv hw3 _ i L K M q key hd hk hm hK hS
  simp only [List.append_assoc, List.cons_append, List.nil_append] at hd
  by_cases hne : strOfNums u = key
  ·rw [named_cons_eq hne] at hm; cases hm
  ·refine mb_no keys data hn hb hd hu hw1 hw2 hv hw3 (by decide) (by decide) hk hne hK ?_
   have h2 := drop_app (drop_app (drop_app (drop_next (drop_app (drop_next (drop_app (drop_next hd)))))))
   refine s_close keys data (r := q) ?_ hK (fun K' M' hK' => ?_)
   ·rw [← h2]; congr 1; omega
   ·have := hS K' M' hK'
    simp only [List.length_append, List.length_cons, List.length_nil] at this
    rw [show i + (s.length + 2 + w1.length + 1 + w2.length + l.length + w3.length) + 1 = i + (s.length + (w1.length + (w2.length + (l.length + (w3.length + (0 + 1))) + 1) + 1) + 1) by omega]
    exact this
 ·intro s u w1 w2 l j w3 w4 r ms hu hw1 hw2 hv hw3 hw4 hr _ ih i L K M q key hd hk hm hK hS
  simp only [List.append_assoc, List.cons_append] at hd
  by_cases hne : strOfNums u = key
  ·rw [named_cons_eq hne] at hm; cases hm
  ·rw [named_cons_ne hne] at hm
   refine mb_no keys data hn hb hd hu hw1 hw2 hv hw3 (by decide) (by decide) hk hne hK ?_
   have h2 := drop_app (drop_app (drop_app (drop_next (drop_app (drop_next (drop_app (drop_next hd)))))))
   have h3 := drop_next h2
   have h4 := drop_app h3
   have e : i + 1 + s.length + 1 + w1.length + 1 + w2.length + l.length + w3.length = i + (s.length + 2 + w1.length + 1 + w2.length + l.length + w3.length) := by omega
   rw [e] at h2 h3 h4
   refine s_other keys data h2 (by decide) (by decide) (by decide) (by decide) (by decide) (by decide) (s_ws keys data w4 _ h3 hw4 (ih _ L K false q key h4 hk hm hK (fun K' M' hK' => ?_)))
   have := hS K' M' hK'
   simp only [List.length_append, List.length_cons] at this
   rw [show i + (s.length + 2 + w1.length + 1 + w2.length + l.length + w3.length) + 1 + w4.length + r.length = i + (s.length + (w1.length + (w2.length + (l.length + (w3.length + (w4.length + r.length + 1))) + 1) + 1) + 1) by omega]
   exact this
end
/-- Where the search has come along the keys to a value from which the others lead nowhere, it finds nothing. -/
def Live (j : J) (ks : List ByteArray) : Prop := ∀ (keys : List ByteArray) (data : List Int), data.length < 2 ^ 38 → BytesL data → ∀ (i L : Nat) (l q : List Int), keys.drop L = ks → V l j → data.drop i = l ++ q → Tl q →
 (∀ K' M', DoneK keys L K' → Cont keys data (i + l.length) L K' M') → S keys data i L (L : Int) true
section
/-- The member whose name is asked for. -/
theorem mb_yes (keys : List ByteArray) (data : List Int) (hn : data.length < 2 ^ 38) (hb : BytesL data) {i L : Nat} {M : Bool} {s u w1 w2 l w3 r : List Int} {j : J} {c : Int} {key : ByteArray} (h : data.drop i = 34 :: (s ++ 34 :: (w1 ++ 58 :: (w2 ++ (l ++ (w3 ++ c :: r)))))) (hu : Un s u) (hw1 : Ws w1) (hw2 : Ws w2) (hv : V l j) (hw3 : Ws w3)
  (hc : ¬ Blk c) (hc58 : c ≠ 58) (hk : keys[L]? = some key) (he : strOfNums u = key) (hL : L + 1 < keys.length) (hlive : Live j (keys.drop (L + 1)))
  (hS : ∀ K' M', DoneK keys (L + 1) K' → S keys data (i + (s.length + 2 + w1.length + 1 + w2.length + l.length + w3.length)) (L + 1) K' M') : S keys data i (L + 1) (L : Int) M := by
 have hka := key_at data hn hb h hu hw1 (by decide)
 have h2 := drop_next h
 have h3 := drop_next (drop_app h2)
 have h4 := drop_app h3
 have h5 := drop_next h4
 have h6 := drop_app h5
 have h7 := drop_app h6
 have e : i + 1 + (s.length + 1) + w1.length = i + 1 + s.length + 1 + w1.length := by omega
 have val : S keys data (i + 1 + (s.length + 1) + w1.length + 1) (L + 1) ((L + 1 : Nat) : Int) true := by
  rw [e]
  refine s_ws keys data w2 _ h5 hw2 (hlive keys data hn hb _ (L + 1) l _ rfl hv h6 (.inr ⟨w3, c, r, rfl, hw3, hc, hc58⟩) (fun K' M' hK' => cont_of keys data h7 hw3 hc ?_))
  have e2 : i + 1 + s.length + 1 + w1.length + 1 + w2.length + l.length + w3.length = i + (s.length + 2 + w1.length + 1 + w2.length + l.length + w3.length) := by omega
  rw [e2]
  exact hS K' M' hK'
 obtain ⟨n, hS⟩ := val
 exact ⟨n + 1, .keyYes _ _ _ _ _ _ _ _ _ key hka (by rw [e]; exact rd_drop h4) hk he hL hS⟩
theorem mbs_find (keys : List ByteArray) (data : List Int) (hn : data.length < 2 ^ 38) (hb : BytesL data) {x : List Int} {ms : List (List Int × J)} (h : Mbs x ms) : ∀ (i L : Nat) (M : Bool) (q : List Int) (key : ByteArray) (u0 : List Int) (j0 : J), data.drop i = x ++ q → keys[L]? = some key → named key ms = [(u0, j0)] → L + 1 < keys.length → Live j0 (keys.drop (L + 1)) →
  (∀ K' M', DoneK keys L K' → S keys data (i + x.length) L K' M') → S keys data i (L + 1) (L : Int) M := by
 refine Mbs.rec (motive_1 := fun _ _ _ => True) (motive_2 := fun _ _ _ => True) (motive_3 := fun x ms _ => ∀ (i L : Nat) (M : Bool) (q : List Int) (key : ByteArray) (u0 : List Int) (j0 : J), data.drop i = x ++ q → keys[L]? = some key → named key ms = [(u0, j0)] → L + 1 < keys.length → Live j0 (keys.drop (L + 1)) →
  (∀ K' M', DoneK keys L K' → S keys data (i + x.length) L K' M') → S keys data i (L + 1) (L : Int) M)
  (fun _ _ => trivial) (fun _ _ => trivial) (fun _ _ => trivial) (fun _ _ _ _ _ _ => trivial) (fun _ _ => trivial) (fun _ _ _ _ _ _ => trivial) (fun _ _ _ _ _ _ => trivial) (fun _ _ _ _ _ _ _ _ _ _ _ _ => trivial) ?_ ?_ h
 ·intro s u w1 w2 l j w3 hu hw1 hw2 hv hw3 _ i L M q key u0 j0 hd hk hm hL hlive hS
  simp only [List.append_assoc, List.cons_append, List.nil_append] at hd
  by_cases hne : strOfNums u = key
  ·rw [named_cons_eq hne] at hm
   injection hm with h1 h2
   injection h1 with h3 h4
   subst h4
   refine mb_yes keys data hn hb hd hu hw1 hw2 hv hw3 (by decide) (by decide) hk hne hL hlive (fun K M hK => ?_)
   have h2 := drop_app (drop_app (drop_app (drop_next (drop_app (drop_next (drop_app (drop_next hd)))))))
   refine s_close keys data (r := q) ?_ hK (fun K' M' hK' => ?_)
   ·rw [← h2]; congr 1; omega
   ·have := hS K' M' hK'
    simp only [List.length_append, List.length_cons, List.length_nil] at this
    rw [show i + (s.length + 2 + w1.length + 1 + w2.length + l.length + w3.length) + 1 = i + (s.length + (w1.length + (w2.length + (l.length + (w3.length + (0 + 1))) + 1) + 1) + 1) by omega]
    exact this
  ·rw [named_cons_ne hne] at hm; cases hm
 ·intro s u w1 w2 l j w3 w4 r ms hu hw1 hw2 hv hw3 hw4 hr _ ih i L M q key u0 j0 hd hk hm hL hlive hS
  simp only [List.append_assoc, List.cons_append] at hd
  have h2 := drop_app (drop_app (drop_app (drop_next (drop_app (drop_next (drop_app (drop_next hd)))))))
  have h3 := drop_next h2
  have h4 := drop_app h3
  have e : i + 1 + s.length + 1 + w1.length + 1 + w2.length + l.length + w3.length = i + (s.length + 2 + w1.length + 1 + w2.length + l.length + w3.length) := by omega
  rw [e] at h2 h3 h4
  have hS' : ∀ K' M', DoneK keys L K' → S keys data (i + (s.length + 2 + w1.length + 1 + w2.length + l.length + w3.length) + 1 + w4.length + r.length) L K' M' := fun K' M' hK' => by
   have := hS K' M' hK'
   simp only [List.length_append, List.length_cons] at this
   rw [show i + (s.length + 2 + w1.length + 1 + w2.length + l.length + w3.length) + 1 + w4.length + r.length = i + (s.length + (w1.length + (w2.length + (l.length + (w3.length + (w4.length + r.length + 1))) + 1) + 1) + 1) by omega]
   exact this
  by_cases hne : strOfNums u = key
  ·rw [named_cons_eq hne] at hm
   injection hm with h5 h6
   injection h5 with h7 h8
   subst h8
   exact mb_yes keys data hn hb hd hu hw1 hw2 hv hw3 (by decide) (by decide) hk hne hL hlive (fun K M hK =>
    s_other keys data h2 (by decide) (by decide) (by decide) (by decide) (by decide) (by decide) (s_ws keys data w4 _ h3 hw4 (mbs_done keys data hn hb hr _ L K M q key h4 hk h6 hK hS')))
  ·rw [named_cons_ne hne] at hm
   exact mb_no keys data hn hb hd hu hw1 hw2 hv hw3 (by decide) (by decide) hk hne ⟨by omega, fun h => by omega⟩
    (s_other keys data h2 (by decide) (by decide) (by decide) (by decide) (by decide) (by decide) (s_ws keys data w4 _ h3 hw4 (ih _ L false q key u0 j0 h4 hk hm hL hlive hS')))
end
theorem drop_key {keys : List ByteArray} {L : Nat} {key : ByteArray} {rest : List ByteArray} (h : keys.drop L = key :: rest) : keys[L]? = some key ∧ keys.drop (L + 1) = rest ∧ L < keys.length := by
 refine ⟨?_, drop_next h, drop_lt h⟩
 rw [List.drop_eq_getElem_cons (drop_lt h)] at h
 injection h with h1 h2
 rw [List.getElem?_eq_getElem (drop_lt h), h1]
theorem miss_ne {j : J} {ks : List ByteArray} (h : Miss j ks) : ks ≠ [] := by cases h <;> simp
theorem live_of {j : J} {ks : List ByteArray} (h : Miss j ks) : Live j ks := by
 induction h with
 | leaf j key rest hj hi =>
  intro keys data hn hb i L l q hk hv hd ht hC
  obtain ⟨hk1, hk2, hk3⟩ := drop_key hk
  have hCL := hC L true ⟨by omega, fun _ => ⟨key, hk1, hi⟩⟩
  rcases hj with rfl | rfl
  ·cases hv with
   | atom l hl => exact s_run keys data l i hd (atom_c hl) (cont_s keys data hCL)
  ·cases hv with
   | str s hs => exact s_str keys data hn hb (by simpa using hd) hs ht (by simpa using hCL)
 | objNone ms key rest hm hi =>
  intro keys data hn hb i L l q hk hv hd ht hC
  obtain ⟨hk1, hk2, hk3⟩ := drop_key hk
  cases hv with
  | obj0 w hw =>
   have e : data.drop i = 123 :: (w ++ 125 :: q) := by rw [hd]; simp
   have h2 := drop_next e
   have h3 := drop_app h2
   have inn : S keys data (i + 1) (L + 1) (L : Int) true := s_ws keys data w _ h2 hw (s_close keys data h3 ⟨by omega, fun h => by omega⟩ (fun K' M' hK' => by
    have := cont_s keys data (hC K' M' hK')
    rw [show i + 1 + w.length + 1 = i + (123 :: (w ++ [125])).length by simp; omega]
    exact this))
   obtain ⟨n, hS⟩ := inn
   exact ⟨n + 1, .openIn _ _ _ _ _ _ (drop_lt e) (rd_drop e) (by omega) hS⟩
  | obj w l ms hw hl =>
   have e : data.drop i = 123 :: (w ++ (l ++ q)) := by rw [hd]; simp
   have h2 := drop_next e
   have h3 := drop_app h2
   have inn : S keys data (i + 1) (L + 1) (L : Int) true := s_ws keys data w _ h2 hw (mbs_done keys data hn hb hl _ L L true q key h3 hk1 hm ⟨by omega, fun h => by omega⟩ (fun K' M' hK' => by
    have := cont_s keys data (hC K' M' hK')
    rw [show i + 1 + w.length + l.length = i + (123 :: (w ++ l)).length by simp; omega]
    exact this))
   obtain ⟨n, hS⟩ := inn
   exact ⟨n + 1, .openIn _ _ _ _ _ _ (drop_lt e) (rd_drop e) (by omega) hS⟩
 | objDown ms key rest u j hm hi hmiss ih =>
  intro keys data hn hb i L l q hk hv hd ht hC
  obtain ⟨hk1, hk2, hk3⟩ := drop_key hk
  cases hv with
  | obj0 w hw => simp [named] at hm
  | obj w l ms hw hl =>
   have e : data.drop i = 123 :: (w ++ (l ++ q)) := by rw [hd]; simp
   have h2 := drop_next e
   have h3 := drop_app h2
   have hL : L + 1 < keys.length := by
    have := miss_ne hmiss
    rw [← hk2] at this
    rcases Nat.lt_or_ge (L + 1) keys.length with h | h
    ·exact h
    ·exact absurd (List.drop_eq_nil_of_le h) this
   have inn : S keys data (i + 1) (L + 1) (L : Int) true := s_ws keys data w _ h2 hw (mbs_find keys data hn hb hl _ L true q key u j h3 hk1 hm hL (by rw [hk2]; exact ih) (fun K' M' hK' => by
    have := cont_s keys data (hC K' M' hK')
    rw [show i + 1 + w.length + l.length = i + (123 :: (w ++ l)).length by simp; omega]
    exact this))
   obtain ⟨n, hS⟩ := inn
   exact ⟨n + 1, .openIn _ _ _ _ _ _ (drop_lt e) (rd_drop e) (by omega) hS⟩
 | arrName ks key rest hi =>
  intro keys data hn hb i L l q hk hv hd ht hC
  obtain ⟨hk1, hk2, hk3⟩ := drop_key hk
  have hle : (l ++ q).length = data.length - i := by rw [← hd, List.length_drop]
  obtain ⟨k, hb1⟩ := ev_one (blkAb l q ks hv (by rw [hle]; omega) (by rw [← hd]; exact hb.drop _))
  rw [← hd] at hb1
  have hh : ∃ r, l = 91 :: r := by cases hv with
   | arr0 w hw => exact ⟨_, rfl⟩
   | arr w l ks hw hl => exact ⟨_, rfl⟩
  obtain ⟨r, hr⟩ := hh
  have e : data.drop i = 91 :: (r ++ q) := by rw [hd, hr]; rfl
  have h1 : 1 ≤ l.length := by rw [hr]; simp
  have hlt := drop_lt e
  rw [List.length_append] at hle
  obtain ⟨n, hS⟩ := cont_s keys data (hC L true ⟨by omega, fun _ => ⟨key, hk1, hi⟩⟩)
  exact ⟨n + 1, .arrName _ _ _ _ _ _ k l.length key hlt (rd_drop e) hk1 hi hb1 h1 (by omega) hS⟩
 | arrFar ks key rest d hbr hfar =>
  intro keys data hn hb i L l q hk hv hd ht hC
  obtain ⟨hk1, hk2, hk3⟩ := drop_key hk
  obtain ⟨els, ha, hf⟩ := arr_ael (data.drop i) (by rw [List.length_drop]; omega) (hb.drop _) hv hd
  have hh : ∃ r, l = 91 :: r := by cases hv with
   | arr0 w hw => exact ⟨_, rfl⟩
   | arr w l ks hw hl => exact ⟨_, rfl⟩
  obtain ⟨r, hr⟩ := hh
  have e : data.drop i = 91 :: (r ++ q) := by rw [hd, hr]; rfl
  exact ⟨0, .arrFar _ _ _ _ _ _ key d els (drop_lt e) (rd_drop e) hk1 hbr ha (by rw [hf.1]; exact hfar)⟩
 | arrDown ks key rest d j hbr hj hmiss ih =>
  intro keys data hn hb i L l q hk hv hd ht hC
  obtain ⟨hk1, hk2, hk3⟩ := drop_key hk
  obtain ⟨els, ha, hf⟩ := arr_ael (data.drop i) (by rw [List.length_drop]; omega) (hb.drop _) hv hd
  have hh : ∃ r, l = 91 :: r := by cases hv with
   | arr0 w hw => exact ⟨_, rfl⟩
   | arr w l ks hw hl => exact ⟨_, rfl⟩
  obtain ⟨r, hr⟩ := hh
  have e : data.drop i = 91 :: (r ++ q) := by rw [hd, hr]; rfl
  obtain ⟨b, e', ty, le, q', hel, hdb, rfl, hve⟩ := hf.2 _ j hj
  rw [List.drop_drop] at hdb
  have hL : L + 1 < keys.length := by
   have := miss_ne hmiss
   rw [← hk2] at this
   rcases Nat.lt_or_ge (L + 1) keys.length with h | h
   ·exact h
   ·exact absurd (List.drop_eq_nil_of_le h) this
  have hcut : (data.take (i + (b + le.length))).drop (i + b) = le := by rw [← Nat.add_assoc]; exact cut_at hdb
  have hbl : BytesL le := fun c hc => hb c (List.mem_of_mem_drop (i := i + b) (by rw [hdb]; exact List.mem_append_left _ hc))
  have hln : le.length ≤ data.length := by
   have := congrArg List.length hdb
   rw [List.length_drop, List.length_append] at this
   omega
  obtain ⟨n, hS⟩ := ih (keys.drop (L + 1)) le (by omega) hbl 0 0 le [] (by rw [List.drop_zero, hk2]) hve (by simp) (.inl (fun _ h => by cases h)) (fun K' M' _ => cont_end _ _ (by simp [Ws]) (by omega))
  exact ⟨n + 1, .arrDown _ _ _ _ _ _ key d els b _ ty (drop_lt e) (rd_drop e) hk1 hbr ha hel hL (by rw [hcut]; exact hS)⟩
/-- WHERE KEYS LEAD NOWHERE THE SEARCH FINDS NOTHING. -/
theorem misses_sk {data w l v : List Int} {j : J} {keys : List ByteArray} (hd : data = w ++ (l ++ v)) (hw : Ws w) (hv : Ws v) (hl : V l j) (hm : Miss j keys) (hn : data.length < 2 ^ 38) (hb : BytesL data) : ∃ n, Sk keys data n 0 0 0 true := by
 have h1 : data.drop (0 + w.length) = l ++ v := by rw [hd, Nat.zero_add, List.drop_left]
 have h2 := drop_app h1
 refine s_ws keys data w 0 (by rw [List.drop_zero]; exact hd) hw (live_of hm keys data hn hb (0 + w.length) 0 l v rfl hl h1 (.inl hv) (fun K' M' _ => cont_end keys data (by rw [h2]; exact hv) ?_))
 rw [hd]; simp only [List.length_append]; omega
end Go.Proofs.YthgpfljhmhkaiacGreatDoor.PFnJrTypedMisses
