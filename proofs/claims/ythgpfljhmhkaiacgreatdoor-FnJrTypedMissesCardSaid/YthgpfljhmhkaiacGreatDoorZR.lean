/- Part of the proof that laws.FnJrTypedMisses answers true for every input (the card: text ZF). -/
import Derived.Test.YthgpfljhmhkaiacGreatDoorV10
import Derived.Test.YthgpfljhmhkaiacGreatDoorV11
set_option linter.all false
/- JSON texts as lists of bytes: a grammar, the names of members without their escapes, and where keys lead nowhere. -/
namespace Go.Proofs.YthgpfljhmhkaiacGreatDoor.PFnJrTypedMisses
open Go.RowKit Go.Proofs.YthgpfljhmhkaiacGreatDoorW.PrintWords Go.Proofs.YthgpfljhmhkaiacGreatDoorW.PrintLast Go.Proofs.YthgpfljhmhkaiacGreatDoorW.PrintMore
/-- A blank. -/
def Blk (c : Int) : Prop := c = 32 ∨ c = 9 ∨ c = 10 ∨ c = 13
instance (c : Int) : Decidable (Blk c) := by unfold Blk; infer_instance
/-- Blanks alone. -/
def Ws (l : List Int) : Prop := ∀ c ∈ l, Blk c
def HexD (c : Int) : Prop := (48 ≤ c ∧ c ≤ 57) ∨ (97 ≤ c ∧ c ≤ 102) ∨ (65 ≤ c ∧ c ≤ 70)
instance (c : Int) : Decidable (HexD c) := by unfold HexD; infer_instance
/-- What a hexadecimal digit counts. -/
def hexV (c : Int) : Int := if c ≤ 57 then c - 48 else if c ≤ 70 then c - 55 else c - 87
theorem hexV_range {c : Int} (h : HexD c) : 0 ≤ hexV c ∧ hexV c ≤ 15 := by
 unfold hexV
 rcases h with h | h | h
 ·rw [if_pos (by omega)]; omega
 ·rw [if_neg (by omega), if_neg (by omega)]; omega
 ·rw [if_neg (by omega), if_pos (by omega)]; omega
def hex4 (a b c d : Int) : Int := hexV a * 4096 + hexV b * 256 + hexV c * 16 + hexV d
theorem hex4_range {a b c d : Int} (ha : HexD a) (hb : HexD b) (hc : HexD c) (hd : HexD d) : 0 ≤ hex4 a b c d ∧ hex4 a b c d ≤ 65535 := by
 have := hexV_range ha
 have := hexV_range hb
 have := hexV_range hc
 have := hexV_range hd
 unfold hex4
 omega
/-- The letters of an escape of one letter. -/
def Esc1 (e : Int) : Prop := e = 34 ∨ e = 92 ∨ e = 47 ∨ e = 98 ∨ e = 102 ∨ e = 110 ∨ e = 114 ∨ e = 116
instance (c : Int) : Decidable (Esc1 c) := by unfold Esc1; infer_instance
/-- The inside of a string. -/
inductive SB : List Int → Prop
 | nil : SB []
 | chr (c : Int) (s : List Int) : 32 ≤ c → c ≤ 255 → c ≠ 34 → c ≠ 92 → SB s → SB (c :: s)
 | esc (e : Int) (s : List Int) : Esc1 e → SB s → SB (92 :: e :: s)
 | uni (a b c d : Int) (s : List Int) : HexD a → HexD b → HexD c → HexD d → SB s → SB (92 :: 117 :: a :: b :: c :: d :: s)
/-- The byte that a letter behind a backslash stands for. -/
def shortB (e : Int) : Int := if e = 98 then 8 else if e = 102 then 12 else if e = 110 then 10 else if e = 114 then 13 else if e = 116 then 9 else e
def HighS (r : Int) : Prop := 55296 ≤ r ∧ r ≤ 56319
def LowS (r : Int) : Prop := 56320 ≤ r ∧ r ≤ 57343
instance (c : Int) : Decidable (HighS c) := by unfold HighS; infer_instance
instance (c : Int) : Decidable (LowS c) := by unfold LowS; infer_instance
/-- The bytes of a character; those of U+FFFD for half a surrogate pair. -/
def utf8 (r : Int) : List Int :=
 if r < 128 then [r] else if r < 2048 then [192 + r / 64, 128 + r % 64]
 else if HighS r ∨ LowS r then [239, 191, 189]
 else if r < 65536 then [224 + r / 4096, 128 + r / 64 % 64, 128 + r % 64]
 else [240 + r / 262144, 128 + r / 4096 % 64, 128 + r / 64 % 64, 128 + r % 64]
def pairR (h l : Int) : Int := 65536 + (h - 55296) * 1024 + (l - 56320)
/-- A text begins with a low surrogate's escape. -/
def LowNext (s : List Int) : Prop := ∃ a b c d r, s = 92 :: 117 :: a :: b :: c :: d :: r ∧ HexD a ∧ HexD b ∧ HexD c ∧ HexD d ∧ LowS (hex4 a b c d)
/-- What the inside of a string stands for. -/
inductive Un : List Int → List Int → Prop
 | nil : Un [] []
 | chr (c : Int) (s u : List Int) : 32 ≤ c → c ≤ 255 → c ≠ 34 → c ≠ 92 → Un s u → Un (c :: s) (c :: u)
 | esc (e : Int) (s u : List Int) : Esc1 e → Un s u → Un (92 :: e :: s) (shortB e :: u)
 | uni (a b c d : Int) (s u : List Int) : HexD a → HexD b → HexD c → HexD d → ¬ (HighS (hex4 a b c d) ∧ LowNext s) → Un s u → Un (92 :: 117 :: a :: b :: c :: d :: s) (utf8 (hex4 a b c d) ++ u)
 | pair (a b c d a' b' c' d' : Int) (s u : List Int) : HexD a → HexD b → HexD c → HexD d → HexD a' → HexD b' → HexD c' → HexD d' → HighS (hex4 a b c d) → LowS (hex4 a' b' c' d') → Un s u →
   Un (92 :: 117 :: a :: b :: c :: d :: 92 :: 117 :: a' :: b' :: c' :: d' :: s) (utf8 (pairR (hex4 a b c d) (hex4 a' b' c' d')) ++ u)
theorem Un.SB {s u : List Int} (h : Un s u) : SB s := by
 induction h with
 | nil => exact .nil
 | chr c s u h1 h2 h3 h4 _ ih => exact .chr c s h1 h2 h3 h4 ih
 | esc e s u h _ ih => exact .esc e s h ih
 | uni a b c d s u ha hb hc hd _ _ ih => exact .uni a b c d s ha hb hc hd ih
 | pair a b c d a' b' c' d' s u ha hb hc hd ha' hb' hc' hd' _ _ _ ih => exact .uni a b c d _ ha hb hc hd (.uni a' b' c' d' s ha' hb' hc' hd' ih)
theorem SB.un : ∀ (m : Nat) {s : List Int}, s.length ≤ m → SB s → ∃ u, Un s u
 | 0, s, hm, h => by
  have : s = [] := List.length_eq_zero_iff.mp (by omega)
  subst this
  exact ⟨[], .nil⟩
 | m + 1, s, hm, h => by
  cases h with
  | nil => exact ⟨[], .nil⟩
  | chr c s h1 h2 h3 h4 hs =>
   obtain ⟨u, hu⟩ := SB.un m (by simp at hm; omega) hs
   exact ⟨_, .chr c s u h1 h2 h3 h4 hu⟩
  | esc e s he hs =>
   obtain ⟨u, hu⟩ := SB.un m (by simp at hm; omega) hs
   exact ⟨_, .esc e s u he hu⟩
  | uni a b c d s ha hb hc hd hs =>
   by_cases hp : HighS (hex4 a b c d) ∧ LowNext s
   ·obtain ⟨hh, a', b', c', d', r, rfl, ha', hb', hc', hd', hl⟩ := hp
    have hr : PFnJrTypedMisses.SB r := by
     cases hs with
     | chr c s h1 h2 h3 h4 hs => exact absurd rfl h4
     | esc e s he hs => exact absurd he (by unfold Esc1; decide)
     | uni a b c d s _ _ _ _ hs => exact hs
    obtain ⟨u, hu⟩ := SB.un m (by simp at hm; omega) hr
    exact ⟨_, .pair a b c d a' b' c' d' r u ha hb hc hd ha' hb' hc' hd' hh hl hu⟩
   ·obtain ⟨u, hu⟩ := SB.un m (by simp at hm; omega) hs
    exact ⟨_, .uni a b c d s u ha hb hc hd hp hu⟩
/-- A value's shape: names without their escapes. -/
inductive J
 | atom : J
 | str : J
 | arr : List J → J
 | obj : List (List Int × J) → J
def NumC (c : Int) : Prop := (48 ≤ c ∧ c ≤ 57) ∨ c = 45 ∨ c = 43 ∨ c = 46 ∨ c = 101 ∨ c = 69
/-- The text of a number (its bytes alone), of true, false or null. -/
def AtomOk (l : List Int) : Prop := l = [110, 117, 108, 108] ∨ l = [102, 97, 108, 115, 101] ∨ l = [116, 114, 117, 101] ∨
 ((∀ c ∈ l, NumC c) ∧ ∃ c r, l = c :: r ∧ (c = 45 ∨ (48 ≤ c ∧ c ≤ 57)))
mutual
/-- A value's text, without blanks around it. -/
inductive V : List Int → J → Prop
 | atom (l : List Int) : AtomOk l → V l .atom
 | str (s : List Int) : SB s → V (34 :: (s ++ [34])) .str
 | arr0 (w : List Int) : Ws w → V (91 :: (w ++ [93])) (.arr [])
 | arr (w l : List Int) (ks : List J) : Ws w → Els l ks → V (91 :: (w ++ l)) (.arr ks)
 | obj0 (w : List Int) : Ws w → V (123 :: (w ++ [125])) (.obj [])
 | obj (w l : List Int) (ms : List (List Int × J)) : Ws w → Mbs l ms → V (123 :: (w ++ l)) (.obj ms)
/-- The elements of an array and its end. -/
inductive Els : List Int → List J → Prop
 | last (l : List Int) (j : J) (w : List Int) : V l j → Ws w → Els (l ++ (w ++ [93])) [j]
 | more (l : List Int) (j : J) (w1 w2 r : List Int) (ks : List J) : V l j → Ws w1 → Ws w2 → Els r ks → Els (l ++ (w1 ++ 44 :: (w2 ++ r))) (j :: ks)
/-- The members of an object and its end. -/
inductive Mbs : List Int → List (List Int × J) → Prop
 | last (s u w1 w2 l : List Int) (j : J) (w3 : List Int) : Un s u → Ws w1 → Ws w2 → V l j → Ws w3 → Mbs (34 :: (s ++ 34 :: (w1 ++ 58 :: (w2 ++ (l ++ (w3 ++ [125])))))) [(u, j)]
 | more (s u w1 w2 l : List Int) (j : J) (w3 w4 r : List Int) (ms : List (List Int × J)) : Un s u → Ws w1 → Ws w2 → V l j → Ws w3 → Ws w4 → Mbs r ms →
   Mbs (34 :: (s ++ 34 :: (w1 ++ 58 :: (w2 ++ (l ++ (w3 ++ 44 :: (w4 ++ r))))))) ((u, j) :: ms)
end
/-- A key that begins as an index does. -/
def IdxK (key : ByteArray) : Prop := ∃ r, bytesOf key = 91 :: r
/-- What decimal digits count. -/
def decV (d : List Int) : Int := d.foldl (fun v c => v * 10 + (c - 48)) 0
/-- A key '[d]', d of decimal digits. -/
def BrK (key : ByteArray) (d : List Int) : Prop := bytesOf key = 91 :: (d ++ [93]) ∧ d ≠ [] ∧ (∀ c ∈ d, 48 ≤ c ∧ c ≤ 57) ∧ d.length ≤ 18
/-- The members of a name. -/
def named (key : ByteArray) (ms : List (List Int × J)) : List (List Int × J) := ms.filter fun m => decide (strOfNums m.1 = key)
/-- Keys lead nowhere, as the statement says it. -/
inductive Miss : J → List ByteArray → Prop
 | leaf (j : J) (key : ByteArray) (rest : List ByteArray) : j = .atom ∨ j = .str → ¬ IdxK key → Miss j (key :: rest)
 | objNone (ms : List (List Int × J)) (key : ByteArray) (rest : List ByteArray) : named key ms = [] → ¬ IdxK key → Miss (.obj ms) (key :: rest)
 | objDown (ms : List (List Int × J)) (key : ByteArray) (rest : List ByteArray) (u : List Int) (j : J) : named key ms = [(u, j)] → ¬ IdxK key → Miss j rest → Miss (.obj ms) (key :: rest)
 | arrName (ks : List J) (key : ByteArray) (rest : List ByteArray) : ¬ IdxK key → Miss (.arr ks) (key :: rest)
 | arrFar (ks : List J) (key : ByteArray) (rest : List ByteArray) (d : List Int) : BrK key d → (ks.length : Int) ≤ decV d → Miss (.arr ks) (key :: rest)
 | arrDown (ks : List J) (key : ByteArray) (rest : List ByteArray) (d : List Int) (j : J) : BrK key d → ks[(decV d).toNat]? = some j → Miss j rest → Miss (.arr ks) (key :: rest)
theorem w64n {n : Nat} (h : n < 2 ^ 40) : wrap64 (n : Int) = n := Go.IntWalk.wrap64_in _ (by omega)
theorem w64s {n m : Nat} (h : n + m < 2 ^ 40) : wrap64 ((n : Int) + (m : Int)) = ((n + m : Nat) : Int) := by rw [← Int.natCast_add]; exact w64n h
theorem w64_1 {n : Nat} (h : n < 2 ^ 39) : wrap64 ((n : Int) + 1) = ((n + 1 : Nat) : Int) := w64s (m := 1) (by omega)
theorem drop_lt {α : Type} {l : List α} {i : Nat} {c : α} {r : List α} (h : l.drop i = c :: r) : i < l.length := by
 rcases Nat.lt_or_ge i l.length with h1 | h1
 ·exact h1
 ·rw [List.drop_eq_nil_of_le h1] at h; cases h
theorem drop_next {α : Type} {l : List α} {i : Nat} {c : α} {r : List α} (h : l.drop i = c :: r) : l.drop (i + 1) = r := by
 rw [← List.drop_drop, h]; rfl
theorem drop_app {α : Type} {l : List α} {i : Nat} {w r : List α} (h : l.drop i = w ++ r) : l.drop (i + w.length) = r := by
 rw [← List.drop_drop, h]; simp
theorem drop_len {α : Type} {l : List α} {i : Nat} {s : List α} (h : l.drop i = s) (hi : i ≤ l.length) : i + s.length = l.length := by
 subst h; rw [List.length_drop]; omega
theorem rd_drop {l : List Int} {i : Nat} {c : Int} {r : List Int} (h : l.drop i = c :: r) : rd l (i : Int) = c := by
 have hl := drop_lt h
 rw [List.drop_eq_getElem_cons hl] at h
 injection h with h1 h2
 simp [rd, List.getD_eq_getElem?_getD, List.getElem?_eq_getElem hl, h1]
theorem bt_drop {a : ByteArray} {i : Nat} {c : Int} {r : List Int} (h : (bytesOf a).drop i = c :: r) : bt a (i : Int) = c := by
 rw [← rd_bytesOf]; exact rd_drop h
theorem sz_lt {a : ByteArray} {i : Nat} {c : Int} {r : List Int} (h : (bytesOf a).drop i = c :: r) : i < a.size := by
 have := drop_lt h; rwa [bytesOf_length] at this
theorem sz_ge {a : ByteArray} {i : Nat} (h : (bytesOf a).drop i = []) : a.size ≤ i := by
 rw [← bytesOf_length]; exact List.drop_eq_nil_iff.mp h
theorem sz_len {a : ByteArray} {i : Nat} {s : List Int} (h : (bytesOf a).drop i = s) (hi : i ≤ a.size) : i + s.length = a.size := by
 have := drop_len h (by rw [bytesOf_length]; exact hi)
 rwa [bytesOf_length] at this
theorem byte_range {a : ByteArray} {c : Int} (h : c ∈ bytesOf a) : 0 ≤ c ∧ c ≤ 255 := by
 unfold bytesOf at h
 obtain ⟨b, _, rfl⟩ := List.mem_map.mp h
 have := b.toNat_lt
 omega
theorem byte_drop {a : ByteArray} {i : Nat} {c : Int} {r : List Int} (h : (bytesOf a).drop i = c :: r) : 0 ≤ c ∧ c ≤ 255 :=
 byte_range (List.mem_of_mem_drop (i := i) (by rw [h]; exact List.mem_cons_self))
theorem bytesOf_extract (a : ByteArray) (i j : Nat) : bytesOf (a.extract i j) = ((bytesOf a).take j).drop i := by
 unfold bytesOf
 rw [ByteArray.data_extract, Array.toList_extract, List.extract_eq_take_drop, List.map_take, List.map_drop, List.drop_take]
theorem bytesOf_inj {a b : ByteArray} (h : bytesOf a = bytesOf b) : a = b := by
 unfold bytesOf at h
 have h1 : a.data.toList = b.data.toList := by
  refine List.map_inj_right (f := fun b : UInt8 => (b.toNat : Int)) (fun x y hxy => ?_) |>.mp h
  exact UInt8.toNat_inj.mp (by omega)
 exact ByteArray.ext (Array.toList_inj.mp h1)
theorem blank_f (c : Int) : spec_Blank.f c = some (decide (Blk c)) := by
 unfold spec_Blank.f Blk
 by_cases h1 : c = 32
 ·simp [h1]
 by_cases h2 : c = 9
 ·simp [h2]
 by_cases h3 : c = 10
 ·simp [h3]
 by_cases h4 : c = 13
 ·simp [h4]
 ·simp [h1, h2, h3, h4]
/-- A text's head is no blank. -/
def NoBlk (r : List Int) : Prop := ∀ c r', r = c :: r' → ¬ Blk c
theorem blanks_l0 (a : ByteArray) (hn : a.size ≤ 65536) : ∀ (s : List Int) (i k : Nat), (bytesOf a).drop i = s → s.length < k →
  ∃ w r, s = w ++ r ∧ Ws w ∧ NoBlk r ∧ spec_reader_blanks.l0 k a (i : Int) = some (a, ((i + w.length : Nat) : Int)) := by
 intro s
 induction s with
 | nil =>
  intro i k h hk
  obtain ⟨k, rfl⟩ : ∃ m, k = m + 1 := ⟨k - 1, by simp at hk; omega⟩
  have := sz_ge h
  refine ⟨[], [], rfl, (by intro c hc; cases hc), (by intro c r' hr; cases hr), ?_⟩
  simp only [spec_reader_blanks.l0]
  rw [if_neg (by omega)]
  rfl
 | cons c r ih =>
  intro i k h hk
  obtain ⟨k, rfl⟩ : ∃ m, k = m + 1 := ⟨k - 1, by simp at hk; omega⟩
  have hlt := sz_lt h
  simp only [spec_reader_blanks.l0]
  rw [if_pos (by omega), if_pos (by omega), bt_drop h, blank_f]
  simp only [Option.bind_some]
  by_cases hb : Blk c
  ·obtain ⟨w, r', e, hw, hr, he⟩ := ih (i + 1) k (drop_next h) (by simp at hk; omega)
   refine ⟨c :: w, r', by rw [e]; rfl, ?_, hr, ?_⟩
   ·intro x hx
    rcases List.mem_cons.mp hx with rfl | hx
    ·exact hb
    ·exact hw x hx
   ·rw [if_pos (by simpa using hb), w64_1 (by omega), he, List.length_cons, Nat.add_assoc, Nat.add_comm 1]
  ·refine ⟨[], c :: r, rfl, (by intro c hc; cases hc), ?_, ?_⟩
   ·intro c' r' e
    injection e with e1 e2
    rw [← e1]; exact hb
   ·rw [if_neg (by simpa using hb)]; rfl
theorem blanks_f (a : ByteArray) (hn : a.size ≤ 65536) {s : List Int} {i k : Nat} (h : (bytesOf a).drop i = s) (hk : s.length < k) :
  ∃ w r, s = w ++ r ∧ Ws w ∧ NoBlk r ∧ spec_reader_blanks.f k a (i : Int) = some (a, ((i + w.length : Nat) : Int)) := blanks_l0 a hn s i k h hk
theorem here_nil {a : ByteArray} {i : Nat} (h : (bytesOf a).drop i = []) : spec_reader_here.f a (i : Int) = some (0, a, (i : Int)) := by
 have := sz_ge h
 unfold spec_reader_here.f
 rw [if_neg (by omega)]
theorem here_cons {a : ByteArray} {i : Nat} {c : Int} {r : List Int} (h : (bytesOf a).drop i = c :: r) : spec_reader_here.f a (i : Int) = some (c, a, (i : Int)) := by
 have := sz_lt h
 unfold spec_reader_here.f
 rw [if_pos (by omega), if_pos (by omega), bt_drop h]
theorem hexDigit_f (k : Nat) (hk : 2 ≤ k) (c : Int) (h0 : 0 ≤ c) (h1 : c ≤ 255) : ∃ v, spec_hexDigit.f k c = some (v, decide (HexD c)) ∧ (HexD c → v = hexV c) := by
 obtain ⟨k, rfl⟩ : ∃ m, k = m + 2 := ⟨k - 2, by omega⟩
 unfold spec_hexDigit.f
 by_cases a1 : 48 ≤ c ∧ c ≤ 57
 ·refine ⟨c - 48, ?_, fun _ => by unfold hexV; rw [if_pos (by omega)]⟩
  rw [if_pos a1.1]
  simp only [spec_hexDigit.j0]
  rw [if_pos (by simpa using a1.2)]
  rw [show (c - 48) % 256 = c - 48 by omega, show decide (HexD c) = true from decide_eq_true (.inl a1)]
 ·by_cases a2 : 97 ≤ c ∧ c ≤ 102
  ·refine ⟨c - 87, ?_, fun _ => by unfold hexV; rw [if_neg (by omega), if_neg (by omega)]⟩
   rw [if_pos (by omega)]
   simp only [spec_hexDigit.j0]
   rw [if_neg (by simp; omega), if_pos a2.1]
   simp only [spec_hexDigit.j1]
   rw [if_pos (by simpa using a2.2), show (c - 97) % 256 + 10 = c - 87 by omega, show decide (HexD c) = true from decide_eq_true (.inr (.inl a2))]
  ·by_cases a3 : 65 ≤ c ∧ c ≤ 70
   ·refine ⟨c - 55, ?_, fun _ => by unfold hexV; rw [if_neg (by omega), if_pos (by omega)]⟩
    rw [if_pos (by omega)]
    simp only [spec_hexDigit.j0]
    rw [if_neg (by simp; omega), if_neg (by omega)]
    simp only [spec_hexDigit.j1]
    rw [if_neg (by simp), if_pos a3.1, if_pos a3.2, show (c - 65) % 256 + 10 = c - 55 by omega, show decide (HexD c) = true from decide_eq_true (.inr (.inr a3))]
   ·have hn : ¬ HexD c := by unfold HexD; omega
    refine ⟨0, ?_, fun h => absurd h hn⟩
    rw [show decide (HexD c) = false from decide_eq_false hn]
    by_cases b1 : 48 ≤ c
    ·rw [if_pos b1]
     simp only [spec_hexDigit.j0]
     rw [if_neg (by simp; omega)]
     by_cases b2 : 97 ≤ c
     ·rw [if_pos b2]
      simp only [spec_hexDigit.j1]
      rw [if_neg (by simp; omega), if_pos (by omega), if_neg (by omega)]
     ·rw [if_neg b2]
      simp only [spec_hexDigit.j1]
      rw [if_neg (by simp)]
      by_cases b3 : 65 ≤ c
      ·rw [if_pos b3, if_neg (by omega)]
      ·rw [if_neg b3]
    ·rw [if_neg b1]
     simp only [spec_hexDigit.j0]
     rw [if_neg (by simp), if_neg (by omega)]
     simp only [spec_hexDigit.j1]
     rw [if_neg (by simp), if_neg (by omega)]
/-- A step of the reader: what it answers, and the bytes that it passes. -/
def Stp (a : ByteArray) (i : Nat) (g : Option (Bool × ByteArray × Int)) (P : Bool → List Int → Prop) : Prop :=
 ∃ b w r, (bytesOf a).drop i = w ++ r ∧ g = some (b, a, ((i + w.length : Nat) : Int)) ∧ P b w
theorem take_f (a : ByteArray) (hn : a.size ≤ 65536) (i : Nat) (c : Int) : Stp a i (spec_reader_take.f a (i : Int) c) fun b w => (b = true ∧ w = [c]) ∨ (b = false ∧ w = [] ∧ ∀ r, (bytesOf a).drop i ≠ c :: r) := by
 cases h : (bytesOf a).drop i with
 | nil =>
  have := sz_ge h
  refine ⟨false, [], [], h, ?_, .inr ⟨rfl, rfl, fun r e => (by cases e)⟩⟩
  unfold spec_reader_take.f
  rw [if_neg (by omega)]; rfl
 | cons d r =>
  have := sz_lt h
  unfold spec_reader_take.f Stp
  rw [if_pos (by omega), if_pos (by omega), bt_drop h]
  by_cases e : d = c
  ·subst e
   refine ⟨true, [d], r, h, ?_, .inl ⟨rfl, rfl⟩⟩
   rw [if_pos rfl, w64_1 (by omega)]; rfl
  ·refine ⟨false, [], d :: r, h, ?_, .inr ⟨rfl, rfl, fun r' e' => by injection e' with e1 _; exact e e1⟩⟩
   rw [if_neg e]; rfl
/-- Digits from a place on. -/
theorem digits_l0 (a : ByteArray) (hn : a.size ≤ 65536) (st : Int) : ∀ (s : List Int) (i k : Nat) (c : Int), (bytesOf a).drop i = s → s.length < k → (∀ d r, s = d :: r → c = d) → (s = [] → c = 0) →
  ∃ w r, s = w ++ r ∧ (∀ c ∈ w, 48 ≤ c ∧ c ≤ 57) ∧ spec_reader_digits.l0 k st c a (i : Int) = some (decide (((i + w.length : Nat) : Int) > st), a, ((i + w.length : Nat) : Int)) := by
 intro s
 induction s with
 | nil =>
  intro i k c h hk _ hc
  obtain ⟨k, rfl⟩ : ∃ m, k = m + 1 := ⟨k - 1, by simp at hk; omega⟩
  rw [hc rfl]
  refine ⟨[], [], rfl, (by intro c hc; cases hc), ?_⟩
  simp only [spec_reader_digits.l0]
  rw [if_neg (by omega)]; rfl
 | cons d r ih =>
  intro i k c h hk hc _
  obtain ⟨k, rfl⟩ : ∃ m, k = m + 1 := ⟨k - 1, by simp at hk; omega⟩
  rw [hc d r rfl]
  have hlt := sz_lt h
  simp only [spec_reader_digits.l0]
  by_cases h1 : 48 ≤ d
  ·by_cases h2 : d ≤ 57
   ·rw [if_pos h1, if_pos h2, w64_1 (by omega)]
    have hd := drop_next h
    obtain ⟨c', hc'⟩ : ∃ c', spec_reader_here.f a ((i + 1 : Nat) : Int) = some (c', a, ((i + 1 : Nat) : Int)) ∧ (∀ d r', r = d :: r' → c' = d) ∧ (r = [] → c' = 0) := by
     cases hr : r with
     | nil => rw [hr] at hd; exact ⟨0, here_nil hd, fun _ _ e => (by cases e), fun _ => rfl⟩
     | cons d' r' => rw [hr] at hd; exact ⟨d', here_cons hd, fun _ _ e => by injection e, fun e => (by cases e)⟩
    obtain ⟨hh, h3, h4⟩ := hc'
    rw [hh]
    simp only [Option.bind_some]
    obtain ⟨w, r', e, hw, he⟩ := ih (i + 1) k c' hd (by simp at hk; omega) h3 h4
    refine ⟨d :: w, r', by rw [e]; rfl, ?_, ?_⟩
    ·intro x hx
     rcases List.mem_cons.mp hx with rfl | hx
     ·exact ⟨h1, h2⟩
     ·exact hw x hx
    ·rw [he, List.length_cons, show i + 1 + w.length = i + (w.length + 1) by omega]
   ·refine ⟨[], d :: r, rfl, (by intro c hc; cases hc), ?_⟩
    rw [if_pos h1, if_neg h2]; rfl
  ·refine ⟨[], d :: r, rfl, (by intro c hc; cases hc), ?_⟩
   rw [if_neg h1]; rfl
theorem digits_f (a : ByteArray) (hn : a.size ≤ 65536) (i k : Nat) (hk : a.size < k) : Stp a i (spec_reader_digits.f k a (i : Int)) fun b w => (∀ c ∈ w, 48 ≤ c ∧ c ≤ 57) ∧ (b = true → w ≠ []) := by
 unfold spec_reader_digits.f
 obtain ⟨c', hc'⟩ : ∃ c', spec_reader_here.f a (i : Int) = some (c', a, (i : Int)) ∧ (∀ d r', (bytesOf a).drop i = d :: r' → c' = d) ∧ ((bytesOf a).drop i = [] → c' = 0) := by
  cases hr : (bytesOf a).drop i with
  | nil => exact ⟨0, here_nil hr, fun _ _ e => (by cases e), fun _ => rfl⟩
  | cons d' r' => exact ⟨d', here_cons hr, fun _ _ e => by injection e, fun e => (by cases e)⟩
 obtain ⟨hh, h3, h4⟩ := hc'
 rw [hh]
 simp only [Option.bind_some]
 obtain ⟨w, r, e, hw, he⟩ := digits_l0 a hn (i : Int) _ i k c' rfl (by rw [List.length_drop, bytesOf_length]; omega) h3 h4
 refine ⟨_, w, r, e, he, hw, fun hb hw0 => ?_⟩
 subst hw0
 simp at hb
theorem Stp.bind {a : ByteArray} {i : Nat} {g : Option (Bool × ByteArray × Int)} {P : Bool → List Int → Prop} (h : Stp a i g P) {f : Bool × ByteArray × Int → Option (Bool × ByteArray × Int)} {Q : Bool → List Int → Prop}
  (k : ∀ b w, P b w → Stp a (i + w.length) (f (b, a, ((i + w.length : Nat) : Int))) fun b' w' => Q b' (w ++ w')) : Stp a i (g.bind f) Q := by
 obtain ⟨b, w, r, e, rfl, hp⟩ := h
 obtain ⟨b', w', r', e', hf, hq⟩ := k b w hp
 refine ⟨b', w ++ w', r', ?_, ?_, hq⟩
 ·rw [e, List.append_assoc, ← e', drop_app e]
 ·rw [Option.bind_some, hf, List.length_append, Nat.add_assoc]
theorem Stp.now {a : ByteArray} {i : Nat} {b : Bool} {Q : Bool → List Int → Prop} (h : Q b []) : Stp a i (some (b, a, (i : Int))) Q := ⟨b, [], _, rfl, rfl, h⟩
theorem Stp.imp {a : ByteArray} {i : Nat} {g : Option (Bool × ByteArray × Int)} {P Q : Bool → List Int → Prop} (h : Stp a i g P) (k : ∀ b w, P b w → Q b w) : Stp a i g Q := by
 obtain ⟨b, w, r, e, he, hp⟩ := h
 exact ⟨b, w, r, e, he, k b w hp⟩
def AllNum (w : List Int) : Prop := ∀ c ∈ w, NumC c
theorem AllNum.app {u v : List Int} (h : AllNum u) (k : AllNum v) : AllNum (u ++ v) := fun c hc => by
 rcases List.mem_append.mp hc with hc | hc
 ·exact h c hc
 ·exact k c hc
theorem allNum_dig {w : List Int} (h : ∀ c ∈ w, 48 ≤ c ∧ c ≤ 57) : AllNum w := fun c hc => .inl (h c hc)
theorem allNum_one {c : Int} (h : NumC c) : AllNum [c] := fun d hd => by
 have : d = c := by simpa using hd
 rw [this]; exact h
theorem allNum_nil : AllNum [] := fun c hc => by cases hc
theorem allNum_take {b : Bool} {c : Int} {w : List Int} {Z : Prop} (hc : NumC c) (h : (b = true ∧ w = [c]) ∨ (b = false ∧ w = [] ∧ Z)) : AllNum w := by
 rcases h with ⟨_, rfl⟩ | ⟨_, rfl, _⟩
 ·exact allNum_one hc
 ·exact allNum_nil
theorem number_j2 (a : ByteArray) (hn : a.size ≤ 65536) (i k : Nat) (hk : a.size + 1 < k) (x : Bool) : Stp a i (spec_reader_number.j2 k x a (i : Int)) fun b w => AllNum w := by
 obtain ⟨k, rfl⟩ : ∃ m, k = m + 1 := ⟨k - 1, by omega⟩
 simp only [spec_reader_number.j2]
 cases x with
 | false => rw [if_neg (by decide)]; exact .now allNum_nil
 | true =>
  rw [if_pos rfl]
  refine (take_f a hn i 43).bind fun b w hw => ?_
  have hw1 := allNum_take (show NumC 43 by unfold NumC; omega) hw
  dsimp only
  cases b with
  | true =>
   rw [if_pos rfl]
   refine (digits_f a hn _ k (by omega)).bind fun b' w' hw' => ?_
   exact .now (by rw [List.append_nil]; exact hw1.app (allNum_dig hw'.1))
  | false =>
   rw [if_neg (by decide)]
   refine (take_f a hn _ 45).bind fun b' w' hw' => ?_
   have hw2 := allNum_take (show NumC 45 by unfold NumC; omega) hw'
   refine (digits_f a hn _ k (by omega)).bind fun b'' w'' hw'' => ?_
   exact .now (by rw [List.append_nil]; exact hw1.app (hw2.app (allNum_dig hw''.1)))
theorem number_j1 (a : ByteArray) (hn : a.size ≤ 65536) (i k : Nat) (hk : a.size + 2 < k) (x : Bool) : Stp a i (spec_reader_number.j1 k x a (i : Int)) fun b w => AllNum w := by
 obtain ⟨k, rfl⟩ : ∃ m, k = m + 1 := ⟨k - 1, by omega⟩
 simp only [spec_reader_number.j1]
 cases x with
 | true => rw [if_pos rfl]; exact .now allNum_nil
 | false =>
  rw [if_neg (by decide)]
  refine (take_f a hn i 101).bind fun b w hw => ?_
  have hw1 := allNum_take (show NumC 101 by unfold NumC; omega) hw
  dsimp only
  cases b with
  | true => rw [if_pos rfl]; exact (number_j2 a hn _ k (by omega) true).imp fun _ _ h => hw1.app h
  | false =>
   rw [if_neg (by decide)]
   refine (take_f a hn _ 69).bind fun b' w' hw' => ?_
   have hw2 := allNum_take (show NumC 69 by unfold NumC; omega) hw'
   exact (number_j2 a hn _ k (by omega) b').imp fun _ _ h => hw1.app (hw2.app h)
theorem number_j0 (a : ByteArray) (hn : a.size ≤ 65536) (i k : Nat) (hk : a.size + 3 < k) (x : Bool) : Stp a i (spec_reader_number.j0 k x a (i : Int)) fun b w => AllNum w ∧ (b = true → x = false) := by
 obtain ⟨k, rfl⟩ : ∃ m, k = m + 1 := ⟨k - 1, by omega⟩
 simp only [spec_reader_number.j0]
 cases x with
 | true => rw [if_pos rfl]; exact .now ⟨allNum_nil, fun h => (by cases h)⟩
 | false =>
  rw [if_neg (by decide)]
  refine (take_f a hn i 46).bind fun b w hw => ?_
  have hw1 := allNum_take (show NumC 46 by unfold NumC; omega) hw
  dsimp only
  cases b with
  | true =>
   rw [if_pos rfl]
   refine (digits_f a hn _ k (by omega)).bind fun b' w' hw' => ?_
   exact (number_j1 a hn _ k (by omega) _).imp fun _ _ h => ⟨hw1.app ((allNum_dig hw'.1).app h), fun _ => rfl⟩
  | false =>
   rw [if_neg (by decide)]
   exact (number_j1 a hn _ k (by omega) _).imp fun _ _ h => ⟨hw1.app h, fun _ => rfl⟩
theorem number_f (a : ByteArray) (hn : a.size ≤ 65536) (i k : Nat) (hk : a.size + 3 < k) : Stp a i (spec_reader_number.f k a (i : Int)) fun b w => AllNum w ∧ (b = true → w ≠ []) := by
 unfold spec_reader_number.f
 refine (take_f a hn i 45).bind fun b w hw => ?_
 have hw1 := allNum_take (show NumC 45 by unfold NumC; omega) hw
 dsimp only
 refine (take_f a hn _ 48).bind fun b' w' hw' => ?_
 have hw2 := allNum_take (show NumC 48 by unfold NumC; omega) hw'
 dsimp only
 cases b' with
 | true =>
  rw [if_pos rfl]
  refine (number_j0 a hn _ k (by omega) _).imp fun _ v h => ⟨hw1.app (hw2.app h.1), fun _ => ?_⟩
  rcases hw' with ⟨_, rfl⟩ | ⟨h1, _⟩
  ·simp
  ·cases h1
 | false =>
  rw [if_neg (by decide)]
  refine (digits_f a hn _ k (by omega)).bind fun b'' w'' hw'' => ?_
  refine (number_j0 a hn _ k (by omega) _).imp fun bb v h => ⟨hw1.app (hw2.app ((allNum_dig hw''.1).app h.1)), fun hb => ?_⟩
  have hb2 := h.2 hb
  cases b'' with
  | false => cases hb2
  | true =>
   have := hw''.2 rfl
   simp [this]
theorem word_f (a : ByteArray) (hn : a.size ≤ 65536) (i : Nat) (hi : i ≤ a.size) (b : ByteArray) (hb : b.size ≤ 100) : Stp a i (spec_reader_word.f a (i : Int) b) fun x w => (x = true ∧ w = bytesOf b) ∨ (x = false ∧ w = []) := by
 unfold spec_reader_word.f Stp
 rw [show wrap64 ((a.size : Int) - (i : Int)) = (a.size : Int) - (i : Int) from Go.IntWalk.wrap64_in _ (by omega), w64s (n := i) (m := b.size) (by omega)]
 by_cases h1 : (a.size : Int) - (i : Int) < (b.size : Int)
 ·rw [if_pos h1]
  exact ⟨false, [], _, rfl, rfl, .inr ⟨rfl, rfl⟩⟩
 ·rw [if_neg h1, if_pos (by omega), if_pos (by omega), if_pos (by omega)]
  simp only [Int.toNat_natCast]
  by_cases h2 : (a.extract i (i + b.size)).toList = b.toList
  ·rw [if_pos h2]
   have h3 : a.extract i (i + b.size) = b := by
    rw [ByteArray.toList_eq, ByteArray.toList_eq] at h2
    exact ByteArray.ext (Array.toList_inj.mp h2)
   have h4 : ((bytesOf a).drop i).take b.size = bytesOf b := by
    rw [← h3, bytesOf_extract, List.drop_take, h3]
    simp
   refine ⟨true, bytesOf b, ((bytesOf a).drop i).drop b.size, ?_, ?_, .inl ⟨rfl, rfl⟩⟩
   ·rw [← h4, List.take_append_drop]
   ·rw [bytesOf_length]
  ·rw [if_neg h2]
   exact ⟨false, [], _, rfl, rfl, .inr ⟨rfl, rfl⟩⟩
/-- An escape behind its backslash. -/
theorem escape_hex (a : ByteArray) (hn : a.size ≤ 65536) : ∀ (m : Nat) (i k : Nat) (x : Nat), x + m = 4 → m + 3 ≤ k →
  Stp a i (spec_reader_escape.l0 k (x : Int) a (i : Int)) fun b w => b = true → w.length = m ∧ ∀ c ∈ w, HexD c := by
 intro m
 induction m with
 | zero =>
  intro i k x hx hk
  obtain ⟨k, rfl⟩ : ∃ m, k = m + 1 := ⟨k - 1, by omega⟩
  simp only [spec_reader_escape.l0]
  rw [if_neg (by omega)]
  exact .now fun _ => ⟨rfl, fun c hc => (by cases hc)⟩
 | succ m ih =>
  intro i k x hx hk
  obtain ⟨k, rfl⟩ : ∃ m, k = m + 1 := ⟨k - 1, by omega⟩
  simp only [spec_reader_escape.l0]
  rw [if_pos (by omega)]
  cases h : (bytesOf a).drop i with
  | nil =>
   rw [here_nil h]
   simp only [Option.bind_some]
   obtain ⟨v, hv, _⟩ := hexDigit_f k (by omega) 0 (by omega) (by omega)
   rw [hv]
   simp only [Option.bind_some]
   rw [if_neg (by simp [HexD])]
   exact .now fun h => by cases h
  | cons c r =>
   have hlt := sz_lt h
   rw [here_cons h]
   simp only [Option.bind_some]
   have hr := byte_drop h
   obtain ⟨v, hv, _⟩ := hexDigit_f k (by omega) c hr.1 hr.2
   rw [hv]
   simp only [Option.bind_some]
   by_cases hc : HexD c
   ·rw [if_pos (by simpa using hc), w64_1 (n := i) (by omega), w64_1 (n := x) (by omega)]
    obtain ⟨b, w, r', e, he, hp⟩ := ih (i + 1) k (x + 1) (by omega) (by omega)
    refine ⟨b, c :: w, r', ?_, ?_, fun hb => ?_⟩
    ·rw [h]; rw [drop_next h] at e; rw [e]; rfl
    ·rw [he, List.length_cons, show i + 1 + w.length = i + (w.length + 1) by omega]
    ·obtain ⟨h1, h2⟩ := hp hb
     refine ⟨by rw [List.length_cons, h1], fun x hx => ?_⟩
     rcases List.mem_cons.mp hx with rfl | hx
     ·exact hc
     ·exact h2 x hx
   ·rw [if_neg (by simpa using hc)]
    exact .now fun h => by cases h
/-- What an escape passes behind its backslash. -/
def EscW (w : List Int) : Prop := (∃ e, w = [e] ∧ Esc1 e) ∨ ∃ a b c d, w = [117, a, b, c, d] ∧ HexD a ∧ HexD b ∧ HexD c ∧ HexD d
theorem escape_j0 (a : ByteArray) (hn : a.size ≤ 65536) (i k : Nat) (hk : 8 ≤ k) (e : Int) (r : List Int) (h : (bytesOf a).drop i = e :: r) (x : Bool) (hx : x = true → Esc1 e) :
  Stp a i (spec_reader_escape.j0 k e x a (i : Int)) fun b w => b = true → EscW w := by
 obtain ⟨k, rfl⟩ : ∃ m, k = m + 1 := ⟨k - 1, by omega⟩
 have hlt := sz_lt h
 simp only [spec_reader_escape.j0]
 cases x with
 | true =>
  rw [if_pos rfl, w64_1 (by omega)]
  exact ⟨true, [e], r, h, rfl, fun _ => .inl ⟨e, rfl, hx rfl⟩⟩
 | false =>
  rw [if_neg (by decide)]
  by_cases hu : e = 117
  ·subst hu
   rw [if_pos rfl, w64_1 (by omega)]
   obtain ⟨b, w, r', e', he, hp⟩ := escape_hex a hn 4 (i + 1) k 0 rfl (by omega)
   refine ⟨b, 117 :: w, r', ?_, ?_, fun hb => ?_⟩
   ·rw [drop_next h] at e'
    rw [h, e']; rfl
   ·rw [show ((0 : Nat) : Int) = 0 from rfl] at he
    rw [he, List.length_cons, show i + 1 + w.length = i + (w.length + 1) by omega]
   ·obtain ⟨h1, h2⟩ := hp hb
    match w, h1, h2 with
    | [p, q, s, t], _, h2 => exact .inr ⟨p, q, s, t, rfl, h2 p (by simp), h2 q (by simp), h2 s (by simp), h2 t (by simp)⟩
  ·rw [if_neg hu]
   exact .now fun h => by cases h
theorem escape_f (a : ByteArray) (hn : a.size ≤ 65536) (i k : Nat) (hk : 8 ≤ k) : Stp a i (spec_reader_escape.f k a (i : Int)) fun b w => b = true → EscW w := by
 unfold spec_reader_escape.f
 cases h : (bytesOf a).drop i with
 | nil =>
  rw [here_nil h]
  simp only [Option.bind_some]
  rw [if_neg (by decide), if_neg (by decide), if_neg (by decide), if_neg (by decide), if_neg (by decide), if_neg (by decide), if_neg (by decide)]
  obtain ⟨k, rfl⟩ : ∃ m, k = m + 1 := ⟨k - 1, by omega⟩
  simp only [spec_reader_escape.j0]
  rw [if_neg (by decide), if_neg (by decide)]
  exact .now fun h => by cases h
 | cons e r =>
  rw [here_cons h]
  simp only [Option.bind_some]
  have key : ∀ x : Bool, (x = true → Esc1 e) → Stp a i (spec_reader_escape.j0 k e x a (i : Int)) fun b w => b = true → EscW w := fun x hx => escape_j0 a hn i k hk e r h x hx
  by_cases h1 : e = 34
  ·rw [if_pos h1]; exact key _ (fun _ => by unfold Esc1; omega)
  rw [if_neg h1]
  by_cases h2 : e = 92
  ·rw [if_pos h2]; exact key _ (fun _ => by unfold Esc1; omega)
  rw [if_neg h2]
  by_cases h3 : e = 47
  ·rw [if_pos h3]; exact key _ (fun _ => by unfold Esc1; omega)
  rw [if_neg h3]
  by_cases h4 : e = 98
  ·rw [if_pos h4]; exact key _ (fun _ => by unfold Esc1; omega)
  rw [if_neg h4]
  by_cases h5 : e = 102
  ·rw [if_pos h5]; exact key _ (fun _ => by unfold Esc1; omega)
  rw [if_neg h5]
  by_cases h6 : e = 110
  ·rw [if_pos h6]; exact key _ (fun _ => by unfold Esc1; omega)
  rw [if_neg h6]
  by_cases h7 : e = 114
  ·rw [if_pos h7]; exact key _ (fun _ => by unfold Esc1; omega)
  rw [if_neg h7]
  exact key _ (fun hx => by (have : e = 116 := by simpa using hx); unfold Esc1; omega)
/-- A string behind its opening quote. -/
theorem quoted_l0 (a : ByteArray) (hn : a.size ≤ 65536) : ∀ (m : Nat) (i k : Nat), a.size - i ≤ m → m + 10 ≤ k →
  Stp a i (spec_reader_quoted.l0 k a (i : Int)) fun b w => b = true → ∃ s, w = s ++ [34] ∧ SB s := by
 intro m
 induction m with
 | zero =>
  intro i k hm hk
  obtain ⟨k, rfl⟩ : ∃ m, k = m + 1 := ⟨k - 1, by omega⟩
  simp only [spec_reader_quoted.l0]
  rw [if_neg (by omega)]
  exact .now fun h => by cases h
 | succ m ih =>
  intro i k hm hk
  obtain ⟨k, rfl⟩ : ∃ m, k = m + 1 := ⟨k - 1, by omega⟩
  simp only [spec_reader_quoted.l0]
  cases h : (bytesOf a).drop i with
  | nil =>
   have := sz_ge h
   rw [if_neg (by omega)]
   exact .now fun h => by cases h
  | cons c r =>
   have hlt := sz_lt h
   rw [if_pos (by omega), if_pos (by omega), bt_drop h, w64_1 (by omega)]
   by_cases h1 : c = 34
   ·rw [if_pos h1]
    exact ⟨true, [34], r, by rw [h, h1]; rfl, rfl, fun _ => ⟨[], rfl, .nil⟩⟩
   rw [if_neg h1]
   by_cases h2 : c < 32
   ·rw [if_pos h2]
    exact ⟨false, [c], r, h, rfl, fun h => (by cases h)⟩
   rw [if_neg h2]
   by_cases h3 : c = 92
   ·subst h3
    rw [if_pos rfl]
    obtain ⟨b, w, r', e, he, hp⟩ := escape_f a hn (i + 1) k (by omega)
    rw [he]
    simp only [Option.bind_some]
    rw [drop_next h] at e
    cases b with
    | false =>
     rw [if_neg (by decide)]
     exact ⟨false, 92 :: w, r', by rw [h, e]; rfl, by rw [List.length_cons, show i + 1 + w.length = i + (w.length + 1) by omega], fun h => (by cases h)⟩
    | true =>
     rw [if_pos rfl]
     obtain ⟨b2, w2, r2, e2, he2, hp2⟩ := ih (i + 1 + w.length) k (by omega) (by omega)
     refine ⟨b2, 92 :: (w ++ w2), r2, ?_, ?_, fun hb => ?_⟩
     ·rw [h, e]
      have : (bytesOf a).drop (i + 1 + w.length) = r' := drop_app (by rw [drop_next h]; exact e)
      rw [this] at e2
      rw [e2]; simp
     ·rw [he2, List.length_cons, List.length_append, show i + 1 + w.length + w2.length = i + (w.length + w2.length + 1) by omega]
     ·obtain ⟨s, rfl, hs⟩ := hp2 hb
      rcases hp rfl with ⟨e', rfl, h5⟩ | ⟨p, q, s', t, rfl, hp', hq, hs', ht⟩
      ·exact ⟨92 :: e' :: s, by simp, .esc e' s h5 hs⟩
      ·exact ⟨92 :: 117 :: p :: q :: s' :: t :: s, by simp, .uni p q s' t s hp' hq hs' ht hs⟩
   ·rw [if_neg h3]
    obtain ⟨b2, w2, r2, e2, he2, hp2⟩ := ih (i + 1) k (by omega) (by omega)
    refine ⟨b2, c :: w2, r2, ?_, ?_, fun hb => ?_⟩
    ·rw [h]; rw [drop_next h] at e2; rw [e2]; rfl
    ·rw [he2, List.length_cons, show i + 1 + w2.length = i + (w2.length + 1) by omega]
    ·obtain ⟨s, rfl, hs⟩ := hp2 hb
     exact ⟨c :: s, rfl, .chr c s (by omega) (byte_drop h).2 h1 h3 hs⟩
theorem quoted_f (a : ByteArray) (hn : a.size ≤ 65536) (i k : Nat) (hk : a.size + 10 ≤ k) (hi : i < 65536) (r : List Int) (h : (bytesOf a).drop i = 34 :: r) :
  Stp a i (spec_reader_quoted.f k a (i : Int)) fun b w => b = true → ∃ s, w = 34 :: (s ++ [34]) ∧ SB s := by
 unfold spec_reader_quoted.f
 rw [w64_1 (by omega)]
 obtain ⟨b2, w2, r2, e2, he2, hp2⟩ := quoted_l0 a hn a.size (i + 1) k (by omega) hk
 refine ⟨b2, 34 :: w2, r2, ?_, ?_, fun hb => ?_⟩
 ·rw [h]; rw [drop_next h] at e2; rw [e2]; rfl
 ·rw [he2, List.length_cons, show i + 1 + w2.length = i + (w2.length + 1) by omega]
 ·obtain ⟨s, rfl, hs⟩ := hp2 hb
  exact ⟨s, rfl, hs⟩
/-- The place of a name in a text. -/
def NameAt (t : List Int) (n : S64) (u : List Int) : Prop := ∃ (b : Nat) (s r : List Int), n = ⟨(b : Int), ((b + s.length + 2 : Nat) : Int)⟩ ∧ t.drop b = 34 :: (s ++ 34 :: r) ∧ Un s u
mutual
/-- A place stands for a value. -/
inductive Rl (t : List Int) : S31 → J → Prop
 | leaf (p : S31) (j : J) : j = .atom ∨ j = .str → p.f0 ≠ 5 → p.f0 ≠ 6 → Rl t p j
 | arr (p : S31) (ks : List J) : p.f0 = 5 → RlL t p.f4 ks → Rl t p (.arr ks)
 | obj (p : S31) (ms : List (List Int × J)) : p.f0 = 6 → RlM t p.f3 p.f4 ms → Rl t p (.obj ms)
inductive RlL (t : List Int) : List S31 → List J → Prop
 | nil : RlL t [] []
 | cons (p : S31) (j : J) (ps : List S31) (ks : List J) : Rl t p j → RlL t ps ks → RlL t (p :: ps) (j :: ks)
inductive RlM (t : List Int) : List S64 → List S31 → List (List Int × J) → Prop
 | nil : RlM t [] [] []
 | cons (n : S64) (u : List Int) (p : S31) (j : J) (ns : List S64) (ps : List S31) (ms : List (List Int × J)) : NameAt t n u → Rl t p j → RlM t ns ps ms → RlM t (n :: ns) (p :: ps) ((u, j) :: ms)
end
theorem eta31 (p : S31) : (⟨p.f0, p.f1, p.f2, p.f3, p.f4⟩ : S31) = p := by cases p; rfl
abbrev ValT := Int × Int × Int × (List S64) × (List S31) × Bool × ByteArray × Int
/-- What the reader says where it finds a value. -/
def ValOk (a : ByteArray) (i : Nat) (r : ValT) : Prop :=
 ∃ (p : S31) (w rest : List Int) (j : J), (bytesOf a).drop i = w ++ rest ∧ r = (p.f0, p.f1, p.f2, p.f3, p.f4, true, a, ((i + w.length : Nat) : Int)) ∧ V w j ∧ Rl (bytesOf a) p j
theorem dlen (a : ByteArray) (i : Nat) : ((bytesOf a).drop i).length = a.size - i := by rw [List.length_drop, bytesOf_length]
theorem here_f (a : ByteArray) (i : Nat) : ∃ c, spec_reader_here.f a (i : Int) = some (c, a, (i : Int)) ∧ (∀ d r', (bytesOf a).drop i = d :: r' → c = d) ∧ ((bytesOf a).drop i = [] → c = 0) := by
 cases hr : (bytesOf a).drop i with
 | nil => exact ⟨0, here_nil hr, fun _ _ e => (by cases e), fun _ => rfl⟩
 | cons d' r' => exact ⟨d', here_cons hr, fun _ _ e => by injection e, fun e => (by cases e)⟩
theorem here_is {a : ByteArray} {i : Nat} {c x : Int} (h1 : ∀ d r', (bytesOf a).drop i = d :: r' → c = d) (h2 : (bytesOf a).drop i = [] → c = 0) (hc : c = x) (hx : x ≠ 0) : ∃ r, (bytesOf a).drop i = x :: r := by
 cases hr : (bytesOf a).drop i with
 | nil => exact absurd ((h2 hr).symm.trans hc) (Ne.symm hx)
 | cons d r => exact ⟨r, by rw [← hc, h1 d r hr]⟩
theorem value_j0 (a : ByteArray) (hn : a.size ≤ 65536) (i k : Nat) (hi : i ≤ a.size) (hk : a.size + 10 ≤ k) (num : Bool) (hnum : num = true → ∃ c r, (bytesOf a).drop i = c :: r ∧ (c = 45 ∨ (48 ≤ c ∧ c ≤ 57))) :
  ∃ r, spec_reader_value.j0 k true num a (i : Int) 0 (i : Int) 0 = some r ∧ (r.2.2.2.2.2.1 = true → ValOk a i r) := by
 obtain ⟨k, rfl⟩ : ∃ m, k = m + 1 := ⟨k - 1, by omega⟩
 simp only [spec_reader_value.j0]
 cases num with
 | true =>
  rw [if_pos rfl]
  obtain ⟨b, w, r, e, he, hw, hb⟩ := number_f a hn i k (by omega)
  rw [he]
  refine ⟨_, rfl, fun ok => ?_⟩
  have ok : b = true := ok
  subst ok
  obtain ⟨c, r', hd, hc⟩ := hnum rfl
  refine ⟨⟨3, (i : Int), ((i + w.length : Nat) : Int), [], []⟩, w, r, .atom, e, rfl, .atom w (.inr (.inr (.inr ⟨hw, ?_⟩))), .leaf _ _ (.inl rfl) (by simp) (by simp)⟩
  match w, hb rfl, e with
  | x :: w, _, e =>
   rw [hd] at e
   injection e with e1 e2
   exact ⟨x, w, rfl, by rw [← e1]; exact hc⟩
 | false =>
  rw [if_neg (by decide)]
  obtain ⟨b, w, r, e, he, hw⟩ := word_f a hn i hi (⟨#[110, 117, 108, 108]⟩ : ByteArray) (by decide)
  rw [he]
  simp only [Option.bind_some]
  rcases hw with ⟨rfl, hw⟩ | ⟨rfl, rfl⟩
  ·rw [if_pos rfl]
   exact ⟨_, rfl, fun ok => ⟨⟨0, (i : Int), ((i + w.length : Nat) : Int), [], []⟩, w, r, .atom, e, rfl, .atom w (.inl hw), .leaf _ _ (.inl rfl) (by simp) (by simp)⟩⟩
  rw [if_neg (by decide)]
  simp only [List.length_nil, Nat.add_zero]
  obtain ⟨b, w, r, e, he, hw⟩ := word_f a hn i hi (⟨#[102, 97, 108, 115, 101]⟩ : ByteArray) (by decide)
  rw [he]
  simp only [Option.bind_some]
  rcases hw with ⟨rfl, hw⟩ | ⟨rfl, rfl⟩
  ·rw [if_pos rfl]
   exact ⟨_, rfl, fun ok => ⟨⟨1, (i : Int), ((i + w.length : Nat) : Int), [], []⟩, w, r, .atom, e, rfl, .atom w (.inr (.inl hw)), .leaf _ _ (.inl rfl) (by simp) (by simp)⟩⟩
  rw [if_neg (by decide)]
  simp only [List.length_nil, Nat.add_zero]
  obtain ⟨b, w, r, e, he, hw⟩ := word_f a hn i hi (⟨#[116, 114, 117, 101]⟩ : ByteArray) (by decide)
  rw [he]
  simp only [Option.bind_some]
  rcases hw with ⟨rfl, hw⟩ | ⟨rfl, rfl⟩
  ·rw [if_pos rfl]
   exact ⟨_, rfl, fun ok => ⟨⟨2, (i : Int), ((i + w.length : Nat) : Int), [], []⟩, w, r, .atom, e, rfl, .atom w (.inr (.inr (.inl hw))), .leaf _ _ (.inl rfl) (by simp) (by simp)⟩⟩
  rw [if_neg (by decide)]
  exact ⟨_, rfl, fun ok => (by cases ok)⟩
/-- What the reader says of the members of an object from a name on. -/
def MemOk (a : ByteArray) (i : Nat) (x5 : List S64) (x6 : List S31) (r : List S64 × List S31 × Bool × ByteArray × Int) : Prop :=
 ∃ (ns : List S64) (ps : List S31) (w rest : List Int) (ms : List (List Int × J)), (bytesOf a).drop i = w ++ rest ∧ r = (x5 ++ ns, x6 ++ ps, true, a, ((i + w.length : Nat) : Int)) ∧ Mbs w ms ∧ RlM (bytesOf a) ns ps ms
/-- What the reader says of the elements of an array from one on. -/
def ElsOk (a : ByteArray) (i : Nat) (x6 : List S31) (r : List S31 × Bool × ByteArray × Int) : Prop :=
 ∃ (ps : List S31) (w rest : List Int) (ks : List J), (bytesOf a).drop i = w ++ rest ∧ r = (x6 ++ ps, true, a, ((i + w.length : Nat) : Int)) ∧ Els w ks ∧ RlL (bytesOf a) ps ks
/-- The reader from each of the last m places. -/
def ReadsM (a : ByteArray) (m : Nat) : Prop :=
 (∀ i k, i ≤ a.size → a.size - i < m → 10 * m + a.size + 100 ≤ k → ∃ r, spec_reader_value.f k a (i : Int) = some r ∧ (r.2.2.2.2.2.1 = true → ValOk a i r)) ∧
 (∀ i k (x5 : List S64) (x6 : List S31), i ≤ a.size → a.size - i < m → 10 * m + a.size + 100 ≤ k → x5.length ≤ i → x6.length ≤ i → ∃ r, spec_reader_members.l0 k x5 x6 a (i : Int) = some r ∧ (r.2.2.1 = true → MemOk a i x5 x6 r)) ∧
 (∀ i k (x6 : List S31), i ≤ a.size → a.size - i < m → 10 * m + a.size + 100 ≤ k → x6.length ≤ i → ∃ r, spec_reader_elements.l0 k x6 a (i : Int) = some r ∧ (r.2.1 = true → ElsOk a i x6 r))
theorem Stp.le {a : ByteArray} {i : Nat} {w r : List Int} (e : (bytesOf a).drop i = w ++ r) (hi : i ≤ a.size) : i + w.length ≤ a.size := by
 have h1 := dlen a i
 rw [e, List.length_append] at h1
 omega
theorem reads_members (a : ByteArray) (hn : a.size ≤ 65536) (m : Nat) (ih : ReadsM a m) (i k : Nat) (s : List Int) (hs : (bytesOf a).drop i = 123 :: s) (him : a.size - i < m + 1) (hk : 10 * m + a.size + 105 ≤ k) :
  ∃ r, spec_reader_members.f k a (i : Int) = some r ∧ (r.2.2.1 = true → ∃ (w rest : List Int) (ms : List (List Int × J)), (bytesOf a).drop i = w ++ rest ∧ r.2.2.2 = (a, ((i + w.length : Nat) : Int)) ∧ V w (.obj ms) ∧ RlM (bytesOf a) r.1 r.2.1 ms) := by
 obtain ⟨k, rfl⟩ : ∃ m, k = m + 1 := ⟨k - 1, by omega⟩
 have hlt := sz_lt hs
 simp only [spec_reader_members.f]
 rw [w64_1 (by omega)]
 have h1 := drop_next hs
 obtain ⟨w, r, e, hw, hnb, he⟩ := blanks_f a hn (k := k) h1 (by have := dlen a (i + 1); rw [h1] at this; omega)
 rw [he]
 simp only [Option.bind_some]
 rw [e] at h1
 have hle := Stp.le h1 (by omega)
 obtain ⟨b, v, r2, e2, he2, hv⟩ := take_f a hn (i + 1 + w.length) 125
 rw [he2]
 simp only [Option.bind_some]
 rcases hv with ⟨rfl, rfl⟩ | ⟨rfl, rfl, hno⟩
 ·rw [if_pos rfl]
  rw [drop_app h1] at e2
  refine ⟨_, rfl, fun _ => ⟨123 :: (w ++ [125]), r2, [], ?_, ?_, .obj0 w hw, .nil⟩⟩
  ·rw [hs, e, e2]; simp
  ·simp only [List.length_cons, List.length_append, List.length_nil]
   rw [show i + 1 + w.length + (0 + 1) = i + (w.length + (0 + 1) + 1) by omega]
 ·rw [if_neg (by decide)]
  simp only [List.length_nil, Nat.add_zero]
  obtain ⟨r3, hr3, hok⟩ := ih.2.1 (i + 1 + w.length) k [] [] hle (by omega) (by omega) (by simp) (by simp)
  refine ⟨r3, hr3, fun ok => ?_⟩
  obtain ⟨ns, ps, w4, rest, ms, e4, he4, hM, hR⟩ := hok ok
  subst he4
  rw [drop_app h1] at e4
  refine ⟨123 :: (w ++ w4), rest, ms, ?_, ?_, .obj w w4 ms hw hM, hR⟩
  ·rw [hs, e, e4]; simp
  ·simp only [List.length_cons, List.length_append]
   rw [show i + 1 + w.length + w4.length = i + (w.length + w4.length + 1) by omega]
theorem reads_elements (a : ByteArray) (hn : a.size ≤ 65536) (m : Nat) (ih : ReadsM a m) (i k : Nat) (s : List Int) (hs : (bytesOf a).drop i = 91 :: s) (him : a.size - i < m + 1) (hk : 10 * m + a.size + 105 ≤ k) :
  ∃ r, spec_reader_elements.f k a (i : Int) = some r ∧ (r.2.1 = true → ∃ (w rest : List Int) (ks : List J), (bytesOf a).drop i = w ++ rest ∧ r.2.2 = (a, ((i + w.length : Nat) : Int)) ∧ V w (.arr ks) ∧ RlL (bytesOf a) r.1 ks) := by
 obtain ⟨k, rfl⟩ : ∃ m, k = m + 1 := ⟨k - 1, by omega⟩
 have hlt := sz_lt hs
 simp only [spec_reader_elements.f]
 rw [w64_1 (by omega)]
 have h1 := drop_next hs
 obtain ⟨w, r, e, hw, hnb, he⟩ := blanks_f a hn (k := k) h1 (by have := dlen a (i + 1); rw [h1] at this; omega)
 rw [he]
 simp only [Option.bind_some]
 rw [e] at h1
 have hle := Stp.le h1 (by omega)
 obtain ⟨b, v, r2, e2, he2, hv⟩ := take_f a hn (i + 1 + w.length) 93
 rw [he2]
 simp only [Option.bind_some]
 rcases hv with ⟨rfl, rfl⟩ | ⟨rfl, rfl, hno⟩
 ·rw [if_pos rfl]
  rw [drop_app h1] at e2
  refine ⟨_, rfl, fun _ => ⟨91 :: (w ++ [93]), r2, [], ?_, ?_, .arr0 w hw, .nil⟩⟩
  ·rw [hs, e, e2]; simp
  ·simp only [List.length_cons, List.length_append, List.length_nil]
   rw [show i + 1 + w.length + (0 + 1) = i + (w.length + (0 + 1) + 1) by omega]
 ·rw [if_neg (by decide)]
  simp only [List.length_nil, Nat.add_zero]
  obtain ⟨r3, hr3, hok⟩ := ih.2.2 (i + 1 + w.length) k [] hle (by omega) (by omega) (by simp)
  refine ⟨r3, hr3, fun ok => ?_⟩
  obtain ⟨ps, w4, rest, ks, e4, he4, hM, hR⟩ := hok ok
  subst he4
  rw [drop_app h1] at e4
  refine ⟨91 :: (w ++ w4), rest, ks, ?_, ?_, .arr w w4 ks hw hM, hR⟩
  ·rw [hs, e, e4]; simp
  ·simp only [List.length_cons, List.length_append]
   rw [show i + 1 + w.length + w4.length = i + (w.length + w4.length + 1) by omega]
theorem reads_value (a : ByteArray) (hn : a.size ≤ 65536) (m : Nat) (ih : ReadsM a m) (i k : Nat) (hi : i ≤ a.size) (him : a.size - i < m + 1) (hk : 10 * m + a.size + 107 ≤ k) :
  ∃ r, spec_reader_value.f k a (i : Int) = some r ∧ (r.2.2.2.2.2.1 = true → ValOk a i r) := by
 obtain ⟨k, rfl⟩ : ∃ m, k = m + 1 := ⟨k - 1, by omega⟩
 simp only [spec_reader_value.f]
 obtain ⟨c, hc, h1, h2⟩ := here_f a i
 rw [hc]
 simp only [Option.bind_some]
 by_cases c1 : c = 123
 ·rw [if_pos c1]
  obtain ⟨s, hs⟩ := here_is h1 h2 c1 (by decide)
  obtain ⟨r, hr, hok⟩ := reads_members a hn m ih i k s hs him (by omega)
  rw [hr]
  refine ⟨_, rfl, fun ok => ?_⟩
  obtain ⟨w, rest, ms, e, he, hV, hR⟩ := hok ok
  have ok : r.2.2.1 = true := ok
  refine ⟨⟨6, (i : Int), r.2.2.2.2, r.1, r.2.1⟩, w, rest, .obj ms, e, ?_, hV, .obj _ ms rfl hR⟩
  simp only [ok, he]
 rw [if_neg c1]
 by_cases c2 : c = 91
 ·rw [if_pos c2]
  obtain ⟨s, hs⟩ := here_is h1 h2 c2 (by decide)
  obtain ⟨r, hr, hok⟩ := reads_elements a hn m ih i k s hs him (by omega)
  rw [hr]
  refine ⟨_, rfl, fun ok => ?_⟩
  obtain ⟨w, rest, ms, e, he, hV, hR⟩ := hok ok
  have ok : r.2.1 = true := ok
  refine ⟨⟨5, (i : Int), r.2.2.2, [], r.1⟩, w, rest, .arr ms, e, ?_, hV, .arr _ ms rfl hR⟩
  simp only [ok, he]
 rw [if_neg c2]
 by_cases c3 : c = 34
 ·rw [if_pos c3]
  obtain ⟨s, hs⟩ := here_is h1 h2 c3 (by decide)
  obtain ⟨b, w, r, e, he, hq⟩ := quoted_f a hn i k (by omega) (by have := sz_lt hs; omega) s hs
  rw [he]
  refine ⟨_, rfl, fun ok => ?_⟩
  have ok : b = true := ok
  subst ok
  obtain ⟨q, rfl, hq2⟩ := hq rfl
  exact ⟨⟨4, (i : Int), _, [], []⟩, _, r, .str, e, rfl, .str q hq2, .leaf _ _ (.inr rfl) (by simp) (by simp)⟩
 rw [if_neg c3]
 by_cases c4 : c = 45
 ·rw [if_pos c4]
  obtain ⟨s, hs⟩ := here_is h1 h2 c4 (by decide)
  exact value_j0 a hn i k hi (by omega) true (fun _ => ⟨45, s, hs, .inl rfl⟩)
 rw [if_neg c4]
 by_cases c5 : 48 ≤ c
 ·rw [if_pos c5]
  refine value_j0 a hn i k hi (by omega) _ (fun h => ?_)
  have h57 : c ≤ 57 := by simpa using h
  obtain ⟨s, hs⟩ := here_is h1 h2 rfl (by omega)
  exact ⟨c, s, hs, .inr ⟨c5, h57⟩⟩
 ·rw [if_neg c5]
  exact value_j0 a hn i k hi (by omega) false (fun h => by cases h)
theorem reads_els (a : ByteArray) (hn : a.size ≤ 65536) (m : Nat) (ih : ReadsM a m) (i k : Nat) (x6 : List S31) (hi : i ≤ a.size) (him : a.size - i < m + 1) (hk : 10 * m + a.size + 110 ≤ k) (h6 : x6.length ≤ i)
  (hv : ∃ r, spec_reader_value.f (k - 1) a (i : Int) = some r ∧ (r.2.2.2.2.2.1 = true → ValOk a i r)) :
  ∃ r, spec_reader_elements.l0 k x6 a (i : Int) = some r ∧ (r.2.1 = true → ElsOk a i x6 r) := by
 obtain ⟨k, rfl⟩ : ∃ m, k = m + 1 := ⟨k - 1, by omega⟩
 simp only [spec_reader_elements.l0]
 obtain ⟨r, hr, hok⟩ := hv
 rw [show k + 1 - 1 = k by omega] at hr
 rw [hr]
 simp only [Option.bind_some]
 by_cases ok : r.2.2.2.2.2.1 = true
 rotate_left
 ·rw [if_neg ok]
  exact ⟨_, rfl, fun h => (by cases h)⟩
 obtain ⟨p, w, r1, j, e1, rfl, hV, hRl⟩ := hok ok
 simp only [if_true]
 have hle1 := Stp.le e1 hi
 rw [if_pos (by omega)]
 have hd1 := drop_app e1
 obtain ⟨w1, r2, e2, hw1, hnb, he2⟩ := blanks_f a hn (k := k) hd1 (by have := dlen a (i + w.length); rw [hd1] at this; omega)
 rw [he2]
 simp only [Option.bind_some]
 rw [e2] at hd1
 have hle2 := Stp.le hd1 hle1
 have hd2 := drop_app hd1
 obtain ⟨b, v, r3, e3, he3, hv⟩ := take_f a hn (i + w.length + w1.length) 93
 rw [he3]
 simp only [Option.bind_some]
 rw [hd2] at e3
 rcases hv with ⟨rfl, rfl⟩ | ⟨rfl, rfl, hno⟩
 ·rw [if_pos rfl]
  refine ⟨_, rfl, fun _ => ⟨[p], w ++ (w1 ++ [93]), r3, [j], ?_, ?_, .last w j w1 hV hw1, .cons p j [] [] hRl .nil⟩⟩
  ·rw [e1, e2, e3]; simp
  ·simp only [List.length_cons, List.length_append, List.length_nil]
   rw [show i + w.length + w1.length + (0 + 1) = i + (w.length + (w1.length + (0 + 1))) by omega]
   rw [eta31]
 ·rw [if_neg (by decide)]
  simp only [List.length_nil, Nat.add_zero]
  obtain ⟨b, v, r3, e3, he3, hv⟩ := take_f a hn (i + w.length + w1.length) 44
  rw [he3]
  simp only [Option.bind_some]
  rw [hd2] at e3
  rcases hv with ⟨rfl, rfl⟩ | ⟨rfl, rfl, hno⟩
  rotate_left
  ·rw [if_neg (by decide)]
   exact ⟨_, rfl, fun h => (by cases h)⟩
  rw [if_pos rfl]
  have hd3 : (bytesOf a).drop (i + w.length + w1.length + [(44 : Int)].length) = r3 := drop_app (by rw [hd2]; exact e3)
  have hlt3 : i + w.length + w1.length < a.size := sz_lt (by rw [hd2]; exact e3)
  obtain ⟨w2, r4, e4, hw2, hnb2, he4⟩ := blanks_f a hn (k := k) hd3 (by have := dlen a (i + w.length + w1.length + [(44 : Int)].length); rw [hd3] at this; omega)
  rw [he4]
  simp only [Option.bind_some]
  rw [e4] at hd3
  have hle4 := Stp.le hd3 (by simp; omega)
  obtain ⟨r5, hr5, hok5⟩ := ih.2.2 (i + w.length + w1.length + [(44 : Int)].length + w2.length) k (x6 ++ [⟨p.f0, p.f1, p.f2, p.f3, p.f4⟩]) hle4 (by simp; omega) (by omega) (by simp; omega)
  refine ⟨r5, hr5, fun ok5 => ?_⟩
  obtain ⟨ps, w6, rest, ks, e6, rfl, hE, hL⟩ := hok5 ok5
  rw [drop_app hd3] at e6
  refine ⟨p :: ps, w ++ (w1 ++ 44 :: (w2 ++ w6)), rest, j :: ks, ?_, ?_, .more w j w1 w2 w6 ks hV hw1 hw2 hE, .cons p j ps ks hRl hL⟩
  ·rw [e1, e2, e3, e4, e6]; simp
  ·simp only [List.length_cons, List.length_append, List.length_nil, List.append_assoc, List.cons_append, List.nil_append]
   rw [show i + w.length + w1.length + (0 + 1) + w2.length + w6.length = i + (w.length + (w1.length + (w2.length + w6.length + 1))) by omega]
   rw [eta31]
theorem reads_mem (a : ByteArray) (hn : a.size ≤ 65536) (m : Nat) (ih : ReadsM a m) (i k : Nat) (x5 : List S64) (x6 : List S31) (hi : i ≤ a.size) (him : a.size - i < m + 1) (hk : 10 * m + a.size + 110 ≤ k) (h5 : x5.length ≤ i) (h6 : x6.length ≤ i) :
  ∃ r, spec_reader_members.l0 k x5 x6 a (i : Int) = some r ∧ (r.2.2.1 = true → MemOk a i x5 x6 r) := by
 obtain ⟨k, rfl⟩ : ∃ m, k = m + 2 := ⟨k - 2, by omega⟩
 simp only [spec_reader_members.l0]
 obtain ⟨c, hc, h1, h2⟩ := here_f a i
 rw [hc]
 simp only [Option.bind_some]
 by_cases c1 : c = 34
 rotate_left
 ·rw [if_neg c1]
  simp only [spec_reader_members.j1]
  exact ⟨_, rfl, fun h => (by cases h)⟩
 rw [if_pos c1]
 obtain ⟨s, hs⟩ := here_is h1 h2 c1 (by decide)
 have hlt := sz_lt hs
 obtain ⟨b, q, r0, e0, he0, hq⟩ := quoted_f a hn i (k + 1) (by omega) (by omega) s hs
 rw [he0]
 simp only [Option.bind_some, spec_reader_members.j1]
 cases b with
 | false => exact ⟨_, rfl, fun h => (by cases h)⟩
 | true =>
 obtain ⟨q, rfl, hq2⟩ := hq rfl
 obtain ⟨u, hu⟩ := SB.un q.length (Nat.le_refl _) hq2
 rw [if_neg (by decide), if_pos (by omega)]
 have hle0 := Stp.le e0 hi
 have hd0 := drop_app e0
 have hql : (34 :: (q ++ [34])).length = q.length + 2 := by simp
 obtain ⟨w1, r1, e1, hw1, hnb1, he1⟩ := blanks_f a hn (k := k) hd0 (by have := dlen a (i + (34 :: (q ++ [34])).length); rw [hd0] at this; omega)
 rw [he1]
 simp only [Option.bind_some]
 rw [e1] at hd0
 have hle1 := Stp.le hd0 hle0
 have hd1 := drop_app hd0
 obtain ⟨b, v, r2, e2, he2, hv⟩ := take_f a hn (i + (34 :: (q ++ [34])).length + w1.length) 58
 rw [he2]
 simp only [Option.bind_some]
 rw [hd1] at e2
 rcases hv with ⟨rfl, rfl⟩ | ⟨rfl, rfl, hno⟩
 rotate_left
 ·rw [if_neg (by decide)]
  exact ⟨_, rfl, fun h => (by cases h)⟩
 rw [if_pos rfl]
 have hlt2 : i + (34 :: (q ++ [34])).length + w1.length < a.size := sz_lt (by rw [hd1]; exact e2)
 have hd2 : (bytesOf a).drop (i + (34 :: (q ++ [34])).length + w1.length + [(58 : Int)].length) = r2 := drop_app (by rw [hd1]; exact e2)
 obtain ⟨w2, r3, e3, hw2, hnb2, he3⟩ := blanks_f a hn (k := k) hd2 (by have := dlen a (i + (34 :: (q ++ [34])).length + w1.length + [(58 : Int)].length); rw [hd2] at this; omega)
 rw [he3]
 simp only [Option.bind_some]
 rw [e3] at hd2
 have hle3 := Stp.le hd2 (by simp at hlt2 ⊢; omega)
 have hd3 := drop_app hd2
 generalize hI : i + (34 :: (q ++ [34])).length + w1.length + [(58 : Int)].length + w2.length = I at hle3 hd3 ⊢
 have hI' : I = i + q.length + w1.length + w2.length + 3 := by rw [← hI, hql]; simp; omega
 obtain ⟨r, hr, hok⟩ := ih.1 I k hle3 (by omega) (by omega)
 rw [hr]
 simp only [Option.bind_some]
 by_cases ok : r.2.2.2.2.2.1 = true
 rotate_left
 ·rw [if_neg ok]
  exact ⟨_, rfl, fun h => (by cases h)⟩
 obtain ⟨p, w, r4, j, e4, rfl, hV, hRl⟩ := hok ok
 simp only [if_true]
 have hle4 := Stp.le e4 hle3
 rw [if_pos (by omega)]
 have hd4 := drop_app e4
 obtain ⟨w3, r5, e5, hw3, hnb3, he5⟩ := blanks_f a hn (k := k) hd4 (by have := dlen a (I + w.length); rw [hd4] at this; omega)
 rw [he5]
 simp only [Option.bind_some]
 rw [e5] at hd4
 have hle5 := Stp.le hd4 hle4
 have hd5 := drop_app hd4
 have hname : NameAt (bytesOf a) ⟨(i : Int), ((i + (34 :: (q ++ [34])).length : Nat) : Int)⟩ u := ⟨i, q, r0, by rw [hql]; rfl, by rw [e0]; simp, hu⟩
 rw [hd3] at e4
 obtain ⟨b, v, r6, e6, he6, hv⟩ := take_f a hn (I + w.length + w3.length) 125
 rw [he6]
 simp only [Option.bind_some]
 rw [hd5] at e6
 rcases hv with ⟨rfl, rfl⟩ | ⟨rfl, rfl, hno⟩
 ·rw [if_pos rfl]
  refine ⟨_, rfl, fun _ => ⟨[⟨(i : Int), ((i + (34 :: (q ++ [34])).length : Nat) : Int)⟩], [p], 34 :: (q ++ 34 :: (w1 ++ 58 :: (w2 ++ (w ++ (w3 ++ [125]))))), r6, [(u, j)], ?_, ?_, .last q u w1 w2 w j w3 hu hw1 hw2 hV hw3, .cons _ u p j [] [] [] hname hRl .nil⟩⟩
  ·rw [e0, e1, e2, e3, e4, e5, e6]; simp
  ·simp only [List.length_cons, List.length_append, List.length_nil]
   rw [show I + w.length + w3.length + (0 + 1) = i + (q.length + (w1.length + (w2.length + (w.length + (w3.length + (0 + 1))) + 1) + 1) + 1) by omega]
   rw [eta31]
 ·rw [if_neg (by decide)]
  simp only [List.length_nil, Nat.add_zero]
  obtain ⟨b, v, r6, e6, he6, hv⟩ := take_f a hn (I + w.length + w3.length) 44
  rw [he6]
  simp only [Option.bind_some]
  rw [hd5] at e6
  rcases hv with ⟨rfl, rfl⟩ | ⟨rfl, rfl, hno⟩
  rotate_left
  ·rw [if_neg (by decide)]
   exact ⟨_, rfl, fun h => (by cases h)⟩
  rw [if_pos rfl]
  have hlt6 : I + w.length + w3.length < a.size := sz_lt (by rw [hd5]; exact e6)
  have hd6 : (bytesOf a).drop (I + w.length + w3.length + [(44 : Int)].length) = r6 := drop_app (by rw [hd5]; exact e6)
  obtain ⟨w4, r7, e7, hw4, hnb4, he7⟩ := blanks_f a hn (k := k) hd6 (by have := dlen a (I + w.length + w3.length + [(44 : Int)].length); rw [hd6] at this; omega)
  rw [he7]
  simp only [Option.bind_some]
  rw [e7] at hd6
  have hle7 := Stp.le hd6 (by simp; omega)
  obtain ⟨r8, hr8, hok8⟩ := ih.2.1 (I + w.length + w3.length + [(44 : Int)].length + w4.length) k (x5 ++ [⟨(i : Int), ((i + (34 :: (q ++ [34])).length : Nat) : Int)⟩]) (x6 ++ [⟨p.f0, p.f1, p.f2, p.f3, p.f4⟩]) hle7 (by simp; omega) (by omega) (by simp; omega) (by simp; omega)
  refine ⟨r8, hr8, fun ok8 => ?_⟩
  obtain ⟨ns, ps, w9, rest, ms, e9, rfl, hM, hR⟩ := hok8 ok8
  rw [drop_app hd6] at e9
  refine ⟨⟨(i : Int), ((i + (34 :: (q ++ [34])).length : Nat) : Int)⟩ :: ns, p :: ps, 34 :: (q ++ 34 :: (w1 ++ 58 :: (w2 ++ (w ++ (w3 ++ 44 :: (w4 ++ w9)))))), rest, (u, j) :: ms, ?_, ?_, .more q u w1 w2 w j w3 w4 w9 ms hu hw1 hw2 hV hw3 hw4 hM, .cons _ u p j ns ps ms hname hRl hR⟩
  ·rw [e0, e1, e2, e3, e4, e5, e6, e7, e9]; simp
  ·simp only [List.length_cons, List.length_append, List.length_nil, List.append_assoc, List.cons_append, List.nil_append]
   rw [show I + w.length + w3.length + (0 + 1) + w4.length + w9.length = i + (q.length + (w1.length + (w2.length + (w.length + (w3.length + (w4.length + w9.length + 1))) + 1) + 1) + 1) by omega]
   rw [eta31]
theorem reads_all (a : ByteArray) (hn : a.size ≤ 65536) : ∀ m, ReadsM a m
 | 0 => ⟨fun i k _ h _ => by omega, fun i k x5 x6 _ h _ _ _ => by omega, fun i k x6 _ h _ _ => by omega⟩
 | m + 1 => by
  have ih := reads_all a hn m
  exact ⟨fun i k hi him hk => reads_value a hn m ih i k hi him (by omega), fun i k x5 x6 hi him hk h5 h6 => reads_mem a hn m ih i k x5 x6 hi him (by omega) h5 h6, fun i k x6 hi him hk h6 => reads_els a hn m ih i k x6 hi him (by omega) h6 (reads_value a hn m ih i (k - 1) hi him (by omega))⟩
/-- What the reader says of a whole text. -/
theorem places_all (a : ByteArray) (hn : a.size ≤ 65536) (k : Nat) (hk : 1000000 ≤ k) : ∃ r, spec_Places.f k a = some r ∧ (r.2.2.2.2.2 = true → ∃ (p : S31) (w l v : List Int) (j : J), bytesOf a = w ++ (l ++ v) ∧ Ws w ∧ Ws v ∧ V l j ∧ r = (p.f0, p.f1, p.f2, p.f3, p.f4, true) ∧ Rl (bytesOf a) p j) := by
 unfold spec_Places.f
 obtain ⟨w, r, e, hw, hnb, he⟩ := blanks_f a hn (i := 0) (k := k) (s := bytesOf a) rfl (by rw [bytesOf_length]; omega)
 have he : spec_reader_blanks.f k a 0 = some (a, ((0 + w.length : Nat) : Int)) := he
 rw [he]
 simp only [Option.bind_some]
 have hd : (bytesOf a).drop 0 = w ++ r := e
 have hle := Stp.le hd (by omega)
 obtain ⟨r1, hr1, hok⟩ := (reads_all a hn (a.size + 1)).1 (0 + w.length) k hle (by omega) (by omega)
 rw [hr1]
 simp only [Option.bind_some]
 by_cases ok : r1.2.2.2.2.2.1 = true
 rotate_left
 ·rw [if_neg ok]
  exact ⟨_, rfl, fun h => (by cases h)⟩
 obtain ⟨p, l, r2, j, e2, rfl, hV, hRl⟩ := hok ok
 simp only [if_true]
 have hle2 := Stp.le e2 hle
 have hd2 := drop_app e2
 obtain ⟨v, r3, e3, hv, hnb3, he3⟩ := blanks_f a hn (k := k) hd2 (by have := dlen a (0 + w.length + l.length); rw [hd2] at this; omega)
 rw [he3]
 simp only [Option.bind_some]
 by_cases hend : ((0 + w.length + l.length + v.length : Nat) : Int) = (a.size : Int)
 rotate_left
 ·rw [if_neg hend]
  exact ⟨_, rfl, fun h => (by cases h)⟩
 rw [if_pos hend]
 refine ⟨_, rfl, fun _ => ⟨p, w, l, v, j, ?_, hw, hv, hV, rfl, hRl⟩⟩
 rw [drop_app hd] at e2
 rw [e, e2, e3]
 have : r3 = [] := by
  have h1 := bytesOf_length a
  rw [e, e2, e3] at h1
  simp at h1
  exact List.length_eq_zero_iff.mp (by omega)
 rw [this]; simp
theorem w64i {n : Int} (h : 0 ≤ n ∧ n < 9223372036854775808) : wrap64 n = n := Go.IntWalk.wrap64_in _ (by omega)
theorem unit_round (a : ByteArray) (hn : a.size ≤ 65536) (i k m : Nat) (v c : Int) (r : List Int) (hk : 3 ≤ k) (hm : m < 6) (h : (bytesOf a).drop (i + m) = c :: r) (hc : HexD c) (hv : 0 ≤ v ∧ v < 65536) :
  spec_unit.l0 (k + 1) a (i : Int) v ((i + m : Nat) : Int) = spec_unit.l0 k a (i : Int) (v * 16 + hexV c) ((i + (m + 1) : Nat) : Int) := by
 have hlt := sz_lt h
 have hr := byte_drop h
 simp only [spec_unit.l0]
 obtain ⟨x, hx, hxv⟩ := hexDigit_f k (by omega) c hr.1 hr.2
 rw [show wrap64 ((i : Int) + 6) = ((i + 6 : Nat) : Int) from w64s (m := 6) (by omega), if_pos (by omega), if_pos (by omega), if_pos (by omega), bt_drop h, hx]
 simp only [Option.bind_some]
 have := hexV_range hc
 rw [if_pos (by simpa using hc), hxv hc, w64i (n := v * 16) (by omega), w64i (by omega), w64_1 (by omega)]
 rfl
theorem unit_last (a : ByteArray) (i k : Nat) (v : Int) (hi : i ≤ 65536) : spec_unit.l0 (k + 1) a (i : Int) v ((i + 6 : Nat) : Int) = some (v, true) := by
 simp only [spec_unit.l0]
 rw [show wrap64 ((i : Int) + 6) = ((i + 6 : Nat) : Int) from w64s (m := 6) (by omega), if_neg (by omega)]
theorem drop_at {l : List Int} {i : Nat} {x y : Int} {r : List Int} (h : l.drop i = x :: y :: r) : l.drop (i + 1) = y :: r := drop_next h
theorem unit_yes (a : ByteArray) (hn : a.size ≤ 65536) (i k : Nat) (hk : 20 ≤ k) (p q s t : Int) (r : List Int) (h : (bytesOf a).drop i = 92 :: 117 :: p :: q :: s :: t :: r) (hp : HexD p) (hq : HexD q) (hs : HexD s) (ht : HexD t) :
  spec_unit.f k a (i : Int) = some (hex4 p q s t, true) := by
 have h1 := drop_next h
 have h2 := drop_next h1
 have h3 := drop_next h2
 have h4 := drop_next h3
 have h5 := drop_next h4
 have l5 := sz_lt h5
 have := hexV_range hp
 have := hexV_range hq
 have := hexV_range hs
 have := hexV_range ht
 unfold spec_unit.f
 rw [Go.IntWalk.wrap64_in _ (by omega), if_neg (by omega), if_pos (by omega), if_pos (by omega), bt_drop h, if_pos rfl, w64_1 (by omega), if_pos (by omega), if_pos (by omega), bt_drop h1]
 obtain ⟨k, rfl⟩ : ∃ m, k = m + 10 := ⟨k - 10, by omega⟩
 simp only [spec_unit.j0]
 rw [if_neg (by decide), show wrap64 ((i : Int) + 2) = ((i + 2 : Nat) : Int) from w64s (m := 2) (by omega)]
 rw [unit_round a hn i _ 2 0 p _ (by omega) (by omega) h2 hp (by omega), unit_round a hn i _ (2 + 1) _ q _ (by omega) (by omega) h3 hq (by omega),
  unit_round a hn i _ (2 + 1 + 1) _ s _ (by omega) (by omega) h4 hs (by omega), unit_round a hn i _ (2 + 1 + 1 + 1) _ t _ (by omega) (by omega) h5 ht (by omega)]
 rw [unit_last a i _ _ (by omega)]
 unfold hex4
 rw [show ((((0 : Int) * 16 + hexV p) * 16 + hexV q) * 16 + hexV s) * 16 + hexV t = hexV p * 4096 + hexV q * 256 + hexV s * 16 + hexV t by omega]
theorem unit_no (a : ByteArray) (hn : a.size ≤ 65536) (i k : Nat) (hk : 1 ≤ k) (hi : i ≤ a.size + 10) (s : List Int) (h : (bytesOf a).drop i = s) (hs : (∀ r, s ≠ 92 :: r) ∨ ∃ e r, s = 92 :: e :: r ∧ e ≠ 117) :
  spec_unit.f k a (i : Int) = some (0, false) := by
 obtain ⟨k, rfl⟩ : ∃ m, k = m + 1 := ⟨k - 1, by omega⟩
 unfold spec_unit.f
 rw [Go.IntWalk.wrap64_in _ (by omega)]
 by_cases h6 : (a.size : Int) - (i : Int) < 6
 ·rw [if_pos h6]
  simp only [spec_unit.j0]
  rfl
 rw [if_neg h6, if_pos (by omega), if_pos (by omega)]
 cases hc : s with
 | nil => rw [hc] at h; have := sz_ge h; omega
 | cons c r =>
  rw [hc] at h
  rw [bt_drop h]
  by_cases h92 : c = 92
  ·subst h92
   rcases hs with hs | ⟨e, r', hs, he⟩
   ·exact absurd hc (hs r)
   ·rw [if_pos rfl, w64_1 (by omega), if_pos (by omega), if_pos (by omega)]
    rw [hc] at hs
    injection hs with _ hs
    rw [hs] at h
    rw [bt_drop (drop_next h)]
    simp only [spec_unit.j0]
    rw [if_pos (by simpa using he)]
  ·rw [if_neg h92]
   simp only [spec_unit.j0]
   rfl
theorem utf8_len (r : Int) : (utf8 r).length ≤ 4 := by
 unfold utf8
 split
 ·simp
 split
 ·simp
 split
 ·simp
 split <;> simp
theorem bmod {n : Int} (h : 0 ≤ n ∧ n < 256) : wrap64 n % 256 = n := by rw [w64i (by omega)]; omega
theorem cont0 {r : Int} (h0 : 0 ≤ r) : wrap64 (128 + Int.tmod r 64) % 256 = 128 + r % 64 := by rw [Int.tmod_eq_emod_of_nonneg h0]; exact bmod (by omega)
theorem cont1 {r : Int} (h0 : 0 ≤ r) (h1 : r ≤ 1114111) : wrap64 (128 + Int.tmod (wrap64 (Int.tdiv r 64)) 64) % 256 = 128 + r / 64 % 64 := by
 rw [Int.tdiv_eq_ediv_of_nonneg h0, w64i (n := r / 64) (by omega)]; exact cont0 (by omega)
theorem cont2 {r : Int} (h0 : 0 ≤ r) (h1 : r ≤ 1114111) : wrap64 (128 + Int.tmod (wrap64 (Int.tdiv r 4096)) 64) % 256 = 128 + r / 4096 % 64 := by
 rw [Int.tdiv_eq_ediv_of_nonneg h0, w64i (n := r / 4096) (by omega)]; exact cont0 (by omega)
theorem lead2 {r : Int} (h0 : 0 ≤ r) (h1 : r < 2048) : wrap64 (192 + wrap64 (Int.tdiv r 64)) % 256 = 192 + r / 64 := by
 rw [Int.tdiv_eq_ediv_of_nonneg h0, w64i (n := r / 64) (by omega)]; exact bmod (by omega)
theorem lead3 {r : Int} (h0 : 0 ≤ r) (h1 : r < 65536) : wrap64 (224 + wrap64 (Int.tdiv r 4096)) % 256 = 224 + r / 4096 := by
 rw [Int.tdiv_eq_ediv_of_nonneg h0, w64i (n := r / 4096) (by omega)]; exact bmod (by omega)
theorem lead4 {r : Int} (h0 : 0 ≤ r) (h1 : r ≤ 1114111) : wrap64 (240 + wrap64 (Int.tdiv r 262144)) % 256 = 240 + r / 262144 := by
 rw [Int.tdiv_eq_ediv_of_nonneg h0, w64i (n := r / 262144) (by omega)]; exact bmod (by omega)
def utf8b (r : Int) : List Int := if HighS r ∨ LowS r then [239, 191, 189] else if r < 65536 then [224 + r / 4096, 128 + r / 64 % 64, 128 + r % 64] else [240 + r / 262144, 128 + r / 4096 % 64, 128 + r / 64 % 64, 128 + r % 64]
theorem room (l : List Int) (n : Nat) (h : l.length < 100000000) (hn : n ≤ 4) : l.length + n < 140737488355328 := by omega
theorem append_j0 (k : Nat) (l : List Int) (r : Int) (h0 : 0 ≤ r) (h1 : r ≤ 1114111) (hl : l.length < 100000000) (b : Bool) (hb : b = decide (HighS r ∨ LowS r)) : spec_appendUTF8.j0 (k + 1) l r b = some (l ++ utf8b r) := by
 simp only [spec_appendUTF8.j0]
 unfold utf8b
 by_cases hs : HighS r ∨ LowS r
 ·rw [if_pos hs, if_pos (by rw [hb]; simpa using hs)]
  simp only [Option.bind_some]
  rw [if_pos (by first | exact room l 3 hl (by decide) | (have := room l 3 hl (by decide); simpa using this))]
 ·rw [if_neg hs, if_neg (by rw [hb]; simpa using hs)]
  by_cases c3 : r < 65536
  ·rw [if_pos c3, if_pos c3]
   simp only [Option.bind_some]
   rw [if_pos (by first | exact room l 3 hl (by decide) | (have := room l 3 hl (by decide); simpa using this)), lead3 h0 c3, cont1 h0 h1, cont0 h0]
  ·rw [if_neg c3, if_neg c3]
   simp only [Option.bind_some]
   rw [if_pos (by first | exact room l 4 hl (by decide) | (have := room l 4 hl (by decide); simpa using this)), lead4 h0 h1, cont2 h0 h1, cont1 h0 h1, cont0 h0]
theorem append_utf8 (k : Nat) (hk : 1 ≤ k) (l : List Int) (r : Int) (h0 : 0 ≤ r) (h1 : r ≤ 1114111) (hl : l.length < 100000000) : spec_appendUTF8.f k l r = some (l ++ utf8 r) := by
 obtain ⟨k, rfl⟩ : ∃ m, k = m + 1 := ⟨k - 1, by omega⟩
 unfold spec_appendUTF8.f utf8
 by_cases c1 : r < 128
 ·rw [if_pos c1, if_pos c1, if_pos (by have := room l 0 hl (by decide); omega), show r % 256 = r by omega]
 rw [if_neg c1, if_neg c1]
 by_cases c2 : r < 2048
 ·rw [if_pos c2, if_pos c2]
  simp only [Option.bind_some]
  rw [if_pos (by first | exact room l 2 hl (by decide) | (have := room l 2 hl (by decide); simpa using this)), lead2 h0 c2, cont0 h0]
 rw [if_neg c2, if_neg c2]
 have rest := append_j0 k l r h0 h1 hl
 unfold utf8b at rest
 unfold spec_high.f spec_low.f
 by_cases c4 : 55296 ≤ r
 ·rw [if_pos c4]
  simp only [Option.bind_some]
  by_cases c5 : r ≤ 56319
  ·rw [if_pos (by simpa using c5)]
   exact rest true (by symm; rw [decide_eq_true_iff]; exact .inl ⟨c4, c5⟩)
  ·rw [if_neg (by simpa using c5), if_pos (by omega)]
   simp only [Option.bind_some]
   refine rest _ ?_
   have : (HighS r ∨ LowS r) ↔ r ≤ 57343 := by unfold HighS LowS; omega
   simp only [this]
 ·rw [if_neg c4]
  simp only [Option.bind_some]
  rw [if_neg (by decide), if_neg (by omega)]
  simp only [Option.bind_some]
  exact rest false (by symm; rw [decide_eq_false_iff_not]; unfold HighS LowS; omega)
/-- A string's unit is no escape of four digits. -/
def NoUni (s : List Int) : Prop := (∀ r, s ≠ 92 :: r) ∨ ∃ e r, s = 92 :: e :: r ∧ e ≠ 117
theorem lowNext_or {s : List Int} (h : SB s) : NoUni s ∨ ∃ a b c d r, s = 92 :: 117 :: a :: b :: c :: d :: r ∧ HexD a ∧ HexD b ∧ HexD c ∧ HexD d := by
 cases h with
 | nil => exact .inl (.inl fun r h => by cases h)
 | chr c s h1 h2 h3 h4 hs => exact .inl (.inl fun r h => by injection h with h _; exact h4 h)
 | esc e s he hs => exact .inl (.inr ⟨e, s, rfl, by unfold Esc1 at he; omega⟩)
 | uni a b c d s ha hb hc hd hs => exact .inr ⟨a, b, c, d, s, rfl, ha, hb, hc, hd⟩
theorem short_f (e : Int) : spec_short.f e = some (shortB e) := by
 unfold spec_short.f shortB
 repeat' split
 all_goals rfl
theorem high_f (r : Int) : spec_high.f r = some (decide (HighS r)) := by
 unfold spec_high.f HighS
 by_cases h : 55296 ≤ r
 ·rw [if_pos h]; simp [h]
 ·rw [if_neg h]; simp [h]
theorem low_f (r : Int) : spec_low.f r = some (decide (LowS r)) := by
 unfold spec_low.f LowS
 by_cases h : 56320 ≤ r
 ·rw [if_pos h]; simp [h]
 ·rw [if_neg h]; simp [h]
section
theorem unq_chr (a : ByteArray) (hn : a.size ≤ 65536) (i : Nat) (k : Nat) (acc : List Int) (hk : 20 ≤ k) (hacc : acc.length ≤ 100000) (R : ByteArray) (c : Int) (r : List Int) (h : (bytesOf a).drop i = c :: r) (h4 : c ≠ 92) (next : spec_Unquote.l0 k (acc ++ [c]) a ((i + 1 : Nat) : Int) = some R) : spec_Unquote.l0 (k + 1) acc a (i : Int) = some R := by
 have hlt := sz_lt h
 simp only [spec_Unquote.l0]
 rw [if_pos (by omega), if_pos (by omega), bt_drop h, if_neg h4, if_pos (by omega), w64_1 (by omega), next]
theorem unq_esc (a : ByteArray) (hn : a.size ≤ 65536) (i : Nat) (k : Nat) (acc : List Int) (hk : 20 ≤ k) (hacc : acc.length ≤ 100000) (R : ByteArray) (e : Int) (r : List Int) (h : (bytesOf a).drop i = 92 :: e :: r) (he : Esc1 e) (next : spec_Unquote.l0 k (acc ++ [shortB e]) a ((i + 2 : Nat) : Int) = some R) : spec_Unquote.l0 (k + 1) acc a (i : Int) = some R := by
 have hlt := sz_lt h
 have hlt1 := sz_lt (drop_next h)
 have h2 := unit_no a hn i k (by omega) (by omega) _ h (.inr ⟨e, r, rfl, by unfold Esc1 at he; omega⟩)
 have w2 : wrap64 ((i : Int) + 2) = ((i + 2 : Nat) : Int) := w64s (m := 2) (by omega)
 simp only [spec_Unquote.l0]
 rw [if_pos (by omega), if_pos (by omega), bt_drop h, if_pos rfl, h2]
 rw [Option.bind_some, if_neg (by decide), w64_1 (by omega), if_pos (by omega), if_pos (by omega), bt_drop (drop_next h), short_f]
 rw [Option.bind_some, if_pos (by omega), w2, next]
theorem unq_one (a : ByteArray) (hn : a.size ≤ 65536) (i : Nat) (k : Nat) (acc : List Int) (hk : 20 ≤ k) (hacc : acc.length ≤ 100000) (R : ByteArray) (p q r t : Int) (s : List Int) (h : (bytesOf a).drop i = 92 :: 117 :: p :: q :: r :: t :: s) (hs : SB s) (hp : HexD p) (hq : HexD q) (hr : HexD r) (ht : HexD t) (hno : ¬ (HighS (hex4 p q r t) ∧ LowNext s)) (next : spec_Unquote.l0 k (acc ++ utf8 (hex4 p q r t)) a ((i + 6 : Nat) : Int) = some R) : spec_Unquote.l0 (k + 1) acc a (i : Int) = some R := by
 have hlt := sz_lt h
 have h6 : (bytesOf a).drop (i + 6) = s := drop_app (w := [92, 117, p, q, r, t]) h
 have hle : i + 6 ≤ a.size := Stp.le (w := [92, 117, p, q, r, t]) h (by omega)
 have hx := hex4_range hp hq hr ht
 have fin : (spec_appendUTF8.f k acc (hex4 p q r t)).bind (fun t => spec_Unquote.l0 k t a ((i + 6 : Nat) : Int)) = some R := by
  rw [append_utf8 k (by omega) acc _ hx.1 (by omega) (by omega), Option.bind_some, next]
 have w6 : wrap64 ((i : Int) + 6) = ((i + 6 : Nat) : Int) := w64s (m := 6) (by omega)
 have hy := unit_yes a hn i k (by omega) p q r t s h hp hq hr ht
 simp only [spec_Unquote.l0]
 rw [if_pos (by omega), if_pos (by omega), bt_drop h, if_pos rfl, hy]
 rw [Option.bind_some, if_pos rfl, w6]
 rcases lowNext_or hs with hN | ⟨a', b', c', d', s', hs', ha', hb', hc', hd'⟩
 ·rw [unit_no a hn (i + 6) k (by omega) (by omega) s h6 hN]
  rw [Option.bind_some, if_neg (by decide)]
  exact fin
 ·rw [hs'] at h6
  rw [unit_yes a hn (i + 6) k (by omega) a' b' c' d' s' h6 ha' hb' hc' hd']
  rw [Option.bind_some, if_pos rfl, high_f]
  rw [Option.bind_some]
  by_cases hH : HighS (hex4 p q r t)
  ·rw [if_pos (by simpa using hH), low_f]
   simp only [Option.bind_some]
   have hL : ¬ LowS (hex4 a' b' c' d') := fun hL => hno ⟨hH, a', b', c', d', s', hs', ha', hb', hc', hd', hL⟩
   rw [if_neg (by simpa using hL)]
   exact fin
  ·rw [if_neg (by simpa using hH)]
   exact fin
theorem unq_pair (a : ByteArray) (hn : a.size ≤ 65536) (i : Nat) (k : Nat) (acc : List Int) (hk : 20 ≤ k) (hacc : acc.length ≤ 100000) (R : ByteArray) (p q r t p' q' r' t' : Int) (s : List Int) (h : (bytesOf a).drop i = 92 :: 117 :: p :: q :: r :: t :: 92 :: 117 :: p' :: q' :: r' :: t' :: s) (hp : HexD p) (hq : HexD q) (hr : HexD r) (ht : HexD t) (hp' : HexD p') (hq' : HexD q') (hr' : HexD r') (ht' : HexD t') (hH : HighS (hex4 p q r t)) (hL : LowS (hex4 p' q' r' t'))
  (next : spec_Unquote.l0 k (acc ++ utf8 (pairR (hex4 p q r t) (hex4 p' q' r' t'))) a ((i + 12 : Nat) : Int) = some R) : spec_Unquote.l0 (k + 1) acc a (i : Int) = some R := by
 have hlt := sz_lt h
 have h6 : (bytesOf a).drop (i + 6) = 92 :: 117 :: p' :: q' :: r' :: t' :: s := drop_app (w := [92, 117, p, q, r, t]) h
 have hle : i + 12 ≤ a.size := Stp.le (w := [92, 117, p, q, r, t, 92, 117, p', q', r', t']) h (by omega)
 have w6 : wrap64 ((i : Int) + 6) = ((i + 6 : Nat) : Int) := w64s (m := 6) (by omega)
 have w12 : wrap64 (((i + 6 : Nat) : Int) + 6) = ((i + 12 : Nat) : Int) := w64s (n := i + 6) (m := 6) (by omega)
 have hy := unit_yes a hn i k (by omega) p q r t _ h hp hq hr ht
 have hy' := unit_yes a hn (i + 6) k (by omega) p' q' r' t' s h6 hp' hq' hr' ht'
 generalize hA : hex4 p q r t = A at *
 generalize hB : hex4 p' q' r' t' = B at *
 have hH' := hH
 have hL' := hL
 unfold HighS at hH'
 unfold LowS at hL'
 have e : wrap64 (wrap64 (65536 + wrap64 (wrap64 (A - 55296) * 1024)) + wrap64 (B - 56320)) = pairR A B := by
  unfold pairR
  rw [w64i (n := A - 55296) (by omega), w64i (n := (A - 55296) * 1024) (by omega), w64i (n := 65536 + (A - 55296) * 1024) (by omega), w64i (n := B - 56320) (by omega), w64i (by omega)]
 have hP : 0 ≤ pairR A B ∧ pairR A B ≤ 1114111 := by unfold pairR; omega
 simp only [spec_Unquote.l0]
 rw [if_pos (by omega), if_pos (by omega), bt_drop h, if_pos rfl, hy]
 rw [Option.bind_some, if_pos rfl, w6, hy']
 rw [Option.bind_some, if_pos rfl, high_f]
 rw [Option.bind_some, if_pos (by simpa using hH), low_f]
 rw [Option.bind_some, if_pos (by simpa using hL), e, append_utf8 k (by omega) acc _ hP.1 hP.2 (by omega), Option.bind_some, w12, next]
end
theorem unquote_l0 (a : ByteArray) (hn : a.size ≤ 65536) {s u : List Int} (hu : Un s u) : ∀ (i k : Nat) (acc : List Int), (bytesOf a).drop i = s → i ≤ a.size → s.length + 30 ≤ k → acc.length ≤ i →
  spec_Unquote.l0 k acc a (i : Int) = some (strOfNums (acc ++ u)) := by
 induction hu with
 | nil =>
  intro i k acc h hi hk hacc
  obtain ⟨k, rfl⟩ : ∃ m, k = m + 1 := ⟨k - 1, by omega⟩
  have := sz_ge h
  simp only [spec_Unquote.l0]
  rw [if_neg (by omega), List.append_nil]
 | chr c s u h1 h2 h3 h4 hu ih =>
  intro i k acc h hi hk hacc
  obtain ⟨k, rfl⟩ : ∃ m, k = m + 1 := ⟨k - 1, by omega⟩
  have hlt := sz_lt h
  refine unq_chr a hn i k acc (by omega) (by omega) _ c s h h4 ?_
  rw [ih (i + 1) k _ (drop_next h) (by omega) (by simp at hk; omega) (by simp; omega), List.append_assoc]; rfl
 | esc e s u he hu ih =>
  intro i k acc h hi hk hacc
  obtain ⟨k, rfl⟩ : ∃ m, k = m + 1 := ⟨k - 1, by omega⟩
  have hlt1 := sz_lt (drop_next h)
  refine unq_esc a hn i k acc (by omega) (by omega) _ e s h he ?_
  rw [ih (i + 2) k _ (drop_next (drop_next h)) (by omega) (by simp at hk; omega) (by simp; omega), List.append_assoc]; rfl
 | uni p q r t s u hp hq hr ht hno hu ih =>
  intro i k acc h hi hk hacc
  obtain ⟨k, rfl⟩ : ∃ m, k = m + 1 := ⟨k - 1, by omega⟩
  have h6 : (bytesOf a).drop (i + 6) = s := drop_app (w := [92, 117, p, q, r, t]) h
  have hle : i + 6 ≤ a.size := Stp.le (w := [92, 117, p, q, r, t]) h hi
  have hl := utf8_len (hex4 p q r t)
  refine unq_one a hn i k acc (by omega) (by omega) _ p q r t s h hu.SB hp hq hr ht hno ?_
  rw [ih (i + 6) k _ h6 hle (by simp at hk; omega) (by rw [List.length_append]; omega), List.append_assoc]
 | pair p q r t p' q' r' t' s u hp hq hr ht hp' hq' hr' ht' hH hL hu ih =>
  intro i k acc h hi hk hacc
  obtain ⟨k, rfl⟩ : ∃ m, k = m + 1 := ⟨k - 1, by omega⟩
  have h12 : (bytesOf a).drop (i + 12) = s := drop_app (w := [92, 117, p, q, r, t, 92, 117, p', q', r', t']) h
  have hle : i + 12 ≤ a.size := Stp.le (w := [92, 117, p, q, r, t, 92, 117, p', q', r', t']) h hi
  have hl := utf8_len (pairR (hex4 p q r t) (hex4 p' q' r' t'))
  refine unq_pair a hn i k acc (by omega) (by omega) _ p q r t p' q' r' t' s h hp hq hr ht hp' hq' hr' ht' hH hL ?_
  rw [ih (i + 12) k _ h12 hle (by simp at hk; omega) (by rw [List.length_append]; omega), List.append_assoc]
theorem toNat_cast (n : Nat) : ((n : Int)).toNat = n := Int.toNat_natCast n
/-- Of a name's place the reference takes what the name stands for. -/
theorem unquote_at (a : ByteArray) (hn : a.size ≤ 65536) (n : S64) (u : List Int) (h : NameAt (bytesOf a) n u) (k : Nat) (hk : 100000 ≤ k) :
  0 ≤ n.f0 ∧ n.f0 ≤ n.f1 ∧ n.f1 ≤ (a.size : Int) ∧ spec_Unquote.f k (a.extract n.f0.toNat n.f1.toNat) = some (strOfNums u) := by
 obtain ⟨b, s, r, rfl, hd, hu⟩ := h
 have hb : b < a.size := sz_lt hd
 have hle : b + (s.length + 2) ≤ a.size := by
  have h1 := dlen a b
  rw [hd] at h1
  simp at h1
  omega
 refine ⟨by simp, by simp; omega, by simp; omega, ?_⟩
 simp only [toNat_cast]
 have hx : bytesOf (a.extract b (b + s.length + 2)) = 34 :: (s ++ [34]) := by
  rw [bytesOf_extract, List.drop_take, hd, show b + s.length + 2 - b = s.length + 1 + 1 by omega]
  simp [List.take_append, List.take_of_length_le]
 generalize a.extract b (b + s.length + 2) = x at hx
 have hxs : x.size = s.length + 2 := by rw [← bytesOf_length, hx]; simp
 unfold spec_Unquote.f
 rw [Go.IntWalk.wrap64_in _ (by omega), if_pos (by omega), if_pos (by omega), show ((x.size : Int) - 1).toNat = s.length + 1 by omega]
 have hy : bytesOf (x.extract 1 (s.length + 1)) = s := by
  rw [bytesOf_extract, hx, List.drop_take, show s.length + 1 - 1 = s.length by omega]
  simp
 have hys : (x.extract 1 (s.length + 1)).size = s.length := by rw [← bytesOf_length, hy]
 exact unquote_l0 _ (by omega) hu 0 k [] (by rw [List.drop_zero, hy]) (by omega) (by omega) (by simp)
/-! ### Indexes -/
def idxStep (v c : Int) : Int := if v < 288230376151711744 then v * 10 + (c - 48) else 4611686018427387904
def idxV (d : List Int) : Int := d.foldl idxStep 0
def DigC (d : List Int) : Prop := ∀ c ∈ d, 48 ≤ c ∧ c ≤ 57
theorem index_l0 (a : ByteArray) (hn : a.size ≤ 4294967296) : ∀ (s : List Int) (i k : Nat) (v : Int), (bytesOf a).drop i = s → 2 * s.length + 5 ≤ k → 0 ≤ v ∧ v ≤ 4611686018427387904 →
  ∃ r : Int × Bool, spec_Index.l0 k a v (i : Int) = some r ∧ (r.2 = true → DigC s ∧ r.1 = s.foldl idxStep v) := by
 intro s
 induction s with
 | nil =>
  intro i k v h hk hv
  obtain ⟨k, rfl⟩ : ∃ m, k = m + 1 := ⟨k - 1, by omega⟩
  have := sz_ge h
  simp only [spec_Index.l0]
  rw [if_neg (by omega)]
  exact ⟨_, rfl, fun _ => ⟨fun c hc => (by cases hc), rfl⟩⟩
 | cons c s ih =>
  intro i k v h hk hv
  obtain ⟨k, rfl⟩ : ∃ m, k = m + 2 := ⟨k - 2, by omega⟩
  have hlt := sz_lt h
  simp only [spec_Index.l0]
  rw [if_pos (by omega), if_pos (by omega), bt_drop h]
  by_cases c1 : c < 48
  ·rw [if_pos c1]
   simp only [spec_Index.j2]
   rw [if_true]
   exact ⟨_, rfl, fun h => (by cases h)⟩
  rw [if_neg c1]
  simp only [spec_Index.j2]
  by_cases c2 : c > 57
  ·rw [if_pos (by simpa using c2)]
   exact ⟨_, rfl, fun h => (by cases h)⟩
  rw [if_neg (by simpa using c2)]
  have step : ∀ v', v' = idxStep v c → ∃ r : Int × Bool, spec_Index.l0 k a v' (wrap64 ((i : Int) + 1)) = some r ∧ (r.2 = true → DigC (c :: s) ∧ r.1 = (c :: s).foldl idxStep v) := by
   intro v' hv'
   rw [w64_1 (by omega)]
   obtain ⟨r, hr, hok⟩ := ih (i + 1) k v' (drop_next h) (by simp at hk; omega) (by rw [hv']; unfold idxStep; split <;> omega)
   refine ⟨r, hr, fun ok => ?_⟩
   obtain ⟨h1, h2⟩ := hok ok
   refine ⟨fun x hx => ?_, by rw [h2, hv']; rfl⟩
   rcases List.mem_cons.mp hx with rfl | hx
   ·omega
   ·exact h1 x hx
  by_cases c3 : v < 288230376151711744
  ·rw [if_pos c3]
   refine step _ ?_
   unfold idxStep
   rw [if_pos c3, show (c - 48) % 256 = c - 48 by omega, w64i (n := v * 10) (by omega), w64i (by omega)]
  ·rw [if_neg c3]
   refine step _ ?_
   unfold idxStep
   rw [if_neg c3]
theorem index_f (a : ByteArray) (hn : a.size ≤ 4294967296) (k : Nat) (hk : 2 * a.size + 10 ≤ k) : ∃ r : Int × Bool, spec_Index.f k a = some r ∧ (r.2 = true → DigC (bytesOf a) ∧ bytesOf a ≠ [] ∧ r.1 = idxV (bytesOf a) ∧ (∀ c s, bytesOf a = c :: s → s ≠ [] → c ≠ 48)) := by
 obtain ⟨k, rfl⟩ : ∃ m, k = m + 1 := ⟨k - 1, by omega⟩
 unfold spec_Index.f
 have main : ∃ r : Int × Bool, spec_Index.l0 k a 0 0 = some r ∧ (r.2 = true → DigC (bytesOf a) ∧ r.1 = idxV (bytesOf a)) := by
  obtain ⟨r, hr, hok⟩ := index_l0 a hn (bytesOf a) 0 k 0 rfl (by rw [bytesOf_length]; omega) (by omega)
  exact ⟨r, hr, hok⟩
 obtain ⟨r, hr, hok⟩ := main
 by_cases c1 : a.toList = ([] : List UInt8)
 ·rw [if_pos c1]
  simp only [spec_Index.j0]
  exact ⟨_, rfl, fun h => (by cases h)⟩
 rw [if_neg c1]
 have hne : bytesOf a ≠ [] := by
  intro h
  have h1 := bytesOf_length a
  rw [h] at h1
  rw [ByteArray.toList_eq] at c1
  exact c1 (List.length_eq_zero_iff.mp (by rw [data_length]; simp at h1; omega))
 by_cases c2 : (a.size : Int) > 1
 ·rw [if_pos c2, if_pos (by omega)]
  obtain ⟨c, s, hcs⟩ : ∃ c s, bytesOf a = c :: s := List.exists_cons_of_ne_nil hne
  have hb : bt a 0 = c := bt_drop (i := 0) (r := s) (by rw [List.drop_zero]; exact hcs)
  rw [hb]
  simp only [spec_Index.j0]
  by_cases c3 : c = 48
  ·rw [if_pos (by simpa using c3)]
   exact ⟨_, rfl, fun h => (by cases h)⟩
  ·rw [if_neg (by simpa using c3)]
   refine ⟨r, hr, fun ok => ⟨(hok ok).1, hne, (hok ok).2, fun c' s' e _ => ?_⟩⟩
   rw [hcs] at e
   injection e with e1 e2
   rw [← e1]; exact c3
 ·rw [if_neg c2]
  simp only [spec_Index.j0]
  rw [if_neg (by decide)]
  refine ⟨r, hr, fun ok => ⟨(hok ok).1, hne, (hok ok).2, fun c' s' e hs => ?_⟩⟩
  have h1 := bytesOf_length a
  rw [e] at h1
  simp at h1
  exact absurd (List.length_eq_zero_iff.mp (by omega)) hs
theorem idx_small : ∀ (d : List Int) (v : Int), DigC d → 0 ≤ v → v * 10 ^ d.length + 10 ^ d.length ≤ 1000000000000000000 → d.foldl idxStep v = d.foldl (fun v c => v * 10 + (c - 48)) v := by
 intro d
 induction d with
 | nil => intro v _ _ _; rfl
 | cons c d ih =>
  intro v hd hv hb
  have hc := hd c List.mem_cons_self
  have hp : (1 : Int) ≤ 10 ^ d.length := by
   have := Int.pow_pos (n := 10) (m := d.length) (by decide)
   omega
  have h10 : (10 : Int) ^ (c :: d).length = 10 ^ d.length * 10 := by rw [List.length_cons, Int.pow_succ]
  rw [h10] at hb
  have hq : (v * 10 + 10) * 10 ^ d.length ≤ 1000000000000000000 := by
   rw [show (v * 10 + 10) * 10 ^ d.length = v * (10 ^ d.length * 10) + 10 ^ d.length * 10 by rw [Int.add_mul, Int.mul_assoc, Int.mul_comm 10 (10 ^ d.length)]]
   exact hb
  have hv2 : v * 10 + 10 ≤ 1000000000000000000 := by
   refine Int.le_trans ?_ hq
   have := Int.mul_le_mul_of_nonneg_left hp (show 0 ≤ v * 10 + 10 by omega)
   rwa [Int.mul_one] at this
  simp only [List.foldl_cons]
  have e : idxStep v c = v * 10 + (c - 48) := by unfold idxStep; rw [if_pos (by omega)]
  rw [e]
  refine ih _ (fun x hx => hd x (List.mem_cons_of_mem _ hx)) (by omega) ?_
  have : (v * 10 + (c - 48)) * 10 ^ d.length + 10 ^ d.length = (v * 10 + (c - 48) + 1) * 10 ^ d.length := by rw [Int.add_mul (v * 10 + (c - 48)), Int.one_mul]
  rw [this]
  refine Int.le_trans (Int.mul_le_mul_of_nonneg_right (by omega) (by omega)) hq
theorem pow_min_succ (m : Nat) : (2 : Int) ^ min (m + 1) 20 ≤ 2 * 2 ^ min m 20 := by
 by_cases h : m < 20
 ·rw [show min (m + 1) 20 = min m 20 + 1 by omega, Int.pow_succ]; omega
 ·rw [show min (m + 1) 20 = 20 by omega, show min m 20 = 20 by omega]; decide
theorem pow_min_le (m : Nat) : (2 : Int) ^ min m 20 ≤ 4611686018427387904 := by
 have : min m 20 ≤ 20 := by omega
 generalize min m 20 = q at this
 have h1 : (2 : Int) ^ q ≤ 2 ^ 20 := by
  have := Nat.pow_le_pow_right (n := 2) (by decide) this
  exact_mod_cast this
 exact Int.le_trans h1 (by decide)
theorem idx_grows : ∀ (d : List Int) (v : Int) (m : Nat), DigC d → (2 : Int) ^ min m 20 ≤ v → (2 : Int) ^ min (m + d.length) 20 ≤ d.foldl idxStep v := by
 intro d
 induction d with
 | nil => intro v m _ h; exact h
 | cons c d ih =>
  intro v m hd h
  have hc := hd c List.mem_cons_self
  have h1 := pow_min_succ m
  have h2 := pow_min_le (m + 1)
  have hp : (0 : Int) < 2 ^ min m 20 := Int.pow_pos (by decide)
  rw [List.foldl_cons, List.length_cons, show m + (d.length + 1) = m + 1 + d.length by omega]
  refine ih _ _ (fun x hx => hd x (List.mem_cons_of_mem _ hx)) ?_
  unfold idxStep
  split <;> omega
/-- What a key '[d]' says of its index. -/
def BrR (key : ByteArray) (i : Int) : Prop := ∃ d, bytesOf key = 91 :: (d ++ [93]) ∧ d ≠ [] ∧ DigC d ∧ 0 ≤ i ∧ (d.length ≤ 18 → i = decV d) ∧ (i < 131072 → d.length ≤ 18)
theorem bracket_f (key : ByteArray) (hn : key.size ≤ 4294967296) (k : Nat) (hk : 2 * key.size + 10 ≤ k) : ∃ r : Int × Bool, spec_Bracket.f k key = some r ∧ (r.2 = true → BrR key r.1) := by
 unfold spec_Bracket.f
 by_cases c1 : (key.size : Int) < 3
 ·rw [if_pos c1]; exact ⟨_, rfl, fun h => (by cases h)⟩
 rw [if_neg c1, if_pos (by omega)]
 by_cases c2 : bt key 0 = 91
 rotate_left
 ·rw [if_neg c2]; exact ⟨_, rfl, fun h => (by cases h)⟩
 rw [if_pos c2, Go.IntWalk.wrap64_in _ (by omega), if_pos (by omega), if_pos (by omega)]
 by_cases c3 : bt key ((key.size : Int) - 1) = 93
 rotate_left
 ·rw [if_neg c3]; exact ⟨_, rfl, fun h => (by cases h)⟩
 rw [if_pos c3, if_pos (by omega), if_pos (by omega)]
 have hxn : (key.extract 1 ((key.size : Int) - 1).toNat).size = key.size - 2 := by rw [ByteArray.size_extract]; omega
 obtain ⟨r, hr, hok⟩ := index_f (key.extract 1 ((key.size : Int) - 1).toNat) (by omega) k (by omega)
 rw [hr]
 refine ⟨_, rfl, fun ok => ?_⟩
 obtain ⟨h1, h2, h3, h4⟩ := hok ok
 have hb := bytesOf_extract key 1 ((key.size : Int) - 1).toNat
 generalize bytesOf (key.extract 1 ((key.size : Int) - 1).toNat) = d at *
 have hlen := bytesOf_length key
 rw [show ((key.size : Int) - 1).toNat = key.size - 1 by omega] at hb
 have hfull : bytesOf key = 91 :: (d ++ [93]) := by
  have hp : 0 < (bytesOf key).length := by omega
  have e0 : bytesOf key = rd (bytesOf key) 0 :: (bytesOf key).drop 1 := by
   have := List.drop_eq_getElem_cons hp
   rw [List.drop_zero] at this
   rw [this]
   simp [rd]
  have e1 : (bytesOf key).drop 1 = d ++ (bytesOf key).drop (key.size - 1) := by
   have := List.take_append_drop (key.size - 2) ((bytesOf key).drop 1)
   rw [← this, List.drop_drop, show 1 + (key.size - 2) = key.size - 1 by omega, hb, List.drop_take, show key.size - 1 - 1 = key.size - 2 by omega]
  have e2 : (bytesOf key).drop (key.size - 1) = [93] := by
   have hlt : key.size - 1 < (bytesOf key).length := by omega
   rw [List.drop_eq_getElem_cons hlt, List.drop_eq_nil_of_le (by omega)]
   have : rd (bytesOf key) ((key.size : Int) - 1) = 93 := by rw [rd_bytesOf]; exact c3
   unfold rd at this
   rw [show ((key.size : Int) - 1).toNat = key.size - 1 by omega, List.getD_eq_getElem?_getD, List.getElem?_eq_getElem hlt] at this
   simpa using this
  rw [e0, e1, e2, rd_bytesOf, c2]
 have hne : r.1 = idxV d := h3
 refine ⟨d, hfull, h2, h1, ?_, fun h18 => ?_, fun hlt => ?_⟩
 ·rw [hne]
  obtain ⟨c, s, hcs⟩ := List.exists_cons_of_ne_nil h2
  unfold idxV
  have : ∀ (d : List Int) (v : Int), DigC d → 0 ≤ v → 0 ≤ d.foldl idxStep v := by
   intro d
   induction d with
   | nil => intro v _ h; exact h
   | cons c d ih =>
    intro v hd hv
    have hc := hd c List.mem_cons_self
    exact ih _ (fun x hx => hd x (List.mem_cons_of_mem _ hx)) (by unfold idxStep; split <;> omega)
  exact this d 0 h1 (by omega)
 ·rw [hne]
  refine idx_small d 0 h1 (by omega) ?_
  rw [Int.zero_mul, Int.zero_add]
  have h10 : 10 ^ d.length ≤ 10 ^ 18 := Nat.pow_le_pow_right (by decide) h18
  have h11 : ((10 ^ d.length : Nat) : Int) ≤ ((10 ^ 18 : Nat) : Int) := Int.ofNat_le.mpr h10
  rw [Int.natCast_pow] at h11
  exact h11
 ·rw [hne] at hlt
  rcases Nat.lt_or_ge 18 d.length with h19 | h19
  ·exfalso
   obtain ⟨c, s, hcs⟩ := List.exists_cons_of_ne_nil h2
   rw [hcs] at h1 hlt h19
   have hc48 : c ≠ 48 := h4 c s hcs (by intro e; rw [e] at h19; simp at h19)
   have hc := h1 c List.mem_cons_self
   have hg := idx_grows s (idxStep 0 c) 0 (fun x hx => h1 x (List.mem_cons_of_mem _ hx)) (by unfold idxStep; rw [if_pos (by omega)]; simp; omega)
   have hlt : s.foldl idxStep (idxStep 0 c) < 131072 := hlt
   have h18 : 18 ≤ s.length := by simp at h19; omega
   have : (2 : Int) ^ 18 ≤ 2 ^ min (0 + s.length) 20 := by
    have := Nat.pow_le_pow_right (n := 2) (by decide) (show 18 ≤ min (0 + s.length) 20 by omega)
    exact_mod_cast this
   have : (2 : Int) ^ 18 = 262144 := by decide
   omega
  ·exact h19
/-- What the reference's Bracket answers. -/
def brk (key : ByteArray) : Int × Bool := (spec_Bracket.f (2 * key.size + 10) key).getD (0, false)
theorem bracket_det (key : ByteArray) (k k' : Nat) (r r' : Int × Bool) (h : spec_Bracket.f k key = some r) (h' : spec_Bracket.f k' key = some r') : r = r' := by
 have h1 := at_rounds (g := fun k => spec_Bracket.f k key) (fun k => spec_Bracket.mono key k) (Nat.le_max_left k k') h
 have h2 := at_rounds (g := fun k => spec_Bracket.f k key) (fun k => spec_Bracket.mono key k) (Nat.le_max_right k k') h'
 exact Option.some.inj (h1.symm.trans h2)
theorem brk_f (key : ByteArray) (hn : key.size ≤ 4294967296) (k : Nat) (hk : 2 * key.size + 10 ≤ k) : spec_Bracket.f k key = some (brk key) := by
 obtain ⟨r, hr, _⟩ := bracket_f key hn k hk
 obtain ⟨r', hr', _⟩ := bracket_f key hn (2 * key.size + 10) (Nat.le_refl _)
 rw [hr, brk, hr', bracket_det key _ _ r r' hr hr']; rfl
theorem brk_R (key : ByteArray) (hn : key.size ≤ 4294967296) (h : (brk key).2 = true) : BrR key (brk key).1 := by
 obtain ⟨r', hr', hok⟩ := bracket_f key hn (2 * key.size + 10) (Nat.le_refl _)
 have : brk key = r' := by rw [brk, hr']; rfl
 rw [this] at h ⊢
 exact hok h
/-- One key further. -/
def stepJ : J → ByteArray → Option J
 | .obj ms, key => (named key ms).head?.map Prod.snd
 | .arr ks, key => if (brk key).2 = true then ks[(brk key).1.toNat]? else none
 | _, _ => none
def reachJ : J → List ByteArray → J × Nat
 | j, [] => (j, 0)
 | j, key :: ks => match stepJ j key with
  | none => (j, 0)
  | some c => ((reachJ c ks).1, (reachJ c ks).2 + 1)
def onceJ : J → List ByteArray → Prop
 | _, [] => True
 | j, key :: ks => (∀ ms, j = .obj ms → (named key ms).length ≤ 1) ∧ match stepJ j key with
  | none => True
  | some c => onceJ c ks
def foundJ : J → List ByteArray → Prop
 | _, [] => True
 | j, key :: ks => (∀ ms, j = .obj ms → ¬ IdxK key) ∧ ∃ c, stepJ j key = some c ∧ foundJ c ks
theorem toList_eq_iff (a b : ByteArray) : a.toList = b.toList ↔ a = b := by
 constructor
 ·intro h
  rw [ByteArray.toList_eq, ByteArray.toList_eq] at h
  exact ByteArray.ext (Array.toList_inj.mp h)
 ·intro h; rw [h]
theorem rd64 {ns : List S64} {m : Nat} {n : S64} {r : List S64} (h : ns.drop m = n :: r) : rd_T64 ns (m : Int) = n ∧ m < ns.length := by
 have hl := drop_lt h
 rw [List.drop_eq_getElem_cons hl] at h
 injection h with h1 h2
 refine ⟨?_, hl⟩
 simp [rd_T64, List.getD_eq_getElem?_getD, List.getElem?_eq_getElem hl, h1]
theorem RlM.lens {t : List Int} {ns : List S64} {ps : List S31} {ms : List (List Int × J)} : RlM t ns ps ms → ns.length = ms.length ∧ ps.length = ms.length := by
 intro h
 induction ms generalizing ns ps with
 | nil => cases h; exact ⟨rfl, rfl⟩
 | cons m ms ih =>
  cases h with
  | cons n u p j ns ps ms hn hp hr =>
   obtain ⟨h1, h2⟩ := ih hr
   exact ⟨by simp [h1], by simp [h2]⟩
theorem RlL.len {t : List Int} {ps : List S31} {ks : List J} : RlL t ps ks → ps.length = ks.length := by
 intro h
 induction ks generalizing ps with
 | nil => cases h; rfl
 | cons m ms ih =>
  cases h with
  | cons p j ps ks hp hr => simp [ih hr]
theorem RlL.get {t : List Int} {ps : List S31} {ks : List J} (h : RlL t ps ks) (i : Nat) (j : J) (hj : ks[i]? = some j) : ∃ p, ps[i]? = some p ∧ Rl t p j := by
 induction ks generalizing ps i with
 | nil => cases hj
 | cons m ms ih =>
  cases h with
  | cons p j' ps ks hp hr =>
   cases i with
   | zero => injection hj with hj; subst hj; exact ⟨p, rfl, hp⟩
   | succ i => exact ih hr i hj
theorem named_cons_eq {key : ByteArray} {u : List Int} {j : J} {ms : List (List Int × J)} (h : strOfNums u = key) : named key ((u, j) :: ms) = (u, j) :: named key ms := by
 unfold named
 rw [List.filter_cons_of_pos (by simpa using h)]
theorem named_cons_ne {key : ByteArray} {u : List Int} {j : J} {ms : List (List Int × J)} (h : strOfNums u ≠ key) : named key ((u, j) :: ms) = named key ms := by
 unfold named
 rw [List.filter_cons_of_neg (by simpa using h)]
theorem named_l0 (a : ByteArray) (hn : a.size ≤ 65536) (key : ByteArray) (f0 f1 f2 : Int) (ns : List S64) (ps : List S31) (hl : ns.length < 4294967296) : ∀ (ms' : List (List Int × J)) (ns' : List S64) (ps' : List S31) (m k : Nat), ns.drop m = ns' → RlM (bytesOf a) ns' ps' ms' → ns'.length + 100001 ≤ k →
  ∃ r : Int, spec_Named.l0 k a key (m : Int) f0 f1 f2 ns ps = some r ∧ ((r = -1 ∧ named key ms' = []) ∨ ∃ (q : Nat) (u : List Int) (p : S31) (j : J) (rest : List (List Int × J)), r = ((m + q : Nat) : Int) ∧ named key ms' = (u, j) :: rest ∧ ps'[q]? = some p ∧ Rl (bytesOf a) p j) := by
 intro ms'
 induction ms' with
 | nil =>
  intro ns' ps' m k h hR hk
  cases hR
  obtain ⟨k, rfl⟩ : ∃ m, k = m + 1 := ⟨k - 1, by omega⟩
  have := List.drop_eq_nil_iff.mp h
  simp only [spec_Named.l0]
  rw [if_neg (by omega)]
  exact ⟨-1, rfl, .inl ⟨rfl, rfl⟩⟩
 | cons mj ms' ih =>
  intro ns' ps' m k h hR hk
  cases hR with
  | cons n u p j ns'' ps'' _ hname hp hR =>
  obtain ⟨k, rfl⟩ : ∃ m, k = m + 1 := ⟨k - 1, by omega⟩
  obtain ⟨h1, h2⟩ := rd64 h
  obtain ⟨u1, u2, u3, u4⟩ := unquote_at a hn n u hname k (by omega)
  simp only [spec_Named.l0]
  rw [if_pos (by omega), if_pos (by omega), h1, if_pos u1, if_pos u2, if_pos u3, u4]
  simp only [Option.bind_some]
  by_cases hk1 : strOfNums u = key
  ·rw [if_pos ((toList_eq_iff _ _).mpr hk1)]
   exact ⟨_, rfl, .inr ⟨0, u, p, j, named key ms', rfl, named_cons_eq hk1, rfl, hp⟩⟩
  ·rw [if_neg (fun e => hk1 ((toList_eq_iff _ _).mp e)), w64_1 (by omega)]
   obtain ⟨r, hr, hc⟩ := ih ns'' ps'' (m + 1) k (drop_next h) hR (by rw [List.length_cons] at hk; omega)
   refine ⟨r, hr, ?_⟩
   rw [named_cons_ne hk1]
   rcases hc with hc | ⟨q, u', p', j', rest, e, hn', hp', hr'⟩
   ·exact .inl hc
   ·exact .inr ⟨q + 1, u', p', j', rest, by rw [e, Nat.add_assoc, Nat.add_comm 1], hn', hp', hr'⟩
abbrev StT := Int × Int × Int × (List S64) × (List S31) × Bool
theorem named_f (a : ByteArray) (hn : a.size ≤ 65536) (key : ByteArray) (f0 f1 f2 : Int) (ns : List S64) (ps : List S31) (ms : List (List Int × J)) (hl : ns.length ≤ 65536) (hR : RlM (bytesOf a) ns ps ms) (k : Nat) (hk : 200000 ≤ k) :
  ∃ r : Int, spec_Named.f k a f0 f1 f2 ns ps key = some r ∧ ((r = -1 ∧ named key ms = []) ∨ ∃ (q : Nat) (u : List Int) (p : S31) (j : J) (rest : List (List Int × J)), r = (q : Int) ∧ named key ms = (u, j) :: rest ∧ ps[q]? = some p ∧ Rl (bytesOf a) p j) := by
 obtain ⟨r, hr, hc⟩ := named_l0 a hn key f0 f1 f2 ns ps (by omega) ms ns ps 0 k rfl hR (by omega)
 refine ⟨r, hr, ?_⟩
 rcases hc with hc | ⟨q, u, p, j, rest, e, hx⟩
 ·exact .inl hc
 ·exact .inr ⟨q, u, p, j, rest, by rw [e, Nat.zero_add], hx⟩
/-- A place's lists are no longer than a text. -/
def Short : Nat → J → Prop
 | 0, _ => True
 | m + 1, .arr ks => ks.length ≤ 65536 ∧ ∀ j ∈ ks, Short m j
 | m + 1, .obj ms => ms.length ≤ 65536 ∧ ∀ j ∈ ms, Short m j.2
 | _ + 1, _ => True
theorem rd31 {ps : List S31} {q : Nat} {p : S31} (h : ps[q]? = some p) : rd_T31 ps (q : Int) = p ∧ q < ps.length := by
 obtain ⟨hl, hp⟩ := List.getElem?_eq_some_iff.mp h
 refine ⟨?_, hl⟩
 simp [rd_T31, List.getD_eq_getElem?_getD, List.getElem?_eq_getElem hl, hp]
theorem step_f (a : ByteArray) (hn : a.size ≤ 65536) (key : ByteArray) (hkey : key.size ≤ 4294967296) (p : S31) (j : J) (hR : Rl (bytesOf a) p j) (m : Nat) (hS : Short (m + 1) j) (k : Nat) (hk : 10000000000 ≤ k) :
  ∃ r : StT, spec_Step.f k a p.f0 p.f1 p.f2 p.f3 p.f4 key = some r ∧ ((r.2.2.2.2.2 = false ∧ stepJ j key = none) ∨ ∃ (c : S31) (cj : J), r = (c.f0, c.f1, c.f2, c.f3, c.f4, true) ∧ stepJ j key = some cj ∧ Rl (bytesOf a) c cj ∧ Short m cj) := by
 unfold spec_Step.f
 cases hR with
 | leaf _ _ hj h5 h6 =>
  rw [if_neg h6, if_neg h5]
  refine ⟨_, rfl, .inl ⟨rfl, ?_⟩⟩
  rcases hj with rfl | rfl <;> rfl
 | obj _ ms h6 hM =>
  rw [if_pos h6]
  obtain ⟨hl1, hl2⟩ := hM.lens
  obtain ⟨r, hr, hc⟩ := named_f a hn key p.f0 p.f1 p.f2 p.f3 p.f4 ms (by have := hS.1; omega) hM k (by omega)
  rw [hr]
  simp only [Option.bind_some]
  rcases hc with ⟨rfl, hno⟩ | ⟨q, u, c, cj, rest, rfl, hnm, hc, hcR⟩
  ·rw [if_pos (by decide)]
   exact ⟨_, rfl, .inl ⟨rfl, by simp [stepJ, hno]⟩⟩
  ·obtain ⟨e1, e2⟩ := rd31 hc
   rw [if_neg (by omega), if_pos (by omega), if_pos (by omega), e1]
   refine ⟨_, rfl, .inr ⟨c, cj, rfl, by simp [stepJ, hnm], hcR, ?_⟩⟩
   have hmem : (u, cj) ∈ named key ms := by rw [hnm]; exact List.mem_cons_self
   exact hS.2 (u, cj) ((List.mem_filter.mp hmem).1)
 | arr _ ks h5 hL =>
  rw [if_neg (by omega), if_pos h5, brk_f key hkey k (by omega)]
  simp only [Option.bind_some]
  have hlen := hL.len
  by_cases hb : (brk key).2 = true
  ·rw [if_pos hb]
   have hB := brk_R key hkey hb
   have h0 : 0 ≤ (brk key).1 := by obtain ⟨_, _, _, _, h, _⟩ := hB; exact h
   obtain ⟨k, rfl⟩ : ∃ m, k = m + 1 := ⟨k - 1, by omega⟩
   simp only [spec_Step.j0]
   by_cases hlt : (brk key).1 < (p.f4.length : Int)
   ·rw [if_pos (by simpa using hlt), if_neg (by omega), if_pos h0, if_pos hlt]
    obtain ⟨cj, hcj⟩ : ∃ cj, ks[(brk key).1.toNat]? = some cj := ⟨_, List.getElem?_eq_getElem (by omega)⟩
    obtain ⟨c, hc, hcR⟩ := hL.get _ _ hcj
    obtain ⟨e1, e2⟩ := rd31 hc
    rw [Int.toNat_of_nonneg h0] at e1
    rw [e1]
    exact ⟨_, rfl, .inr ⟨c, cj, rfl, by simp [stepJ, hb, hcj], hcR, hS.2 cj (List.mem_of_getElem? hcj)⟩⟩
   ·rw [if_neg (by simpa using hlt), if_pos (by decide)]
    refine ⟨_, rfl, .inl ⟨rfl, ?_⟩⟩
    simp only [stepJ]
    rw [if_pos hb, List.getElem?_eq_none (by omega)]
  ·rw [if_neg hb]
   obtain ⟨k, rfl⟩ : ∃ m, k = m + 1 := ⟨k - 1, by omega⟩
   simp only [spec_Step.j0]
   rw [if_neg (by decide), if_pos (by decide)]
   exact ⟨_, rfl, .inl ⟨rfl, by simp [stepJ, hb]⟩⟩
theorem rdKey {ks : List ByteArray} {m : Nat} {key : ByteArray} {r : List ByteArray} (h : ks.drop m = key :: r) : rdOf ByteArray.empty ks (m : Int) = key ∧ m < ks.length := by
 have hl := drop_lt h
 rw [List.drop_eq_getElem_cons hl] at h
 injection h with h1 h2
 refine ⟨?_, hl⟩
 simp [rdOf, List.getD_eq_getElem?_getD, List.getElem?_eq_getElem hl, h1]
/-- Keys whose texts are not too long. -/
def FitK (ks : List ByteArray) : Prop := ks.length ≤ 4294967296 ∧ ∀ q ∈ ks, q.size ≤ 4294967296
theorem reach_l0 (a : ByteArray) (hn : a.size ≤ 65536) (x2 all : List ByteArray) (hf : FitK all) (hx2 : x2.length = all.length) : ∀ (ks : List ByteArray) (m k : Nat) (p : S31) (j : J), all.drop m = ks → m ≤ all.length → Rl (bytesOf a) p j → Short (ks.length + 1) j → ks.length + 10000000001 ≤ k →
  ∃ (c : S31), spec_Reach.l0 k a x2 all (all.length : Int) (m : Int) p.f0 p.f1 p.f2 p.f3 p.f4 = some (c.f0, c.f1, c.f2, c.f3, c.f4, ((m + (reachJ j ks).2 : Nat) : Int)) ∧ Rl (bytesOf a) c (reachJ j ks).1 := by
 intro ks
 induction ks with
 | nil =>
  intro m k p j h hm hR hS hk
  obtain ⟨k, rfl⟩ : ∃ m, k = m + 1 := ⟨k - 1, by omega⟩
  have := List.drop_eq_nil_iff.mp h
  simp only [spec_Reach.l0]
  rw [if_neg (by omega), hx2]
  exact ⟨p, by rw [show m = all.length by omega]; rfl, hR⟩
 | cons key ks ih =>
  intro m k p j h hm hR hS hk
  obtain ⟨k, rfl⟩ : ∃ m, k = m + 1 := ⟨k - 1, by omega⟩
  obtain ⟨e1, e2⟩ := rdKey h
  have hmem : key ∈ all := List.mem_of_mem_drop (i := m) (by rw [h]; exact List.mem_cons_self)
  simp only [spec_Reach.l0]
  rw [if_pos (by omega), if_pos (by omega), if_pos (by omega), e1]
  obtain ⟨r, hr, hc⟩ := step_f a hn key (hf.2 key hmem) p j hR (ks.length + 1) hS k (by omega)
  rw [hr]
  simp only [Option.bind_some]
  rcases hc with ⟨hb, hnone⟩ | ⟨c, cj, rfl, hsome, hcR, hcS⟩
  ·rw [if_neg (by rw [hb]; decide)]
   refine ⟨p, by simp only [reachJ, hnone]; rfl, by simp only [reachJ, hnone]; exact hR⟩
  ·simp only [if_true]
   rw [w64_1 (by have := hf.1; omega)]
   obtain ⟨c', hc', hR'⟩ := ih (m + 1) k c cj (drop_next h) (by omega) hcR hcS (by rw [List.length_cons] at hk; omega)
   refine ⟨c', ?_, by simp only [reachJ, hsome]; exact hR'⟩
   rw [hc']
   simp only [reachJ, hsome]
   rw [show m + 1 + (reachJ cj ks).2 = m + ((reachJ cj ks).2 + 1) by omega]
theorem once_l1 (a : ByteArray) (hn : a.size ≤ 65536) (key : ByteArray) (x13 : List ByteArray) (x14 x15 : Int) (p : S31) (hl : p.f3.length ≤ 65536) : ∀ (ms' : List (List Int × J)) (ns' : List S64) (ps' : List S31) (m k : Nat) (cnt : Nat), p.f3.drop m = ns' → m ≤ p.f3.length → RlM (bytesOf a) ns' ps' ms' → ns'.length + 200001 ≤ k → cnt ≤ m →
  ∃ k', k ≤ k' + ns'.length + 1 ∧ spec_Once.l1 k a key (cnt : Int) (m : Int) x13 x14 x15 p.f0 p.f1 p.f2 p.f3 p.f4 = if ((cnt + (named key ms').length : Nat) : Int) > 1 then some false else ((spec_Step.f k' a p.f0 p.f1 p.f2 p.f3 p.f4 key).bind fun bt371 => (if bt371.2.2.2.2.2 = true then (spec_Once.l0 k' a x13 x14 (wrap64 (x15 + 1)) bt371.1 bt371.2.1 bt371.2.2.1 bt371.2.2.2.1 bt371.2.2.2.2.1) else (some true))) := by
 intro ms'
 induction ms' with
 | nil =>
  intro ns' ps' m k cnt h hm hR hk hcnt
  cases hR
  obtain ⟨k, rfl⟩ : ∃ m, k = m + 1 := ⟨k - 1, by omega⟩
  have := List.drop_eq_nil_iff.mp h
  refine ⟨k, by rw [List.length_nil]; omega, ?_⟩
  simp only [spec_Once.l1]
  rw [if_neg (by omega)]
  rfl
 | cons mj ms' ih =>
  intro ns' ps' m k cnt h hm hR hk hcnt
  cases hR with
  | cons n u q j ns'' ps'' _ hname hp hR =>
  obtain ⟨k, rfl⟩ : ∃ m, k = m + 1 := ⟨k - 1, by omega⟩
  obtain ⟨h1, h2⟩ := rd64 h
  obtain ⟨u1, u2, u3, u4⟩ := unquote_at a hn n u hname k (by omega)
  simp only [spec_Once.l1]
  rw [if_pos (by omega), if_pos (by omega), h1, if_pos u1, if_pos u2, if_pos u3, u4]
  simp only [Option.bind_some]
  by_cases hk1 : strOfNums u = key
  ·rw [if_pos ((toList_eq_iff _ _).mpr hk1), w64_1 (n := m) (by omega), w64_1 (n := cnt) (by omega)]
   obtain ⟨k', hk', e⟩ := ih ns'' ps'' (m + 1) k (cnt + 1) (drop_next h) (by omega) hR (by rw [List.length_cons] at hk; omega) (by omega)
   refine ⟨k', by rw [List.length_cons]; omega, ?_⟩
   rw [e, named_cons_eq hk1, List.length_cons, show cnt + 1 + (named key ms').length = cnt + ((named key ms').length + 1) by omega]
  ·rw [if_neg (fun e => hk1 ((toList_eq_iff _ _).mp e)), w64_1 (n := m) (by omega)]
   obtain ⟨k', hk', e⟩ := ih ns'' ps'' (m + 1) k cnt (drop_next h) (by omega) hR (by rw [List.length_cons] at hk; omega) (by omega)
   refine ⟨k', by rw [List.length_cons]; omega, ?_⟩
   rw [e, named_cons_ne hk1]
theorem once_l0 (a : ByteArray) (hn : a.size ≤ 65536) (all : List ByteArray) (hf : FitK all) : ∀ (ks : List ByteArray) (m k : Nat) (p : S31) (j : J), all.drop m = ks → m ≤ all.length → Rl (bytesOf a) p j → Short (ks.length + 1) j → 300000 * ks.length + 10000500000 ≤ k →
  ∃ b, spec_Once.l0 k a all (all.length : Int) (m : Int) p.f0 p.f1 p.f2 p.f3 p.f4 = some b ∧ (b = true → onceJ j ks) := by
 intro ks
 induction ks with
 | nil =>
  intro m k p j h hm hR hS hk
  obtain ⟨k, rfl⟩ : ∃ m, k = m + 1 := ⟨k - 1, by omega⟩
  have := List.drop_eq_nil_iff.mp h
  simp only [spec_Once.l0]
  rw [if_neg (by omega)]
  exact ⟨true, rfl, fun _ => trivial⟩
 | cons key ks ih =>
  intro m k p j h hm hR hS hk
  obtain ⟨k, rfl⟩ : ∃ m, k = m + 1 := ⟨k - 1, by omega⟩
  obtain ⟨e1, e2⟩ := rdKey h
  have hmem : key ∈ all := List.mem_of_mem_drop (i := m) (by rw [h]; exact List.mem_cons_self)
  have hcount : ∀ k', 300000 * ks.length + 10000700000 ≤ k' + 1 → (∀ ms, j = .obj ms → (named key ms).length ≤ 1) → ∃ b, ((spec_Step.f k' a p.f0 p.f1 p.f2 p.f3 p.f4 key).bind fun bt371 => (if bt371.2.2.2.2.2 = true then (spec_Once.l0 k' a all (all.length : Int) (wrap64 ((m : Int) + 1)) bt371.1 bt371.2.1 bt371.2.2.1 bt371.2.2.2.1 bt371.2.2.2.2.1) else (some true))) = some b ∧ (b = true → onceJ j (key :: ks)) := by
   intro k' hk' hle
   obtain ⟨r, hr, hc⟩ := step_f a hn key (hf.2 key hmem) p j hR (ks.length + 1) hS k' (by omega)
   rw [hr]
   simp only [Option.bind_some]
   rcases hc with ⟨hb, hnone⟩ | ⟨c, cj, rfl, hsome, hcR, hcS⟩
   ·rw [if_neg (by rw [hb]; decide)]
    exact ⟨true, rfl, fun _ => ⟨hle, by rw [hnone]; trivial⟩⟩
   ·simp only [if_true]
    rw [w64_1 (by have := hf.1; omega)]
    obtain ⟨b, hb, hok⟩ := ih (m + 1) k' c cj (drop_next h) (by omega) hcR hcS (by omega)
    exact ⟨b, hb, fun ok => ⟨hle, by rw [hsome]; exact hok ok⟩⟩
  simp only [spec_Once.l0]
  rw [if_pos (by omega), if_pos (by omega), if_pos (by omega), e1]
  by_cases h6 : p.f0 = 6
  ·rw [if_pos h6]
   cases hR with
   | leaf _ _ hj h5 hn6 => exact absurd h6 hn6
   | arr _ ks' h5 hL => exact absurd (h5.symm.trans h6) (by decide)
   | obj _ ms _ hM =>
    obtain ⟨hl1, hl2⟩ := hM.lens
    have hsl := hS.1
    obtain ⟨k', hk', e⟩ := once_l1 a hn key all (all.length : Int) (m : Int) p (by omega) ms p.f3 p.f4 0 k 0 rfl (by omega) hM (by rw [List.length_cons] at hk; omega) (by omega)
    have e : spec_Once.l1 k a key 0 0 all (all.length : Int) (m : Int) p.f0 p.f1 p.f2 p.f3 p.f4 = _ := e
    rw [e]
    by_cases hgt : ((0 + (named key ms).length : Nat) : Int) > 1
    ·rw [if_pos hgt]
     exact ⟨false, rfl, fun h => (by cases h)⟩
    ·rw [if_neg hgt]
     exact hcount k' (by rw [List.length_cons] at hk; omega) (fun ms' e => by injection e with e; subst e; omega)
  ·rw [if_neg h6]
   refine hcount k (by rw [List.length_cons] at hk; omega) (fun ms' e => ?_)
   subst e
   cases hR with
   | leaf _ _ hj _ _ => rcases hj with hj | hj <;> cases hj
   | obj _ _ h _ => exact absurd h h6
theorem idx_f (key : ByteArray) : ∃ b, laws_jpIndex.f key = some b ∧ (b = true ↔ IdxK key) := by
 unfold laws_jpIndex.f
 by_cases c1 : key.toList = ([] : List UInt8)
 ·rw [if_pos c1]
  refine ⟨false, rfl, ⟨fun h => (by cases h), fun ⟨r, hr⟩ => ?_⟩⟩
  rw [ByteArray.toList_eq] at c1
  unfold bytesOf at hr
  rw [c1] at hr
  cases hr
 ·rw [if_neg c1]
  cases hb : bytesOf key with
  | nil =>
   exfalso
   rw [ByteArray.toList_eq] at c1
   unfold bytesOf at hb
   exact c1 (List.map_eq_nil_iff.mp hb)
  | cons c r =>
   have hs := bytesOf_length key
   rw [hb] at hs
   have hs : r.length + 1 = key.size := by simpa using hs
   have hbt : bt key 0 = c := bt_drop (i := 0) (r := r) (by rw [List.drop_zero]; exact hb)
   rw [if_pos (by omega), hbt]
   refine ⟨_, rfl, ?_⟩
   unfold IdxK
   rw [hb]
   simp only [beq_iff_eq]
   exact ⟨fun h => ⟨r, by rw [h]⟩, fun ⟨r', h⟩ => by injection h⟩
theorem found_l0 (a : ByteArray) (hn : a.size ≤ 65536) (all : List ByteArray) (hf : FitK all) : ∀ (ks : List ByteArray) (m k : Nat) (p : S31) (j : J), all.drop m = ks → m ≤ all.length → Rl (bytesOf a) p j → Short (ks.length + 1) j → 2 * ks.length + 10000500000 ≤ k →
  ∃ r : StT, laws_jpFound.l0 k a all (all.length : Int) (m : Int) p.f0 p.f1 p.f2 p.f3 p.f4 = some r ∧ (r.2.2.2.2.2 = true → foundJ j ks) := by
 intro ks
 induction ks with
 | nil =>
  intro m k p j h hm hR hS hk
  obtain ⟨k, rfl⟩ : ∃ m, k = m + 1 := ⟨k - 1, by omega⟩
  have := List.drop_eq_nil_iff.mp h
  simp only [laws_jpFound.l0]
  rw [if_neg (by omega)]
  exact ⟨_, rfl, fun _ => trivial⟩
 | cons key ks ih =>
  intro m k p j h hm hR hS hk
  obtain ⟨k, rfl⟩ : ∃ m, k = m + 2 := ⟨k - 2, by omega⟩
  obtain ⟨e1, e2⟩ := rdKey h
  have hmem : key ∈ all := List.mem_of_mem_drop (i := m) (by rw [h]; exact List.mem_cons_self)
  have rest : (∀ ms, j = .obj ms → ¬ IdxK key) → ∃ r : StT, laws_jpFound.j2 (k + 1) a key all (all.length : Int) (m : Int) false p.f0 p.f1 p.f2 p.f3 p.f4 = some r ∧ (r.2.2.2.2.2 = true → foundJ j (key :: ks)) := by
   intro hidx
   simp only [laws_jpFound.j2]
   rw [if_neg (by decide)]
   obtain ⟨r, hr, hc⟩ := step_f a hn key (hf.2 key hmem) p j hR (ks.length + 1) hS k (by omega)
   rw [hr]
   simp only [Option.bind_some]
   rcases hc with ⟨hb, hnone⟩ | ⟨c, cj, rfl, hsome, hcR, hcS⟩
   ·rw [if_neg (by rw [hb]; decide)]
    exact ⟨_, rfl, fun h => (by cases h)⟩
   ·simp only [if_true]
    rw [w64_1 (by have := hf.1; omega)]
    obtain ⟨b, hb, hok⟩ := ih (m + 1) k c cj (drop_next h) (by omega) hcR hcS (by rw [List.length_cons] at hk; omega)
    exact ⟨b, hb, fun ok => ⟨hidx, cj, hsome, hok ok⟩⟩
  simp only [laws_jpFound.l0]
  rw [if_pos (by omega), if_pos (by omega), if_pos (by omega), e1]
  by_cases h6 : p.f0 = 6
  ·rw [if_pos h6]
   obtain ⟨b, hb, hbi⟩ := idx_f key
   rw [hb]
   simp only [Option.bind_some]
   cases b with
   | true =>
    simp only [laws_jpFound.j2]
    rw [if_true]
    exact ⟨_, rfl, fun h => (by cases h)⟩
   | false => exact rest (fun ms _ hi => by cases hbi.mpr hi)
  ·rw [if_neg h6]
   refine rest (fun ms' e => ?_)
   subst e
   cases hR with
   | leaf _ _ hj _ _ => rcases hj with hj | hj <;> cases hj
   | obj _ _ h _ => exact absurd h h6
theorem brK_of {key : ByteArray} {i : Int} (h : BrR key i) (h18 : key.size ≤ 20 ∨ i < 131072) : ∃ d, BrK key d ∧ i = decV d := by
 obtain ⟨d, h1, h2, h3, h4, h5, h6⟩ := h
 have hl : d.length ≤ 18 := by
  rcases h18 with h18 | h18
  ·have := bytesOf_length key
   rw [h1] at this
   simp at this
   omega
  ·exact h6 h18
 exact ⟨d, ⟨h1, h2, h3, hl⟩, h5 hl⟩
theorem miss_of : ∀ (keys : List ByteArray) (j : J) (key : ByteArray), (∀ q ∈ keys, q.size ≤ 4294967296) → (∀ m, Short m j) → onceJ j keys → foundJ j (keys.take (reachJ j keys).2) → keys[(reachJ j keys).2]? = some key →
  (¬ IdxK key ∨ (∃ ks, (reachJ j keys).1 = .arr ks) ∧ (brk key).2 = true ∧ key.size ≤ 20) → Miss j keys := by
 intro keys
 induction keys with
 | nil => intro j key _ _ _ _ h; cases h
 | cons key0 ks ih =>
  intro j key hf hS hO hF hk hc
  cases hs : stepJ j key0 with
  | none =>
   simp only [reachJ, hs] at hk hc hF
   have hk : key0 = key := by simpa using hk
   subst hk
   have hnoarr : ∀ {P : Prop}, (∀ ks, j ≠ .arr ks) → (¬ IdxK key0 → P) → P := by
    intro P hj hP
    rcases hc with hc | ⟨⟨ks', e⟩, _⟩
    ·exact hP hc
    ·exact absurd e (hj ks')
   cases j with
   | atom => exact hnoarr (fun _ h => by cases h) (fun h => .leaf _ _ _ (.inl rfl) h)
   | str => exact hnoarr (fun _ h => by cases h) (fun h => .leaf _ _ _ (.inr rfl) h)
   | obj ms =>
    refine hnoarr (fun _ h => by cases h) (fun h => .objNone _ _ _ ?_ h)
    simp only [stepJ, Option.map_eq_none_iff, List.head?_eq_none_iff] at hs
    exact hs
   | arr es =>
    rcases hc with hc | ⟨_, hb, h20⟩
    ·exact .arrName _ _ _ hc
    ·obtain ⟨d, hd, he⟩ := brK_of (brk_R key0 (hf key0 List.mem_cons_self) hb) (.inl h20)
     refine .arrFar _ _ _ d hd ?_
     simp only [stepJ] at hs
     rw [if_pos hb, List.getElem?_eq_none_iff] at hs
     have h0 : 0 ≤ (brk key0).1 := by obtain ⟨_, _, _, _, h, _⟩ := brk_R key0 (hf key0 List.mem_cons_self) hb; exact h
     omega
  | some c =>
   simp only [reachJ, hs] at hk hc hF
   rw [List.take_succ_cons] at hF
   obtain ⟨hidx, c', hs', hF⟩ := hF
   rw [hs] at hs'
   injection hs' with hs'
   subst hs'
   obtain ⟨hO1, hO2⟩ := hO
   rw [hs] at hO2
   have hk : ks[(reachJ c ks).2]? = some key := by simpa using hk
   have hSc : ∀ m, Short m c := by
    intro m
    have hS1 := hS (m + 1)
    cases j with
    | atom => simp [stepJ] at hs
    | str => simp [stepJ] at hs
    | obj ms =>
     simp only [stepJ, Option.map_eq_some_iff] at hs
     obtain ⟨⟨u, c'⟩, h1, h2⟩ := hs
     have h2 : c' = c := h2
     subst h2
     have hmem : (u, c') ∈ named key0 ms := List.mem_of_mem_head? h1
     exact hS1.2 (u, c') ((List.mem_filter.mp hmem).1)
    | arr es =>
     simp only [stepJ] at hs
     split at hs
     ·exact hS1.2 c (List.mem_of_getElem? hs)
     ·cases hs
   have hM := ih c key (fun q hq => hf q (List.mem_cons_of_mem _ hq)) hSc hO2 hF hk hc
   cases j with
   | atom => simp [stepJ] at hs
   | str => simp [stepJ] at hs
   | obj ms =>
    simp only [stepJ, Option.map_eq_some_iff] at hs
    obtain ⟨⟨u, c'⟩, h1, h2⟩ := hs
    have h2 : c' = c := h2
    subst h2
    refine .objDown ms key0 ks u c' ?_ (hidx ms rfl) hM
    have hl := hO1 ms rfl
    cases hn : named key0 ms with
    | nil => rw [hn] at h1; cases h1
    | cons x r =>
     rw [hn] at h1 hl
     have hr : r = [] := List.length_eq_zero_iff.mp (by rw [List.length_cons] at hl; omega)
     have hx : x = (u, c') := by simpa using h1
     rw [hr, hx]
   | arr es =>
    simp only [stepJ] at hs
    by_cases hb : (brk key0).2 = true
    rotate_left
    ·rw [if_neg hb] at hs; cases hs
    rw [if_pos hb] at hs
    have hlt : (brk key0).1.toNat < es.length := (List.getElem?_eq_some_iff.mp hs).1
    have hl : es.length ≤ 65536 := (hS 1).1
    have hR := brk_R key0 (hf key0 List.mem_cons_self) hb
    have h0 : 0 ≤ (brk key0).1 := by obtain ⟨_, _, _, _, h, _⟩ := hR; exact h
    obtain ⟨d, hd, he⟩ := brK_of hR (.inr (by omega))
    exact .arrDown _ _ _ d c hd (by rw [← he]; exact hs) hM
mutual
theorem V.short {l : List Int} {j : J} (hl : l.length ≤ 65536) (m : Nat) : V l j → Short m j
 | .atom l h => by cases m <;> trivial
 | .str s h => by cases m <;> trivial
 | .arr0 w h => by cases m with
  | zero => trivial
  | succ m => exact ⟨by simp, fun j hj => (by cases hj)⟩
 | .arr w l ks hw h => by
  have hl' : l.length ≤ 65536 := by simp at hl; omega
  cases m with
  | zero => trivial
  | succ m =>
   have := Els.short hl' m h
   exact ⟨by omega, this.2⟩
 | .obj0 w h => by cases m with
  | zero => trivial
  | succ m => exact ⟨by simp, fun j hj => (by cases hj)⟩
 | .obj w l ks hw h => by
  have hl' : l.length ≤ 65536 := by simp at hl; omega
  cases m with
  | zero => trivial
  | succ m =>
   have := Mbs.short hl' m h
   exact ⟨by omega, this.2⟩
theorem Els.short {l : List Int} {ks : List J} (hl : l.length ≤ 65536) (m : Nat) : Els l ks → ks.length ≤ l.length ∧ ∀ j ∈ ks, Short m j
 | .last l j w h hw => by
  have := V.short (by simp at hl; omega) m h
  refine ⟨by simp; omega, fun j' hj' => ?_⟩
  have : j' = j := by simpa using hj'
  subst this; assumption
 | .more l j w1 w2 r ks h hw1 hw2 hr => by
  have h1 := V.short (by simp at hl; omega) m h
  have h2 := Els.short (by simp at hl; omega) m hr
  refine ⟨by simp; omega, fun j' hj' => ?_⟩
  rcases List.mem_cons.mp hj' with rfl | hj'
  ·exact h1
  ·exact h2.2 j' hj'
theorem Mbs.short {l : List Int} {ks : List (List Int × J)} (hl : l.length ≤ 65536) (m : Nat) : Mbs l ks → ks.length ≤ l.length ∧ ∀ j ∈ ks, Short m j.2
 | .last s u w1 w2 l j w3 hu hw1 hw2 h hw => by
  have := V.short (by simp at hl; omega) m h
  refine ⟨by simp, fun j' hj' => ?_⟩
  have : j' = (u, j) := by simpa using hj'
  subst this; assumption
 | .more s u w1 w2 l j w3 w4 r ks hu hw1 hw2 h hw3 hw4 hr => by
  have h1 := V.short (by simp at hl; omega) m h
  have h2 := Mbs.short (by simp at hl; omega) m hr
  refine ⟨by simp; omega, fun j' hj' => ?_⟩
  rcases List.mem_cons.mp hj' with rfl | hj'
  ·exact h1
  ·exact h2.2 j' hj'
end
/-- What the reader says of a whole text, the same from some number of rounds on. -/
theorem jpPlaces_fix (a : ByteArray) : ∃ r : StT, (∀ k, 1000000 ≤ k → laws_jpPlaces.f k a = some r) ∧ (r.2.2.2.2.2 = true → a.size ≤ 65536 ∧ ∃ (p : S31) (w l v : List Int) (j : J), bytesOf a = w ++ (l ++ v) ∧ Ws w ∧ Ws v ∧ V l j ∧ r = (p.f0, p.f1, p.f2, p.f3, p.f4, true) ∧ Rl (bytesOf a) p j) := by
 by_cases hbig : (a.size : Int) > 65536
 ·refine ⟨(0, 0, 0, [], [], false), fun k _ => ?_, fun h => by cases h⟩
  unfold laws_jpPlaces.f
  rw [if_pos hbig]
 ·obtain ⟨r, hr, hok⟩ := places_all a (by omega) 1000000 (Nat.le_refl _)
  refine ⟨r, fun k hk => ?_, fun ok => ⟨by omega, hok ok⟩⟩
  unfold laws_jpPlaces.f
  rw [if_neg hbig, at_rounds (g := fun k => spec_Places.f k a) (fun k => spec_Places.mono a k) hk hr]
  rfl
theorem rest_l0 (keys : List ByteArray) (n : Nat) (hn : n < keys.length) (hf : FitK keys) (x54 : List ByteArray) (hl : x54.length ≤ 4294967296) (f0 f1 f2 : Int) (f3 : List S64) (f4 : List S31) : ∀ (s : List ByteArray) (m k : Nat), x54.drop m = s → m ≤ x54.length → s.length + 10000000010 ≤ k →
  ∃ r : Int × Bool, laws_jpMisses.l0 k keys (n : Int) x54 (x54.length : Int) (m : Int) f0 f1 f2 f3 f4 = some r ∧ (r.2 = true → ∃ key, keys[n]? = some key ∧ (¬ IdxK key ∨ f0 = 5 ∧ (brk key).2 = true ∧ key.size ≤ 20)) := by
 intro s
 induction s with
 | nil =>
  intro m k h hm hk
  obtain ⟨k, rfl⟩ : ∃ m, k = m + 1 := ⟨k - 1, by omega⟩
  have := List.drop_eq_nil_iff.mp h
  simp only [laws_jpMisses.l0]
  rw [if_neg (by omega), if_pos (by omega), if_pos (by omega)]
  have hkey : keys[n]? = some keys[n] := List.getElem?_eq_getElem hn
  have hrd : rdOf ByteArray.empty keys (n : Int) = keys[n] := by
   simp [rdOf, List.getD_eq_getElem?_getD, hkey]
  rw [hrd, brk_f keys[n] (hf.2 _ (List.getElem_mem hn)) k (by have := hf.2 _ (List.getElem_mem hn); omega)]
  obtain ⟨b, hb, hbi⟩ := idx_f keys[n]
  simp only [Option.bind_some, hb]
  cases b with
  | false =>
   rw [if_neg (by decide)]
   exact ⟨_, rfl, fun _ => ⟨_, hkey, .inl fun h => by cases hbi.mpr h⟩⟩
  | true =>
   rw [if_pos rfl]
   by_cases h5 : f0 = 5
   rotate_left
   ·rw [if_neg h5]; exact ⟨_, rfl, fun h => (by cases h)⟩
   rw [if_pos h5]
   by_cases hbr : (brk keys[n]).2 = true
   rotate_left
   ·rw [if_neg hbr]; exact ⟨_, rfl, fun h => (by cases h)⟩
   rw [if_pos hbr]
   refine ⟨_, rfl, fun h => ⟨_, hkey, .inr ⟨h5, hbr, ?_⟩⟩⟩
   have : ((keys[n].size : Nat) : Int) ≤ 20 := by simpa using h
   omega
 | cons key s ih =>
  intro m k h hm hk
  obtain ⟨k, rfl⟩ : ∃ m, k = m + 1 := ⟨k - 1, by omega⟩
  obtain ⟨e1, e2⟩ := rdKey h
  simp only [laws_jpMisses.l0]
  rw [if_pos (by omega), if_pos (by omega), if_pos (by omega), e1]
  obtain ⟨b, hb, hbi⟩ := idx_f key
  rw [hb]
  simp only [Option.bind_some]
  cases b with
  | true => rw [if_pos rfl]; exact ⟨_, rfl, fun h => (by cases h)⟩
  | false =>
   rw [if_neg (by decide), w64_1 (by omega)]
   exact ih (m + 1) k (drop_next h) (by omega) (by rw [List.length_cons] at hk; omega)
theorem reachJ_le : ∀ (keys : List ByteArray) (j : J), (reachJ j keys).2 ≤ keys.length := by
 intro keys
 induction keys with
 | nil => intro j; simp [reachJ]
 | cons key ks ih =>
  intro j
  cases hs : stepJ j key with
  | none => simp [reachJ, hs]
  | some c =>
   have := ih c
   simp only [reachJ, hs, List.length_cons]
   omega
theorem FitK.take {keys : List ByteArray} (h : FitK keys) (n : Nat) : FitK (keys.take n) := ⟨by rw [List.length_take]; have := h.1; omega, fun q hq => h.2 q (List.mem_of_mem_take hq)⟩
theorem found_f (a : ByteArray) (ks : List ByteArray) (hf : FitK ks) (k : Nat) (hk : 400000000000000000 ≤ k) (r : StT) (hr : ∀ k, 1000000 ≤ k → laws_jpPlaces.f k a = some r) (p : S31) (j : J) (hn : a.size ≤ 65536) (he : r = (p.f0, p.f1, p.f2, p.f3, p.f4, true)) (hR : Rl (bytesOf a) p j) (hS : ∀ m, Short m j) :
  ∃ r : StT, laws_jpFound.f k a ks = some r ∧ (r.2.2.2.2.2 = true → foundJ j ks) := by
 unfold laws_jpFound.f
 have hfl := hf.1
 rw [hr k (by omega), he]
 simp only [Option.bind_some, if_true]
 obtain ⟨b, hb, _⟩ := once_l0 a hn ks hf ks 0 k p j rfl (by omega) hR (hS _) (by omega)
 have hb : spec_Once.f k a p.f0 p.f1 p.f2 p.f3 p.f4 ks = some b := hb
 rw [hb]
 simp only [Option.bind_some]
 obtain ⟨k, rfl⟩ : ∃ m, k = m + 1 := ⟨k - 1, by omega⟩
 simp only [laws_jpFound.j0]
 cases b with
 | false => exact ⟨_, rfl, fun h => (by cases h)⟩
 | true =>
  rw [if_neg (by decide)]
  exact found_l0 a hn ks hf ks 0 k p j rfl (by omega) hR (hS _) (by omega)
/-- The guard answers, and where it says yes the keys lead nowhere. -/
theorem misses_f (a : ByteArray) (keys : List ByteArray) (hf : FitK keys) (k : Nat) (hk : 500000000000000000 ≤ k) : ∃ r : Int × Bool, laws_jpMisses.f k a keys = some r ∧
  (r.2 = true → a.size ≤ 65536 ∧ ∃ (w l v : List Int) (j : J), bytesOf a = w ++ (l ++ v) ∧ Ws w ∧ Ws v ∧ V l j ∧ Miss j keys) := by
 unfold laws_jpMisses.f
 have hfl := hf.1
 obtain ⟨r, hr, hok⟩ := jpPlaces_fix a
 rw [hr k (by omega)]
 simp only [Option.bind_some]
 by_cases ok : r.2.2.2.2.2 = true
 rotate_left
 ·rw [if_neg ok]
  obtain ⟨k, rfl⟩ : ∃ m, k = m + 1 := ⟨k - 1, by omega⟩
  simp only [laws_jpMisses.j0]
  rw [if_true]
  exact ⟨_, rfl, fun h => (by cases h)⟩
 obtain ⟨hn, p, w, l, v, j, ha, hw, hv, hV, he, hR⟩ := hok ok
 have hS : ∀ m, Short m j := fun m => V.short (by have := bytesOf_length a; rw [ha] at this; simp at this; omega) m hV
 rw [he]
 simp only [if_true]
 obtain ⟨b, hb, hbO⟩ := once_l0 a hn keys hf keys 0 k p j rfl (by omega) hR (hS _) (by omega)
 have hb : spec_Once.f k a p.f0 p.f1 p.f2 p.f3 p.f4 keys = some b := hb
 rw [hb]
 simp only [Option.bind_some]
 obtain ⟨k, rfl⟩ : ∃ m, k = m + 1 := ⟨k - 1, by omega⟩
 simp only [laws_jpMisses.j0]
 cases b with
 | false => exact ⟨_, rfl, fun h => (by cases h)⟩
 | true =>
 rw [if_neg (by decide)]
 obtain ⟨c, hc, hcR⟩ := reach_l0 a hn keys keys hf rfl keys 0 k p j rfl (by omega) hR (hS _) (by omega)
 have hc : spec_Reach.f k a p.f0 p.f1 p.f2 p.f3 p.f4 keys = some (c.f0, c.f1, c.f2, c.f3, c.f4, ((0 + (reachJ j keys).2 : Nat) : Int)) := hc
 rw [hc, Nat.zero_add]
 simp only [Option.bind_some]
 have hle := reachJ_le keys j
 by_cases hall : (((reachJ j keys).2 : Nat) : Int) = (keys.length : Int)
 ·rw [if_pos hall]
  exact ⟨_, rfl, fun h => (by cases h)⟩
 rw [if_neg hall, if_pos (by omega), if_pos (by omega), toNat_cast]
 obtain ⟨r2, hr2, hfound⟩ := found_f a (keys.take (reachJ j keys).2) (hf.take _) k (by omega) r hr p j hn he hR hS
 rw [hr2]
 simp only [Option.bind_some]
 by_cases ok2 : r2.2.2.2.2.2 = true
 rotate_left
 ·rw [if_neg ok2]
  exact ⟨_, rfl, fun h => (by cases h)⟩
 rw [if_pos ok2, w64_1 (by omega), if_pos (by omega), if_pos (by omega), toNat_cast]
 obtain ⟨r3, hr3, hlast⟩ := rest_l0 keys (reachJ j keys).2 (by omega) hf (keys.drop ((reachJ j keys).2 + 1)) (by rw [List.length_drop]; omega) c.f0 c.f1 c.f2 c.f3 c.f4 _ 0 k rfl (by omega) (by simp only [List.drop_zero, List.length_drop]; omega)
 refine ⟨r3, hr3, fun ok3 => ⟨hn, w, l, v, j, ha, hw, hv, hV, ?_⟩⟩
 obtain ⟨key, hkey, hcase⟩ := hlast ok3
 refine miss_of keys j key hf.2 hS (hbO rfl) (hfound ok2) hkey ?_
 rcases hcase with h | ⟨h5, h1, h2⟩
 ·exact .inl h
 ·refine .inr ⟨?_, h1, h2⟩
  generalize (reachJ j keys).1 = q at hcR ⊢
  cases hcR with
  | leaf _ _ hj hn5 _ => exact absurd h5 hn5
  | obj _ ms h6 _ => exact absurd (h5.symm.trans h6) (by decide)
  | arr _ ks _ _ => exact ⟨ks, rfl⟩
end Go.Proofs.YthgpfljhmhkaiacGreatDoor.PFnJrTypedMisses
