/- Part of the proof of the card in text ZF. -/
import Derived.Test.YtdacgdjjdifneaaGreatDoorV0
import Derived.Test.YtdacgdjjdifneaaGreatDoorV1
import Derived.Test.YtdacgdjjdifneaaGreatDoorV2
import Derived.Test.YtdacgdjjdifneaaGreatDoorV3
set_option linter.all false
namespace Go.Proofs.YtdacgdjjdifneaaGreatDoor.PFnGjFlattenOften
open Go.RowKit Go.Proofs.YtdacgdjjdifneaaGreatDoorW.PrintWords Go.Proofs.YtdacgdjjdifneaaGreatDoorW.PrintLast Go.Proofs.YtdacgdjjdifneaaGreatDoorW.PrintMore
def Blk (c : Int) : Prop := c = 32 ∨ c = 9 ∨ c = 10 ∨ c = 13
instance (c : Int) : Decidable (Blk c) := by unfold Blk; infer_instance
def Ws (l : List Int) : Prop := ∀ c ∈ l, Blk c
def HexD (c : Int) : Prop := (48 ≤ c ∧ c ≤ 57) ∨ (97 ≤ c ∧ c ≤ 102) ∨ (65 ≤ c ∧ c ≤ 70)
instance (c : Int) : Decidable (HexD c) := by unfold HexD; infer_instance
def hexV (c : Int) : Int := if c ≤ 57 then c - 48 else if c ≤ 70 then c - 55 else c - 87
theorem hexV_range {c : Int} (h : HexD c) : 0 ≤ hexV c ∧ hexV c ≤ 15 := by
 unfold hexV
 rcases h with h | h | h
 ·rw [if_pos (by omega)]; omega
 ·rw [if_neg (by omega), if_neg (by omega)]; omega
 ·rw [if_neg (by omega), if_pos (by omega)]; omega
def hex4 (a b c d : Int) : Int := hexV a * 4096 + hexV b * 256 + hexV c * 16 + hexV d
theorem hex4_range {a b c d : Int} (ha : HexD a) (hb : HexD b) (hc : HexD c) (hd : HexD d) : 0 ≤ hex4 a b c d ∧ hex4 a b c d ≤ 65535 := by
 have := hexV_range ha; have := hexV_range hb; have := hexV_range hc; have := hexV_range hd; unfold hex4; omega
def Esc1 (e : Int) : Prop := e = 34 ∨ e = 92 ∨ e = 47 ∨ e = 98 ∨ e = 102 ∨ e = 110 ∨ e = 114 ∨ e = 116
instance (c : Int) : Decidable (Esc1 c) := by unfold Esc1; infer_instance
inductive SB : List Int → Prop
 | nil : SB []
 | chr (c : Int) (s : List Int) : 32 ≤ c → c ≤ 255 → c ≠ 34 → c ≠ 92 → SB s → SB (c :: s)
 | esc (e : Int) (s : List Int) : Esc1 e → SB s → SB (92 :: e :: s)
 | uni (a b c d : Int) (s : List Int) : HexD a → HexD b → HexD c → HexD d → SB s → SB (92 :: 117 :: a :: b :: c :: d :: s)
def shortB (e : Int) : Int := if e = 98 then 8 else if e = 102 then 12 else if e = 110 then 10 else if e = 114 then 13 else if e = 116 then 9 else e
def HighS (r : Int) : Prop := 55296 ≤ r ∧ r ≤ 56319
def LowS (r : Int) : Prop := 56320 ≤ r ∧ r ≤ 57343
instance (c : Int) : Decidable (HighS c) := by unfold HighS; infer_instance
instance (c : Int) : Decidable (LowS c) := by unfold LowS; infer_instance
def utf8 (r : Int) : List Int :=
 if r < 128 then [r] else if r < 2048 then [192 + r / 64, 128 + r % 64]
 else if HighS r ∨ LowS r then [239, 191, 189]
 else if r < 65536 then [224 + r / 4096, 128 + r / 64 % 64, 128 + r % 64]
 else [240 + r / 262144, 128 + r / 4096 % 64, 128 + r / 64 % 64, 128 + r % 64]
def pairR (h l : Int) : Int := 65536 + (h - 55296) * 1024 + (l - 56320)
def LowNext (s : List Int) : Prop := ∃ a b c d r, s = 92 :: 117 :: a :: b :: c :: d :: r ∧ HexD a ∧ HexD b ∧ HexD c ∧ HexD d ∧ LowS (hex4 a b c d)
inductive Un : List Int → List Int → Prop
 | nil : Un [] []
 | chr (c : Int) (s u : List Int) : 32 ≤ c → c ≤ 255 → c ≠ 34 → c ≠ 92 → Un s u → Un (c :: s) (c :: u)
 | esc (e : Int) (s u : List Int) : Esc1 e → Un s u → Un (92 :: e :: s) (shortB e :: u)
 | uni (a b c d : Int) (s u : List Int) : HexD a → HexD b → HexD c → HexD d → ¬ (HighS (hex4 a b c d) ∧ LowNext s) → Un s u → Un (92 :: 117 :: a :: b :: c :: d :: s) (utf8 (hex4 a b c d) ++ u)
 | pair (a b c d a' b' c' d' : Int) (s u : List Int) : HexD a → HexD b → HexD c → HexD d → HexD a' → HexD b' → HexD c' → HexD d' → HighS (hex4 a b c d) → LowS (hex4 a' b' c' d') → Un s u →
   Un (92 :: 117 :: a :: b :: c :: d :: 92 :: 117 :: a' :: b' :: c' :: d' :: s) (utf8 (pairR (hex4 a b c d) (hex4 a' b' c' d')) ++ u)
theorem Un.SB {s u : List Int} (h : Un s u) : SB s := by
 induction h with
 | nil => exact .nil
 | chr c s u h1 h2 h3 h4 _ ih => exact .chr c s h1 h2 h3 h4 ih
 | esc e s u h _ ih => exact .esc e s h ih
 | uni a b c d s u ha hb hc hd _ _ ih => exact .uni a b c d s ha hb hc hd ih
 | pair a b c d a' b' c' d' s u ha hb hc hd ha' hb' hc' hd' _ _ _ ih => exact .uni a b c d _ ha hb hc hd (.uni a' b' c' d' s ha' hb' hc' hd' ih)
theorem SB.un : ∀ (m : Nat) {s : List Int}, s.length ≤ m → SB s → ∃ u, Un s u
 | 0, s, hm, h => by
  have : s = [] := List.length_eq_zero_iff.mp (by omega); subst this; exact ⟨[], .nil⟩
 | m + 1, s, hm, h => by
  cases h with
  | nil => exact ⟨[], .nil⟩
  | chr c s h1 h2 h3 h4 hs =>
   obtain ⟨u, hu⟩ := SB.un m (by simp at hm; omega) hs; exact ⟨_, .chr c s u h1 h2 h3 h4 hu⟩
  | esc e s he hs =>
   obtain ⟨u, hu⟩ := SB.un m (by simp at hm; omega) hs; exact ⟨_, .esc e s u he hu⟩
  | uni a b c d s ha hb hc hd hs =>
   by_cases hp : HighS (hex4 a b c d) ∧ LowNext s
   ·obtain ⟨hh, a', b', c', d', r, rfl, ha', hb', hc', hd', hl⟩ := hp; have hr : PFnGjFlattenOften.SB r := by
     cases hs with
     | chr c s h1 h2 h3 h4 hs => exact absurd rfl h4
     | esc e s he hs => exact absurd he (by unfold Esc1; decide)
     | uni a b c d s _ _ _ _ hs => exact hs
    obtain ⟨u, hu⟩ := SB.un m (by simp at hm; omega) hr; exact ⟨_, .pair a b c d a' b' c' d' r u ha hb hc hd ha' hb' hc' hd' hh hl hu⟩
   ·obtain ⟨u, hu⟩ := SB.un m (by simp at hm; omega) hs; exact ⟨_, .uni a b c d s u ha hb hc hd hp hu⟩
inductive J
 | atom : J
 | str : J
 | arr : List J → J
 | obj : List (List Int × J) → J
def NumC (c : Int) : Prop := (48 ≤ c ∧ c ≤ 57) ∨ c = 45 ∨ c = 43 ∨ c = 46 ∨ c = 101 ∨ c = 69
def Dgs (l : List Int) : Prop := ∀ c ∈ l, 48 ≤ c ∧ c ≤ 57
def ExpB (w : List Int) : Prop := ∃ sg qs, w = sg ++ qs ∧ (sg = [] ∨ sg = [43] ∨ sg = [45]) ∧ qs ≠ [] ∧ Dgs qs
def ExW (w : List Int) : Prop := w = [] ∨ ∃ c v, w = c :: v ∧ (c = 101 ∨ c = 69) ∧ ExpB v
def FrW (fr : List Int) : Prop := fr = [] ∨ ∃ fd, fd ≠ [] ∧ Dgs fd ∧ fr = 46 :: fd
structure NumD (l sgn ip fr ex : List Int) : Prop where
 eq : l = sgn ++ (ip ++ (fr ++ ex))
 sg : sgn = [] ∨ sgn = [45]
 ip : ip = [48] ∨ ∃ c r, ip = c :: r ∧ 49 ≤ c ∧ Dgs ip
 fr : FrW fr
 ex : ExW ex
theorem NumD.ipd {l sgn ip fr ex : List Int} (h : NumD l sgn ip fr ex) : Dgs ip := by
 rcases h.ip with rfl | ⟨c, r, _, _, h⟩
 ·intro c hc; simp at hc; omega
 ·exact h
def Num (l : List Int) : Prop := ∃ sgn ip fr ex, NumD l sgn ip fr ex
theorem exw_num {w : List Int} (h : ExW w) : ∀ c ∈ w, NumC c := by
 rcases h with rfl | ⟨c, v, rfl, hc, sg, qs, rfl, hs, _, hq⟩
 ·intro c hc; cases hc
 ·intro d hd; unfold NumC
  rcases List.mem_cons.mp hd with rfl | hd
  ·omega
  ·rcases List.mem_append.mp hd with hd | hd
   ·rcases hs with rfl | rfl | rfl
    ·cases hd
    ·simp at hd; omega
    ·simp at hd; omega
   ·have := hq d hd; omega
theorem Num.c {l : List Int} (h : Num l) : (∀ c ∈ l, NumC c) ∧ ∃ c r, l = c :: r ∧ (c = 45 ∨ (48 ≤ c ∧ c ≤ 57)) := by
 obtain ⟨sgn, ip, fr, ex, h⟩ := h; have hd := h.ipd; obtain ⟨rfl, hs, hi, hf, hx⟩ := h; refine ⟨fun c hc => ?_, ?_⟩
 ·simp only [List.mem_append] at hc
  rcases hc with hc | hc | hc | hc
  ·rcases hs with rfl | rfl
   ·cases hc
   ·simp at hc; unfold NumC; omega
  ·have := hd c hc; unfold NumC; omega
  ·rcases hf with rfl | ⟨fd, _, hd, rfl⟩
   ·cases hc
   ·unfold NumC
    rcases List.mem_cons.mp hc with rfl | hc
    ·omega
    ·have := hd c hc; omega
  ·exact exw_num hx c hc
 ·rcases hs with rfl | rfl
  ·rcases hi with rfl | ⟨c, r, rfl, h1, h2⟩
   ·exact ⟨_, _, rfl, by omega⟩
   ·exact ⟨_, _, rfl, by have := hd c List.mem_cons_self; omega⟩
  ·exact ⟨_, _, rfl, .inl rfl⟩
def AtomOk (l : List Int) : Prop := l = [110, 117, 108, 108] ∨ l = [102, 97, 108, 115, 101] ∨ l = [116, 114, 117, 101] ∨ Num l
mutual
inductive V : List Int → J → Prop
 | atom (l : List Int) : AtomOk l → V l .atom
 | str (s : List Int) : SB s → V (34 :: (s ++ [34])) .str
 | arr0 (w : List Int) : Ws w → V (91 :: (w ++ [93])) (.arr [])
 | arr (w l : List Int) (ks : List J) : Ws w → Els l ks → V (91 :: (w ++ l)) (.arr ks)
 | obj0 (w : List Int) : Ws w → V (123 :: (w ++ [125])) (.obj [])
 | obj (w l : List Int) (ms : List (List Int × J)) : Ws w → Mbs l ms → V (123 :: (w ++ l)) (.obj ms)
inductive Els : List Int → List J → Prop
 | last (l : List Int) (j : J) (w : List Int) : V l j → Ws w → Els (l ++ (w ++ [93])) [j]
 | more (l : List Int) (j : J) (w1 w2 r : List Int) (ks : List J) : V l j → Ws w1 → Ws w2 → Els r ks → Els (l ++ (w1 ++ 44 :: (w2 ++ r))) (j :: ks)
inductive Mbs : List Int → List (List Int × J) → Prop
 | last (s u w1 w2 l : List Int) (j : J) (w3 : List Int) : Un s u → Ws w1 → Ws w2 → V l j → Ws w3 → Mbs (34 :: (s ++ 34 :: (w1 ++ 58 :: (w2 ++ (l ++ (w3 ++ [125])))))) [(u, j)]
 | more (s u w1 w2 l : List Int) (j : J) (w3 w4 r : List Int) (ms : List (List Int × J)) : Un s u → Ws w1 → Ws w2 → V l j → Ws w3 → Ws w4 → Mbs r ms →
   Mbs (34 :: (s ++ 34 :: (w1 ++ 58 :: (w2 ++ (l ++ (w3 ++ 44 :: (w4 ++ r))))))) ((u, j) :: ms)
end
theorem w64n {n : Nat} (h : n < 2 ^ 40) : wrap64 (n : Int) = n := Go.IntWalk.wrap64_in _ (by omega)
theorem w64s {n m : Nat} (h : n + m < 2 ^ 40) : wrap64 ((n : Int) + (m : Int)) = ((n + m : Nat) : Int) := by rw [← Int.natCast_add]; exact w64n h
theorem w64_1 {n : Nat} (h : n < 2 ^ 39) : wrap64 ((n : Int) + 1) = ((n + 1 : Nat) : Int) := w64s (m := 1) (by omega)
theorem drop_lt {α : Type} {l : List α} {i : Nat} {c : α} {r : List α} (h : l.drop i = c :: r) : i < l.length := by
 rcases Nat.lt_or_ge i l.length with h1 | h1
 ·exact h1
 ·rw [List.drop_eq_nil_of_le h1] at h; cases h
theorem drop_next {α : Type} {l : List α} {i : Nat} {c : α} {r : List α} (h : l.drop i = c :: r) : l.drop (i + 1) = r := by
 rw [← List.drop_drop, h]; rfl
theorem drop_app {α : Type} {l : List α} {i : Nat} {w r : List α} (h : l.drop i = w ++ r) : l.drop (i + w.length) = r := by
 rw [← List.drop_drop, h]; simp
theorem drop_len {α : Type} {l : List α} {i : Nat} {s : List α} (h : l.drop i = s) (hi : i ≤ l.length) : i + s.length = l.length := by
 subst h; rw [List.length_drop]; omega
theorem rd_drop {l : List Int} {i : Nat} {c : Int} {r : List Int} (h : l.drop i = c :: r) : rd l (i : Int) = c := by
 have hl := drop_lt h; rw [List.drop_eq_getElem_cons hl] at h; injection h with h1 h2
 simp [rd, List.getD_eq_getElem?_getD, List.getElem?_eq_getElem hl, h1]
theorem bt_drop {a : ByteArray} {i : Nat} {c : Int} {r : List Int} (h : (bytesOf a).drop i = c :: r) : bt a (i : Int) = c := by
 rw [← rd_bytesOf]; exact rd_drop h
theorem sz_lt {a : ByteArray} {i : Nat} {c : Int} {r : List Int} (h : (bytesOf a).drop i = c :: r) : i < a.size := by
 have := drop_lt h; rwa [bytesOf_length] at this
theorem sz_ge {a : ByteArray} {i : Nat} (h : (bytesOf a).drop i = []) : a.size ≤ i := by
 rw [← bytesOf_length]; exact List.drop_eq_nil_iff.mp h
theorem sz_len {a : ByteArray} {i : Nat} {s : List Int} (h : (bytesOf a).drop i = s) (hi : i ≤ a.size) : i + s.length = a.size := by
 have := drop_len h (by rw [bytesOf_length]; exact hi)
 rwa [bytesOf_length] at this
theorem byte_range {a : ByteArray} {c : Int} (h : c ∈ bytesOf a) : 0 ≤ c ∧ c ≤ 255 := by
 unfold bytesOf at h; obtain ⟨b, _, rfl⟩ := List.mem_map.mp h; have := b.toNat_lt; omega
theorem byte_drop {a : ByteArray} {i : Nat} {c : Int} {r : List Int} (h : (bytesOf a).drop i = c :: r) : 0 ≤ c ∧ c ≤ 255 :=
 byte_range (List.mem_of_mem_drop (i := i) (by rw [h]; exact List.mem_cons_self))
theorem bytesOf_extract (a : ByteArray) (i j : Nat) : bytesOf (a.extract i j) = ((bytesOf a).take j).drop i := by
 unfold bytesOf; rw [ByteArray.data_extract, Array.toList_extract, List.extract_eq_take_drop, List.map_take, List.map_drop, List.drop_take]
theorem bytesOf_inj {a b : ByteArray} (h : bytesOf a = bytesOf b) : a = b := by
 unfold bytesOf at h; have h1 : a.data.toList = b.data.toList := by
  refine List.map_inj_right (f := fun b : UInt8 => (b.toNat : Int)) (fun x y hxy => ?_) |>.mp h; exact UInt8.toNat_inj.mp (by omega)
 exact ByteArray.ext (Array.toList_inj.mp h1)
theorem blank_f (c : Int) : spec_Blank.f c = some (decide (Blk c)) := by
 unfold spec_Blank.f Blk
 by_cases h1 : c = 32
 ·simp [h1]
 by_cases h2 : c = 9
 ·simp [h2]
 by_cases h3 : c = 10
 ·simp [h3]
 by_cases h4 : c = 13
 ·simp [h4]
 ·simp [h1, h2, h3, h4]
def NoBlk (r : List Int) : Prop := ∀ c r', r = c :: r' → ¬ Blk c
theorem blanks_l0 (a : ByteArray) (hn : a.size ≤ 65536) : ∀ (s : List Int) (i k : Nat), (bytesOf a).drop i = s → s.length < k →
  ∃ w r, s = w ++ r ∧ Ws w ∧ NoBlk r ∧ spec_reader_blanks.l0 k a (i : Int) = some (a, ((i + w.length : Nat) : Int)) := by
 intro s
 induction s with
 | nil =>
  intro i k h hk; obtain ⟨k, rfl⟩ : ∃ m, k = m + 1 := ⟨k - 1, by simp at hk; omega⟩
  have := sz_ge h; refine ⟨[], [], rfl, (by intro c hc; cases hc), (by intro c r' hr; cases hr), ?_⟩; simp only [spec_reader_blanks.l0]; rw [if_neg (by omega)]; rfl
 | cons c r ih =>
  intro i k h hk; obtain ⟨k, rfl⟩ : ∃ m, k = m + 1 := ⟨k - 1, by simp at hk; omega⟩
  have hlt := sz_lt h; simp only [spec_reader_blanks.l0]; rw [if_pos (by omega), if_pos (by omega), bt_drop h, blank_f]; simp only [Option.bind_some]
  by_cases hb : Blk c
  ·obtain ⟨w, r', e, hw, hr, he⟩ := ih (i + 1) k (drop_next h) (by simp at hk; omega); refine ⟨c :: w, r', by rw [e]; rfl, ?_, hr, ?_⟩
   ·intro x hx
    rcases List.mem_cons.mp hx with rfl | hx
    ·exact hb
    ·exact hw x hx
   ·rw [if_pos (by simpa using hb), w64_1 (by omega), he, List.length_cons, Nat.add_assoc, Nat.add_comm 1]
  ·refine ⟨[], c :: r, rfl, (by intro c hc; cases hc), ?_, ?_⟩
   ·intro c' r' e; injection e with e1 e2
    rw [← e1]; exact hb
   ·rw [if_neg (by simpa using hb)]; rfl
theorem blanks_f (a : ByteArray) (hn : a.size ≤ 65536) {s : List Int} {i k : Nat} (h : (bytesOf a).drop i = s) (hk : s.length < k) :
  ∃ w r, s = w ++ r ∧ Ws w ∧ NoBlk r ∧ spec_reader_blanks.f k a (i : Int) = some (a, ((i + w.length : Nat) : Int)) := blanks_l0 a hn s i k h hk
theorem here_nil {a : ByteArray} {i : Nat} (h : (bytesOf a).drop i = []) : spec_reader_here.f a (i : Int) = some (0, a, (i : Int)) := by
 have := sz_ge h; unfold spec_reader_here.f; rw [if_neg (by omega)]
theorem here_cons {a : ByteArray} {i : Nat} {c : Int} {r : List Int} (h : (bytesOf a).drop i = c :: r) : spec_reader_here.f a (i : Int) = some (c, a, (i : Int)) := by
 have := sz_lt h; unfold spec_reader_here.f; rw [if_pos (by omega), if_pos (by omega), bt_drop h]
theorem hexDigit_f (k : Nat) (hk : 2 ≤ k) (c : Int) (h0 : 0 ≤ c) (h1 : c ≤ 255) : ∃ v, spec_hexDigit.f k c = some (v, decide (HexD c)) ∧ (HexD c → v = hexV c) := by
 obtain ⟨k, rfl⟩ : ∃ m, k = m + 2 := ⟨k - 2, by omega⟩
 unfold spec_hexDigit.f
 by_cases a1 : 48 ≤ c ∧ c ≤ 57
 ·refine ⟨c - 48, ?_, fun _ => by unfold hexV; rw [if_pos (by omega)]⟩; rw [if_pos a1.1]; simp only [spec_hexDigit.j0]; rw [if_pos (by simpa using a1.2)]; rw [show (c - 48) % 256 = c - 48 by omega, show decide (HexD c) = true from decide_eq_true (.inl a1)]
 ·by_cases a2 : 97 ≤ c ∧ c ≤ 102
  ·refine ⟨c - 87, ?_, fun _ => by unfold hexV; rw [if_neg (by omega), if_neg (by omega)]⟩; rw [if_pos (by omega)]; simp only [spec_hexDigit.j0]; rw [if_neg (by simp; omega), if_pos a2.1]; simp only [spec_hexDigit.j1]; rw [if_pos (by simpa using a2.2), show (c - 97) % 256 + 10 = c - 87 by omega, show decide (HexD c) = true from decide_eq_true (.inr (.inl a2))]
  ·by_cases a3 : 65 ≤ c ∧ c ≤ 70
   ·refine ⟨c - 55, ?_, fun _ => by unfold hexV; rw [if_neg (by omega), if_pos (by omega)]⟩; rw [if_pos (by omega)]; simp only [spec_hexDigit.j0]; rw [if_neg (by simp; omega), if_neg (by omega)]; simp only [spec_hexDigit.j1]; rw [if_neg (by simp), if_pos a3.1, if_pos a3.2, show (c - 65) % 256 + 10 = c - 55 by omega, show decide (HexD c) = true from decide_eq_true (.inr (.inr a3))]
   ·have hn : ¬ HexD c := by unfold HexD; omega
    refine ⟨0, ?_, fun h => absurd h hn⟩; rw [show decide (HexD c) = false from decide_eq_false hn]
    by_cases b1 : 48 ≤ c
    ·rw [if_pos b1]; simp only [spec_hexDigit.j0]; rw [if_neg (by simp; omega)]
     by_cases b2 : 97 ≤ c
     ·rw [if_pos b2]; simp only [spec_hexDigit.j1]; rw [if_neg (by simp; omega), if_pos (by omega), if_neg (by omega)]
     ·rw [if_neg b2]; simp only [spec_hexDigit.j1]; rw [if_neg (by simp)]
      by_cases b3 : 65 ≤ c
      ·rw [if_pos b3, if_neg (by omega)]
      ·rw [if_neg b3]
    ·rw [if_neg b1]; simp only [spec_hexDigit.j0]; rw [if_neg (by simp), if_neg (by omega)]; simp only [spec_hexDigit.j1]; rw [if_neg (by simp), if_neg (by omega)]
def Stp (a : ByteArray) (i : Nat) (g : Option (Bool × ByteArray × Int)) (P : Bool → List Int → Prop) : Prop :=
 ∃ b w r, (bytesOf a).drop i = w ++ r ∧ g = some (b, a, ((i + w.length : Nat) : Int)) ∧ P b w
theorem take_f (a : ByteArray) (hn : a.size ≤ 65536) (i : Nat) (c : Int) : Stp a i (spec_reader_take.f a (i : Int) c) fun b w => (b = true ∧ w = [c]) ∨ (b = false ∧ w = [] ∧ ∀ r, (bytesOf a).drop i ≠ c :: r) := by
 cases h : (bytesOf a).drop i with
 | nil =>
  have := sz_ge h; refine ⟨false, [], [], h, ?_, .inr ⟨rfl, rfl, fun r e => (by cases e)⟩⟩; unfold spec_reader_take.f; rw [if_neg (by omega)]; rfl
 | cons d r =>
  have := sz_lt h; unfold spec_reader_take.f Stp; rw [if_pos (by omega), if_pos (by omega), bt_drop h]
  by_cases e : d = c
  ·subst e; refine ⟨true, [d], r, h, ?_, .inl ⟨rfl, rfl⟩⟩; rw [if_pos rfl, w64_1 (by omega)]; rfl
  ·refine ⟨false, [], d :: r, h, ?_, .inr ⟨rfl, rfl, fun r' e' => by injection e' with e1 _; exact e e1⟩⟩; rw [if_neg e]; rfl
theorem digits_l0 (a : ByteArray) (hn : a.size ≤ 65536) (st : Int) : ∀ (s : List Int) (i k : Nat) (c : Int), (bytesOf a).drop i = s → s.length < k → (∀ d r, s = d :: r → c = d) → (s = [] → c = 0) →
  ∃ w r, s = w ++ r ∧ (∀ c ∈ w, 48 ≤ c ∧ c ≤ 57) ∧ spec_reader_digits.l0 k st c a (i : Int) = some (decide (((i + w.length : Nat) : Int) > st), a, ((i + w.length : Nat) : Int)) := by
 intro s
 induction s with
 | nil =>
  intro i k c h hk _ hc; obtain ⟨k, rfl⟩ : ∃ m, k = m + 1 := ⟨k - 1, by simp at hk; omega⟩
  rw [hc rfl]; refine ⟨[], [], rfl, (by intro c hc; cases hc), ?_⟩; simp only [spec_reader_digits.l0]; rw [if_neg (by omega)]; rfl
 | cons d r ih =>
  intro i k c h hk hc _; obtain ⟨k, rfl⟩ : ∃ m, k = m + 1 := ⟨k - 1, by simp at hk; omega⟩
  rw [hc d r rfl]; have hlt := sz_lt h; simp only [spec_reader_digits.l0]
  by_cases h1 : 48 ≤ d
  ·by_cases h2 : d ≤ 57
   ·rw [if_pos h1, if_pos h2, w64_1 (by omega)]; have hd := drop_next h; obtain ⟨c', hc'⟩ : ∃ c', spec_reader_here.f a ((i + 1 : Nat) : Int) = some (c', a, ((i + 1 : Nat) : Int)) ∧ (∀ d r', r = d :: r' → c' = d) ∧ (r = [] → c' = 0) := by
     cases hr : r with
     | nil => rw [hr] at hd; exact ⟨0, here_nil hd, fun _ _ e => (by cases e), fun _ => rfl⟩
     | cons d' r' => rw [hr] at hd; exact ⟨d', here_cons hd, fun _ _ e => by injection e, fun e => (by cases e)⟩
    obtain ⟨hh, h3, h4⟩ := hc'; rw [hh]; simp only [Option.bind_some]; obtain ⟨w, r', e, hw, he⟩ := ih (i + 1) k c' hd (by simp at hk; omega) h3 h4; refine ⟨d :: w, r', by rw [e]; rfl, ?_, ?_⟩
    ·intro x hx
     rcases List.mem_cons.mp hx with rfl | hx
     ·exact ⟨h1, h2⟩
     ·exact hw x hx
    ·rw [he, List.length_cons, show i + 1 + w.length = i + (w.length + 1) by omega]
   ·refine ⟨[], d :: r, rfl, (by intro c hc; cases hc), ?_⟩; rw [if_pos h1, if_neg h2]; rfl
  ·refine ⟨[], d :: r, rfl, (by intro c hc; cases hc), ?_⟩; rw [if_neg h1]; rfl
theorem digits_f (a : ByteArray) (hn : a.size ≤ 65536) (i k : Nat) (hk : a.size < k) : Stp a i (spec_reader_digits.f k a (i : Int)) fun b w => (∀ c ∈ w, 48 ≤ c ∧ c ≤ 57) ∧ (b = true → w ≠ []) := by
 unfold spec_reader_digits.f; obtain ⟨c', hc'⟩ : ∃ c', spec_reader_here.f a (i : Int) = some (c', a, (i : Int)) ∧ (∀ d r', (bytesOf a).drop i = d :: r' → c' = d) ∧ ((bytesOf a).drop i = [] → c' = 0) := by
  cases hr : (bytesOf a).drop i with
  | nil => exact ⟨0, here_nil hr, fun _ _ e => (by cases e), fun _ => rfl⟩
  | cons d' r' => exact ⟨d', here_cons hr, fun _ _ e => by injection e, fun e => (by cases e)⟩
 obtain ⟨hh, h3, h4⟩ := hc'; rw [hh]; simp only [Option.bind_some]; obtain ⟨w, r, e, hw, he⟩ := digits_l0 a hn (i : Int) _ i k c' rfl (by rw [List.length_drop, bytesOf_length]; omega) h3 h4; refine ⟨_, w, r, e, he, hw, fun hb hw0 => ?_⟩; subst hw0; simp at hb
theorem Stp.bind {a : ByteArray} {i : Nat} {g : Option (Bool × ByteArray × Int)} {P : Bool → List Int → Prop} (h : Stp a i g P) {f : Bool × ByteArray × Int → Option (Bool × ByteArray × Int)} {Q : Bool → List Int → Prop}
  (k : ∀ b w, P b w → Stp a (i + w.length) (f (b, a, ((i + w.length : Nat) : Int))) fun b' w' => Q b' (w ++ w')) : Stp a i (g.bind f) Q := by
 obtain ⟨b, w, r, e, rfl, hp⟩ := h; obtain ⟨b', w', r', e', hf, hq⟩ := k b w hp; refine ⟨b', w ++ w', r', ?_, ?_, hq⟩
 ·rw [e, List.append_assoc, ← e', drop_app e]
 ·rw [Option.bind_some, hf, List.length_append, Nat.add_assoc]
theorem Stp.now {a : ByteArray} {i : Nat} {b : Bool} {Q : Bool → List Int → Prop} (h : Q b []) : Stp a i (some (b, a, (i : Int))) Q := ⟨b, [], _, rfl, rfl, h⟩
theorem Stp.imp {a : ByteArray} {i : Nat} {g : Option (Bool × ByteArray × Int)} {P Q : Bool → List Int → Prop} (h : Stp a i g P) (k : ∀ b w, P b w → Q b w) : Stp a i g Q := by
 obtain ⟨b, w, r, e, he, hp⟩ := h; exact ⟨b, w, r, e, he, k b w hp⟩
theorem Stp.here {a : ByteArray} {i : Nat} {g : Option (Bool × ByteArray × Int)} {P : Bool → List Int → Prop} (h : Stp a i g P) : Stp a i g (fun b w => P b w ∧ ∃ r, (bytesOf a).drop i = w ++ r) := by
 obtain ⟨b, w, r, e, he, hp⟩ := h; exact ⟨b, w, r, e, he, hp, r, e⟩
theorem lead_nz {w : List Int} (h : Dgs w) (h0 : w ≠ []) (h1 : ∀ r, w ≠ 48 :: r) : ∃ c r, w = c :: r ∧ 49 ≤ c ∧ Dgs w := by
 match w, h0 with
 | c :: r, _ => exact ⟨c, r, rfl, by have := h c List.mem_cons_self; have : c ≠ 48 := fun e => h1 r (by rw [e]); omega, h⟩
theorem g_j2 (a : ByteArray) (hn : a.size ≤ 65536) (i k : Nat) (hk : a.size + 1 < k) (x : Bool) : Stp a i (spec_reader_number.j2 k x a (i : Int)) fun b w => b = true → (x = false ∧ w = []) ∨ (x = true ∧ ExpB w) := by
 obtain ⟨k, rfl⟩ : ∃ m, k = m + 1 := ⟨k - 1, by omega⟩
 simp only [spec_reader_number.j2]
 cases x with
 | false => rw [if_neg (by decide)]; exact .now (fun _ => .inl ⟨rfl, rfl⟩)
 | true =>
  rw [if_pos rfl]; refine (take_f a hn i 43).bind fun b w hw => ?_; dsimp only
  cases b with
  | true =>
   rw [if_pos rfl]; refine (digits_f a hn _ k (by omega)).bind fun b' w' hw' => ?_; refine .now (fun hb => .inr ⟨rfl, w, w', by simp, ?_, hw'.2 hb, hw'.1⟩)
   rcases hw with ⟨_, h⟩ | ⟨h, _⟩
   ·exact .inr (.inl h)
   ·cases h
  | false =>
   rw [if_neg (by decide)]; have hw0 : w = [] := by
    rcases hw with ⟨h, _⟩ | ⟨_, h, _⟩
    ·cases h
    ·exact h
   subst hw0; refine (take_f a hn _ 45).bind fun b' w' hw' => ?_; refine (digits_f a hn _ k (by omega)).bind fun b'' w'' hw'' => ?_; refine .now (fun hb => .inr ⟨rfl, w', w'', by simp, ?_, hw''.2 hb, hw''.1⟩)
   rcases hw' with ⟨_, h⟩ | ⟨_, h, _⟩
   ·exact .inr (.inr h)
   ·exact .inl h
theorem g_j1 (a : ByteArray) (hn : a.size ≤ 65536) (i k : Nat) (hk : a.size + 2 < k) (x : Bool) : Stp a i (spec_reader_number.j1 k x a (i : Int)) fun b w => b = true → x = false ∧ ExW w := by
 obtain ⟨k, rfl⟩ : ∃ m, k = m + 1 := ⟨k - 1, by omega⟩
 simp only [spec_reader_number.j1]
 cases x with
 | true => rw [if_pos rfl]; exact .now (fun h => by cases h)
 | false =>
  rw [if_neg (by decide)]; refine (take_f a hn i 101).bind fun b w hw => ?_; dsimp only
  cases b with
  | true =>
   rw [if_pos rfl]; refine (g_j2 a hn _ k (by omega) true).imp fun b v h hb => ⟨rfl, ?_⟩
   rcases hw with ⟨_, rfl⟩ | ⟨h', _⟩
   ·rcases h hb with ⟨h', _⟩ | ⟨_, h'⟩
    ·cases h'
    ·exact .inr ⟨101, v, rfl, .inl rfl, h'⟩
   ·cases h'
  | false =>
   rw [if_neg (by decide)]; have hw0 : w = [] := by
    rcases hw with ⟨h, _⟩ | ⟨_, h, _⟩
    ·cases h
    ·exact h
   subst hw0; refine (take_f a hn _ 69).bind fun b' w' hw' => ?_; refine (g_j2 a hn _ k (by omega) b').imp fun b v h hb => ⟨rfl, ?_⟩
   rcases hw' with ⟨rfl, rfl⟩ | ⟨rfl, rfl, _⟩
   ·rcases h hb with ⟨h', _⟩ | ⟨_, h'⟩
    ·cases h'
    ·exact .inr ⟨69, v, rfl, .inr rfl, h'⟩
   ·rcases h hb with ⟨_, h'⟩ | ⟨h', _⟩
    ·exact .inl (by simpa using h')
    ·cases h'
theorem g_j0 (a : ByteArray) (hn : a.size ≤ 65536) (i k : Nat) (hk : a.size + 3 < k) (x : Bool) : Stp a i (spec_reader_number.j0 k x a (i : Int)) fun b w => b = true → x = false ∧ ∃ fr ex, w = fr ++ ex ∧ FrW fr ∧ ExW ex := by
 obtain ⟨k, rfl⟩ : ∃ m, k = m + 1 := ⟨k - 1, by omega⟩
 simp only [spec_reader_number.j0]
 cases x with
 | true => rw [if_pos rfl]; exact .now (fun h => by cases h)
 | false =>
  rw [if_neg (by decide)]; refine (take_f a hn i 46).bind fun b w hw => ?_; dsimp only
  cases b with
  | true =>
   rw [if_pos rfl]; refine (digits_f a hn _ k (by omega)).bind fun b' w' hw' => ?_; refine (g_j1 a hn _ k (by omega) _).imp fun b v h hb => ⟨rfl, 46 :: w', v, ?_, .inr ⟨w', ?_, hw'.1, rfl⟩, (h hb).2⟩
   ·rcases hw with ⟨_, rfl⟩ | ⟨h', _⟩
    ·simp
    ·cases h'
   ·have := (h hb).1; exact hw'.2 (by simpa using this)
  | false =>
   rw [if_neg (by decide)]; refine (g_j1 a hn _ k (by omega) _).imp fun b v h hb => ⟨rfl, [], v, ?_, .inl rfl, (h hb).2⟩
   rcases hw with ⟨h', _⟩ | ⟨_, rfl, _⟩
   ·cases h'
   ·rfl
theorem number_f (a : ByteArray) (hn : a.size ≤ 65536) (i k : Nat) (hk : a.size + 3 < k) : Stp a i (spec_reader_number.f k a (i : Int)) fun b w => b = true → Num w := by
 unfold spec_reader_number.f; refine (take_f a hn i 45).bind fun b w hw => ?_; have hw0 : w = [] ∨ w = [45] := by
  rcases hw with ⟨_, h⟩ | ⟨_, h, _⟩
  ·exact .inr h
  ·exact .inl h
 dsimp only; refine (take_f a hn _ 48).bind fun b' w' hw' => ?_; dsimp only
 cases b' with
 | true =>
  rw [if_pos rfl]; refine (g_j0 a hn _ k (by omega) _).imp fun b v h hb => ?_; obtain ⟨_, fr, ex, rfl, h1, h2⟩ := h hb
  rcases hw' with ⟨_, rfl⟩ | ⟨h', _⟩
  ·exact ⟨w, [48], fr, ex, rfl, hw0, .inl rfl, h1, h2⟩
  ·cases h'
 | false =>
  rw [if_neg (by decide)]; refine (digits_f a hn _ k (by omega)).here.bind fun b'' w'' hw'' => ?_; refine (g_j0 a hn _ k (by omega) _).imp fun b v h hb => ?_; obtain ⟨h3, fr, ex, rfl, h1, h2⟩ := h hb
  rcases hw' with ⟨h', _⟩ | ⟨_, rfl, hno⟩
  ·cases h'
  ·exact ⟨w, w'', fr, ex, by simp, hw0, .inr (lead_nz hw''.1.1 (hw''.1.2 (by simpa using h3)) (fun r e => by obtain ⟨r2, e2⟩ := hw''.2; exact hno (r ++ r2) (by rw [e] at e2; simpa using e2))), h1, h2⟩
theorem word_f (a : ByteArray) (hn : a.size ≤ 65536) (i : Nat) (hi : i ≤ a.size) (b : ByteArray) (hb : b.size ≤ 100) : Stp a i (spec_reader_word.f a (i : Int) b) fun x w => (x = true ∧ w = bytesOf b) ∨ (x = false ∧ w = []) := by
 unfold spec_reader_word.f Stp; rw [show wrap64 ((a.size : Int) - (i : Int)) = (a.size : Int) - (i : Int) from Go.IntWalk.wrap64_in _ (by omega), w64s (n := i) (m := b.size) (by omega)]
 by_cases h1 : (a.size : Int) - (i : Int) < (b.size : Int)
 ·rw [if_pos h1]; exact ⟨false, [], _, rfl, rfl, .inr ⟨rfl, rfl⟩⟩
 ·rw [if_neg h1, if_pos (by omega), if_pos (by omega), if_pos (by omega)]; simp only [Int.toNat_natCast]
  by_cases h2 : (a.extract i (i + b.size)).toList = b.toList
  ·rw [if_pos h2]; have h3 : a.extract i (i + b.size) = b := by
    rw [ByteArray.toList_eq, ByteArray.toList_eq] at h2; exact ByteArray.ext (Array.toList_inj.mp h2)
   have h4 : ((bytesOf a).drop i).take b.size = bytesOf b := by
    rw [← h3, bytesOf_extract, List.drop_take, h3]; simp
   refine ⟨true, bytesOf b, ((bytesOf a).drop i).drop b.size, ?_, ?_, .inl ⟨rfl, rfl⟩⟩
   ·rw [← h4, List.take_append_drop]
   ·rw [bytesOf_length]
  ·rw [if_neg h2]; exact ⟨false, [], _, rfl, rfl, .inr ⟨rfl, rfl⟩⟩
theorem escape_hex (a : ByteArray) (hn : a.size ≤ 65536) : ∀ (m : Nat) (i k : Nat) (x : Nat), x + m = 4 → m + 3 ≤ k →
  Stp a i (spec_reader_escape.l0 k (x : Int) a (i : Int)) fun b w => b = true → w.length = m ∧ ∀ c ∈ w, HexD c := by
 intro m
 induction m with
 | zero =>
  intro i k x hx hk; obtain ⟨k, rfl⟩ : ∃ m, k = m + 1 := ⟨k - 1, by omega⟩
  simp only [spec_reader_escape.l0]; rw [if_neg (by omega)]; exact .now fun _ => ⟨rfl, fun c hc => (by cases hc)⟩
 | succ m ih =>
  intro i k x hx hk; obtain ⟨k, rfl⟩ : ∃ m, k = m + 1 := ⟨k - 1, by omega⟩
  simp only [spec_reader_escape.l0]; rw [if_pos (by omega)]
  cases h : (bytesOf a).drop i with
  | nil =>
   rw [here_nil h]; simp only [Option.bind_some]; obtain ⟨v, hv, _⟩ := hexDigit_f k (by omega) 0 (by omega) (by omega); rw [hv]; simp only [Option.bind_some]; rw [if_neg (by simp [HexD])]; exact .now fun h => by cases h
  | cons c r =>
   have hlt := sz_lt h; rw [here_cons h]; simp only [Option.bind_some]; have hr := byte_drop h; obtain ⟨v, hv, _⟩ := hexDigit_f k (by omega) c hr.1 hr.2; rw [hv]; simp only [Option.bind_some]
   by_cases hc : HexD c
   ·rw [if_pos (by simpa using hc), w64_1 (n := i) (by omega), w64_1 (n := x) (by omega)]; obtain ⟨b, w, r', e, he, hp⟩ := ih (i + 1) k (x + 1) (by omega) (by omega); refine ⟨b, c :: w, r', ?_, ?_, fun hb => ?_⟩
    ·rw [h]; rw [drop_next h] at e; rw [e]; rfl
    ·rw [he, List.length_cons, show i + 1 + w.length = i + (w.length + 1) by omega]
    ·obtain ⟨h1, h2⟩ := hp hb; refine ⟨by rw [List.length_cons, h1], fun x hx => ?_⟩
     rcases List.mem_cons.mp hx with rfl | hx
     ·exact hc
     ·exact h2 x hx
   ·rw [if_neg (by simpa using hc)]; exact .now fun h => by cases h
def EscW (w : List Int) : Prop := (∃ e, w = [e] ∧ Esc1 e) ∨ ∃ a b c d, w = [117, a, b, c, d] ∧ HexD a ∧ HexD b ∧ HexD c ∧ HexD d
theorem escape_j0 (a : ByteArray) (hn : a.size ≤ 65536) (i k : Nat) (hk : 8 ≤ k) (e : Int) (r : List Int) (h : (bytesOf a).drop i = e :: r) (x : Bool) (hx : x = true → Esc1 e) :
  Stp a i (spec_reader_escape.j0 k e x a (i : Int)) fun b w => b = true → EscW w := by
 obtain ⟨k, rfl⟩ : ∃ m, k = m + 1 := ⟨k - 1, by omega⟩
 have hlt := sz_lt h; simp only [spec_reader_escape.j0]
 cases x with
 | true =>
  rw [if_pos rfl, w64_1 (by omega)]; exact ⟨true, [e], r, h, rfl, fun _ => .inl ⟨e, rfl, hx rfl⟩⟩
 | false =>
  rw [if_neg (by decide)]
  by_cases hu : e = 117
  ·subst hu; rw [if_pos rfl, w64_1 (by omega)]; obtain ⟨b, w, r', e', he, hp⟩ := escape_hex a hn 4 (i + 1) k 0 rfl (by omega); refine ⟨b, 117 :: w, r', ?_, ?_, fun hb => ?_⟩
   ·rw [drop_next h] at e'; rw [h, e']; rfl
   ·rw [show ((0 : Nat) : Int) = 0 from rfl] at he; rw [he, List.length_cons, show i + 1 + w.length = i + (w.length + 1) by omega]
   ·obtain ⟨h1, h2⟩ := hp hb
    match w, h1, h2 with
    | [p, q, s, t], _, h2 => exact .inr ⟨p, q, s, t, rfl, h2 p (by simp), h2 q (by simp), h2 s (by simp), h2 t (by simp)⟩
  ·rw [if_neg hu]; exact .now fun h => by cases h
theorem escape_f (a : ByteArray) (hn : a.size ≤ 65536) (i k : Nat) (hk : 8 ≤ k) : Stp a i (spec_reader_escape.f k a (i : Int)) fun b w => b = true → EscW w := by
 unfold spec_reader_escape.f
 cases h : (bytesOf a).drop i with
 | nil =>
  rw [here_nil h]; simp only [Option.bind_some]; rw [if_neg (by decide), if_neg (by decide), if_neg (by decide), if_neg (by decide), if_neg (by decide), if_neg (by decide), if_neg (by decide)]; obtain ⟨k, rfl⟩ : ∃ m, k = m + 1 := ⟨k - 1, by omega⟩
  simp only [spec_reader_escape.j0]; rw [if_neg (by decide), if_neg (by decide)]; exact .now fun h => by cases h
 | cons e r =>
  rw [here_cons h]; simp only [Option.bind_some]; have key : ∀ x : Bool, (x = true → Esc1 e) → Stp a i (spec_reader_escape.j0 k e x a (i : Int)) fun b w => b = true → EscW w := fun x hx => escape_j0 a hn i k hk e r h x hx
  by_cases h1 : e = 34
  ·rw [if_pos h1]; exact key _ (fun _ => by unfold Esc1; omega)
  rw [if_neg h1]
  by_cases h2 : e = 92
  ·rw [if_pos h2]; exact key _ (fun _ => by unfold Esc1; omega)
  rw [if_neg h2]
  by_cases h3 : e = 47
  ·rw [if_pos h3]; exact key _ (fun _ => by unfold Esc1; omega)
  rw [if_neg h3]
  by_cases h4 : e = 98
  ·rw [if_pos h4]; exact key _ (fun _ => by unfold Esc1; omega)
  rw [if_neg h4]
  by_cases h5 : e = 102
  ·rw [if_pos h5]; exact key _ (fun _ => by unfold Esc1; omega)
  rw [if_neg h5]
  by_cases h6 : e = 110
  ·rw [if_pos h6]; exact key _ (fun _ => by unfold Esc1; omega)
  rw [if_neg h6]
  by_cases h7 : e = 114
  ·rw [if_pos h7]; exact key _ (fun _ => by unfold Esc1; omega)
  rw [if_neg h7]; exact key _ (fun hx => by (have : e = 116 := by simpa using hx); unfold Esc1; omega)
theorem quoted_l0 (a : ByteArray) (hn : a.size ≤ 65536) : ∀ (m : Nat) (i k : Nat), a.size - i ≤ m → m + 10 ≤ k →
  Stp a i (spec_reader_quoted.l0 k a (i : Int)) fun b w => b = true → ∃ s, w = s ++ [34] ∧ SB s := by
 intro m
 induction m with
 | zero =>
  intro i k hm hk; obtain ⟨k, rfl⟩ : ∃ m, k = m + 1 := ⟨k - 1, by omega⟩
  simp only [spec_reader_quoted.l0]; rw [if_neg (by omega)]; exact .now fun h => by cases h
 | succ m ih =>
  intro i k hm hk; obtain ⟨k, rfl⟩ : ∃ m, k = m + 1 := ⟨k - 1, by omega⟩
  simp only [spec_reader_quoted.l0]
  cases h : (bytesOf a).drop i with
  | nil =>
   have := sz_ge h; rw [if_neg (by omega)]; exact .now fun h => by cases h
  | cons c r =>
   have hlt := sz_lt h; rw [if_pos (by omega), if_pos (by omega), bt_drop h, w64_1 (by omega)]
   by_cases h1 : c = 34
   ·rw [if_pos h1]; exact ⟨true, [34], r, by rw [h, h1]; rfl, rfl, fun _ => ⟨[], rfl, .nil⟩⟩
   rw [if_neg h1]
   by_cases h2 : c < 32
   ·rw [if_pos h2]; exact ⟨false, [c], r, h, rfl, fun h => (by cases h)⟩
   rw [if_neg h2]
   by_cases h3 : c = 92
   ·subst h3; rw [if_pos rfl]; obtain ⟨b, w, r', e, he, hp⟩ := escape_f a hn (i + 1) k (by omega); rw [he]; simp only [Option.bind_some]; rw [drop_next h] at e
    cases b with
    | false =>
     rw [if_neg (by decide)]; exact ⟨false, 92 :: w, r', by rw [h, e]; rfl, by rw [List.length_cons, show i + 1 + w.length = i + (w.length + 1) by omega], fun h => (by cases h)⟩
    | true =>
     rw [if_pos rfl]; obtain ⟨b2, w2, r2, e2, he2, hp2⟩ := ih (i + 1 + w.length) k (by omega) (by omega); refine ⟨b2, 92 :: (w ++ w2), r2, ?_, ?_, fun hb => ?_⟩
     ·rw [h, e]; have : (bytesOf a).drop (i + 1 + w.length) = r' := drop_app (by rw [drop_next h]; exact e); rw [this] at e2; rw [e2]; simp
     ·rw [he2, List.length_cons, List.length_append, show i + 1 + w.length + w2.length = i + (w.length + w2.length + 1) by omega]
     ·obtain ⟨s, rfl, hs⟩ := hp2 hb
      rcases hp rfl with ⟨e', rfl, h5⟩ | ⟨p, q, s', t, rfl, hp', hq, hs', ht⟩
      ·exact ⟨92 :: e' :: s, by simp, .esc e' s h5 hs⟩
      ·exact ⟨92 :: 117 :: p :: q :: s' :: t :: s, by simp, .uni p q s' t s hp' hq hs' ht hs⟩
   ·rw [if_neg h3]; obtain ⟨b2, w2, r2, e2, he2, hp2⟩ := ih (i + 1) k (by omega) (by omega); refine ⟨b2, c :: w2, r2, ?_, ?_, fun hb => ?_⟩
    ·rw [h]; rw [drop_next h] at e2; rw [e2]; rfl
    ·rw [he2, List.length_cons, show i + 1 + w2.length = i + (w2.length + 1) by omega]
    ·obtain ⟨s, rfl, hs⟩ := hp2 hb; exact ⟨c :: s, rfl, .chr c s (by omega) (byte_drop h).2 h1 h3 hs⟩
theorem quoted_f (a : ByteArray) (hn : a.size ≤ 65536) (i k : Nat) (hk : a.size + 10 ≤ k) (hi : i < 65536) (r : List Int) (h : (bytesOf a).drop i = 34 :: r) :
  Stp a i (spec_reader_quoted.f k a (i : Int)) fun b w => b = true → ∃ s, w = 34 :: (s ++ [34]) ∧ SB s := by
 unfold spec_reader_quoted.f; rw [w64_1 (by omega)]; obtain ⟨b2, w2, r2, e2, he2, hp2⟩ := quoted_l0 a hn a.size (i + 1) k (by omega) hk; refine ⟨b2, 34 :: w2, r2, ?_, ?_, fun hb => ?_⟩
 ·rw [h]; rw [drop_next h] at e2; rw [e2]; rfl
 ·rw [he2, List.length_cons, show i + 1 + w2.length = i + (w2.length + 1) by omega]
 ·obtain ⟨s, rfl, hs⟩ := hp2 hb; exact ⟨s, rfl, hs⟩
end Go.Proofs.YtdacgdjjdifneaaGreatDoor.PFnGjFlattenOften
