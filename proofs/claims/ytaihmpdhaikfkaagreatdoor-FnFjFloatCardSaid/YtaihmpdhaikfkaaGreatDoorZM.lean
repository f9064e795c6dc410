/- Part of the proof that laws.FnFjFloat answers true for every input (the card: text ZF). -/
import Derived.Test.YtaihmpdhaikfkaaGreatDoorZL
import Derived.Test.YtaihmpdhaikfkaaGreatDoorZB
import Derived.Test.YtaihmpdhaikfkaaGreatDoorV12
import Derived.Test.YtaihmpdhaikfkaaGreatDoorV13
import Derived.Laws.Bits64b
import Derived.Laws.BitsAllLaws
set_option linter.all false
/- The whole numbers of the reference, to the base 2^32: what they count, and that its arithmetic is right. -/
namespace Go.Proofs.YtaihmpdhaikfkaaGreatDoor.PFnFjFloat
open Go.RowKit Go.Proofs.YtaihmpdhaikfkaaGreatDoorW.PrintWords Go.Proofs.YtaihmpdhaikfkaaGreatDoorW.PrintLast Go.Proofs.YtaihmpdhaikfkaaGreatDoorW.PrintMore
def NVal : List Int → Nat
 | [] => 0
 | c :: r => c.toNat + 4294967296 * NVal r
def DigN (l : List Int) : Prop := ∀ c ∈ l, 0 ≤ c ∧ c < 4294967296
theorem DigN.tail {c : Int} {l : List Int} (h : DigN (c :: l)) : DigN l := fun x hx => h x (List.mem_cons_of_mem _ hx)
theorem DigN.head {c : Int} {l : List Int} (h : DigN (c :: l)) : 0 ≤ c ∧ c < 4294967296 := h c List.mem_cons_self
theorem DigN.cons {c : Int} {l : List Int} (h0 : 0 ≤ c ∧ c < 4294967296) (h : DigN l) : DigN (c :: l) := fun x hx => by
 rcases List.mem_cons.mp hx with rfl | hx
 ·exact h0
 ·exact h x hx
theorem DigN.nil : DigN [] := fun x hx => by cases hx
theorem NVal_lt : ∀ {l : List Int}, DigN l → NVal l < 4294967296 ^ l.length
 | [], _ => by simp [NVal]
 | c :: r, h => by
  have h1 := NVal_lt h.tail
  have h2 := h.head
  simp only [NVal, List.length_cons, Nat.pow_succ]
  generalize 4294967296 ^ r.length = q at *
  omega
theorem NVal_app : ∀ (l r : List Int), NVal (l ++ r) = NVal l + 4294967296 ^ l.length * NVal r
 | [], r => by simp [NVal]
 | c :: l, r => by
  have h := NVal_app l r
  simp only [List.cons_append, NVal, h, List.length_cons, Nat.pow_succ, Nat.mul_add, Nat.add_assoc]
  rw [Nat.mul_comm (4294967296 ^ l.length) 4294967296, Nat.mul_assoc]
/-- The greatest digit is not 0. -/
structure Nm (l : List Int) : Prop where
 dig : DigN l
 top : l ≠ [] → 4294967296 ^ (l.length - 1) ≤ NVal l
theorem Nm.nil : Nm [] := ⟨DigN.nil, fun h => absurd rfl h⟩
theorem Nm.of_lt {l : List Int} {m : Nat} (hd : DigN l) (h : l.length ≤ m + 1) (h2 : 4294967296 ^ m ≤ NVal l) : Nm l :=
 ⟨hd, fun _ => Nat.le_trans (Nat.pow_le_pow_right (by decide) (by omega)) h2⟩
theorem times_l0 (m : Nat) (hm : m < 4294967296) (l : List Int) (hl : l.length ≤ 1000000) : ∀ (s : List Int) (k i cy : Nat) (out : List Int), l.drop i = s → out.length = i → i ≤ l.length → cy < 4294967296 → DigN s → s.length < k →
  ∃ t, spec_natural_times.l0 k l (m : Int) out (cy : Int) (i : Int) = some (out ++ t) ∧ DigN t ∧ NVal t = NVal s * m + cy ∧ (t.length = s.length ∨ t.length = s.length + 1 ∧ 4294967296 ^ s.length ≤ NVal t) := by
 intro s
 induction s with
 | nil =>
  intro k i cy out hs ho hi hc hd hk
  obtain ⟨k, rfl⟩ : ∃ m, k = m + 1 := ⟨k - 1, by simp at hk; omega⟩
  have hil : l.length ≤ i := List.drop_eq_nil_iff.mp hs
  simp only [spec_natural_times.l0]
  rw [if_neg (by omega)]
  by_cases h0 : cy = 0
  ·rw [if_neg (by omega)]
   exact ⟨[], by simp, DigN.nil, by simp [NVal, h0], .inl rfl⟩
  ·rw [if_pos (by omega), if_pos (by omega)]
   refine ⟨[(cy : Int)], by rw [show (cy : Int) % 4294967296 = cy by omega], DigN.cons (by omega) DigN.nil, by simp [NVal], .inr ⟨rfl, by simp [NVal]; omega⟩⟩
 | cons c s ih =>
  intro k i cy out hs ho hi hc hd hk
  obtain ⟨k, rfl⟩ : ∃ m, k = m + 1 := ⟨k - 1, by omega⟩
  have hil := drop_lt hs
  obtain ⟨h1, h2⟩ := hd.head
  obtain ⟨d, rfl⟩ := Int.eq_ofNat_of_zero_le h1
  have hd2 : d < 4294967296 := by omega
  simp only [spec_natural_times.l0]
  rw [if_pos (by omega), if_pos (by omega), if_pos (by omega), rd_drop hs, w64_1 (by omega)]
  have hp : d * m ≤ 4294967295 * 4294967295 := Nat.mul_le_mul (by omega) (by omega)
  have e1 : IntKind.u64.wrap (d : Int) = (d : Int) := by rw [IntKind.wrap_u64]; omega
  have e2 : IntKind.u64.wrap (m : Int) = (m : Int) := by rw [IntKind.wrap_u64]; omega
  have e3 : IntKind.u64.wrap ((d : Int) * (m : Int)) = ((d * m : Nat) : Int) := by rw [← Int.natCast_mul, IntKind.wrap_u64]; omega
  have e4 : IntKind.u64.wrap ((cy : Int) + ((d * m : Nat) : Int)) = ((cy + d * m : Nat) : Int) := by rw [← Int.natCast_add, IntKind.wrap_u64]; omega
  rw [e1, e2, e3, e4]
  generalize hv : cy + d * m = v at *
  rw [show (v : Int) % 4294967296 = ((v % 4294967296 : Nat) : Int) by omega, show (v : Int) / 4294967296 = ((v / 4294967296 : Nat) : Int) by omega]
  obtain ⟨t, ht, htd, htv, htl⟩ := ih k (i + 1) (v / 4294967296) (out ++ [((v % 4294967296 : Nat) : Int)]) (drop_next hs) (by simp [ho]) (by omega) (by omega) hd.tail (by simp at hk; omega)
  refine ⟨((v % 4294967296 : Nat) : Int) :: t, by rw [ht]; simp, DigN.cons (by omega) htd, ?_, ?_⟩
  ·simp only [NVal, htv, Int.toNat_natCast, Nat.mul_add, Nat.add_mul, ← Nat.mul_assoc]
   generalize 4294967296 * NVal s * m = q
   omega
  ·rcases htl with h | ⟨h, h'⟩
   ·exact .inl (by simp [h])
   ·refine .inr ⟨by simp [h], ?_⟩
    simp only [NVal, List.length_cons, Nat.pow_succ]
    generalize 4294967296 ^ s.length = q at *
    omega
theorem times_f (k : Nat) (l : List Int) (x y : Int) (m a : Nat) (hx : x = (m : Int)) (hy : y = (a : Int)) (hm0 : 0 < m) (hm : m < 4294967296) (ha : a < 4294967296) (hl : l.length ≤ 1000000) (hn : Nm l) (hk : l.length < k) :
  ∃ t, spec_natural_times.f k l x y = some t ∧ Nm t ∧ NVal t = NVal l * m + a ∧ t.length ≤ l.length + 1 := by
 subst hx hy
 unfold spec_natural_times.f
 rw [w64_1 (by omega), if_pos (by omega), if_pos (by simp; omega), show IntKind.u64.wrap (a : Int) = (a : Int) by rw [IntKind.wrap_u64]; omega]
 obtain ⟨t, ht, htd, htv, htl⟩ := times_l0 m hm l hl l k 0 a [] (by simp) rfl (Nat.zero_le _) ha hn.dig hk
 refine ⟨t, ht, ⟨htd, fun hne => ?_⟩, htv, by omega⟩
 rcases htl with h | ⟨h, h'⟩
 ·have hl0 : l ≠ [] := by rintro rfl; exact hne (List.length_eq_zero_iff.mp h)
  have h1 := hn.top hl0
  rw [h, htv]
  have := Nat.le_mul_of_pos_right (NVal l) hm0
  omega
 ·rw [h]; exact h'
theorem ofWord_f (k : Nat) (hk : 3 ≤ k) (m : Nat) (hm : m < 18446744073709551616) : ∃ t, spec_ofWord.f k (m : Int) = some t ∧ Nm t ∧ NVal t = m ∧ t.length ≤ 2 := by
 obtain ⟨k, rfl⟩ : ∃ q, k = q + 3 := ⟨k - 3, by omega⟩
 unfold spec_ofWord.f
 rw [show (m : Int) % 4294967296 = ((m % 4294967296 : Nat) : Int) by omega, show ((m : Int) / 4294967296) % 4294967296 = ((m / 4294967296 : Nat) : Int) by omega]
 have w1 : wrap64 (((2 : Nat) : Int) - 1) = 1 := by rw [Go.IntWalk.wrap64_in _ (by decide)]; rfl
 have w2 : wrap64 (((1 : Nat) : Int) - 1) = 0 := by rw [Go.IntWalk.wrap64_in _ (by decide)]; rfl
 have hlo : m % 4294967296 < 4294967296 := Nat.mod_lt _ (by decide)
 have hdm := Nat.div_add_mod m 4294967296
 generalize m % 4294967296 = lo at *
 have hhi : m / 4294967296 < 4294967296 := by omega
 generalize m / 4294967296 = hi at *
 simp only [spec_ofWord.l0, List.length_cons, List.length_nil, Nat.zero_add, Nat.reduceAdd, w1]
 rw [if_pos (by decide), if_pos (by decide), if_pos (by decide)]
 have r1 : rd [(lo : Int), (hi : Int)] 1 = hi := rfl
 rw [r1]
 by_cases h : hi = 0
 ·rw [if_pos (by omega), if_pos (by decide)]
  have e : ([(lo : Int), (hi : Int)] : List Int).take (1 : Int).toNat = [(lo : Int)] := rfl
  rw [e]
  simp only [List.length_cons, List.length_nil, Nat.zero_add, w2]
  rw [if_pos (by decide), if_pos (by decide), if_pos (by decide)]
  have r2 : rd [(lo : Int)] 0 = lo := rfl
  rw [r2]
  by_cases h' : lo = 0
  ·rw [if_pos (by omega), if_pos (by decide)]
   have e : ([(lo : Int)] : List Int).take (0 : Int).toNat = [] := rfl
   rw [e]
   refine ⟨[], by simp, Nm.nil, by simp [NVal]; omega, by simp⟩
  ·rw [if_neg (by omega)]
   refine ⟨[(lo : Int)], rfl, ⟨DigN.cons (by omega) DigN.nil, fun _ => ?_⟩, ?_, by simp⟩
   ·simp [NVal]; omega
   ·simp [NVal]; omega
 ·rw [if_neg (by omega)]
  refine ⟨_, rfl, ⟨DigN.cons (by omega) (DigN.cons (by omega) DigN.nil), fun _ => ?_⟩, ?_, by simp⟩
  ·simp [NVal]; omega
  ·simp [NVal]; omega
/-- What bytes count as decimal digits. -/
def dg (c : Int) : Nat := ((c - 48) % 256).toNat
def dvL (v : Nat) (l : List Int) : Nat := l.foldl (fun v c => v * 10 + dg c) v
theorem ofDigits_l0 (a : ByteArray) (hn : a.size ≤ 65536) : ∀ (s : List Int) (k i : Nat) (x : List Int), (bytesOf a).drop i = s → Nm x → x.length ≤ i → a.size + 10 + s.length ≤ k →
  ∃ t, spec_ofDigits.l0 k a x (i : Int) = some t ∧ Nm t ∧ NVal t = dvL (NVal x) s ∧ t.length ≤ i + s.length := by
 intro s
 induction s with
 | nil =>
  intro k i x hs hx hl hk
  obtain ⟨k, rfl⟩ : ∃ m, k = m + 1 := ⟨k - 1, by omega⟩
  simp only [spec_ofDigits.l0]
  rw [if_neg (by have := sz_ge hs; omega)]
  exact ⟨x, rfl, hx, rfl, by simpa using hl⟩
 | cons c s ih =>
  intro k i x hs hx hl hk
  obtain ⟨k, rfl⟩ : ∃ m, k = m + 1 := ⟨k - 1, by omega⟩
  have hlt := sz_lt hs
  simp only [spec_ofDigits.l0]
  rw [if_pos (by omega), if_pos (by omega), bt_drop hs, w64_1 (by omega)]
  obtain ⟨t, ht, htn, htv, htl⟩ := times_f k x 10 ((c - 48) % 256) 10 (dg c) rfl (by unfold dg; omega) (by decide) (by decide) (by unfold dg; omega) (by omega) hx (by omega)
  rw [ht]
  simp only [Option.bind_some]
  obtain ⟨u, hu, hun, huv, hul⟩ := ih k (i + 1) t (drop_next hs) htn (by omega) (by simp at hk; omega)
  exact ⟨u, hu, hun, by rw [huv, htv]; rfl, by simp; omega⟩
theorem ofDigits_f (k : Nat) (a : ByteArray) (hn : a.size ≤ 65536) (hk : 2 * a.size + 10 ≤ k) : ∃ t, spec_ofDigits.f k a = some t ∧ Nm t ∧ NVal t = dvL 0 (bytesOf a) ∧ t.length ≤ a.size := by
 unfold spec_ofDigits.f
 obtain ⟨t, h1, h2, h3, h4⟩ := ofDigits_l0 a hn (bytesOf a) k 0 [] rfl Nm.nil (by simp) (by rw [bytesOf_length]; omega)
 exact ⟨t, h1, h2, h3, by rw [bytesOf_length] at h4; omega⟩
theorem NVal_zeros (q : Nat) : NVal (List.replicate q 0) = 0 := by
 induction q with
 | zero => rfl
 | succ q ih => simp [List.replicate_succ, NVal, ih]
theorem digN_app {l r : List Int} (h : DigN l) (h2 : DigN r) : DigN (l ++ r) := fun c hc => by
 rcases List.mem_append.mp hc with h' | h'
 ·exact h c h'
 ·exact h2 c h'
theorem pow_split (q r : Nat) : (2 : Nat) ^ (32 * q + r) = 4294967296 ^ q * 2 ^ r := by
 rw [Nat.pow_add, Nat.pow_mul]
theorem shift_f (k : Nat) (l : List Int) (x : Int) (n : Nat) (hx : x = (n : Int)) (hn : n ≤ 65536) (hl : l.length ≤ 100000) (hm : Nm l) (hk : l.length < k) :
  ∃ t, spec_natural_shift.f k l x = some t ∧ Nm t ∧ NVal t = NVal l * 2 ^ n ∧ t.length ≤ l.length + 1 + n := by
 subst hx
 unfold spec_natural_shift.f
 by_cases h0 : l = []
 ·subst h0
  rw [if_pos (by rfl)]
  exact ⟨[], rfl, Nm.nil, by simp [NVal], by simp⟩
 have hlp : 0 < l.length := List.length_pos_iff.mpr h0
 rw [if_neg (by omega), if_pos (by rw [Int.tmod_eq_emod_of_nonneg (by omega)]; omega)]
 have hr : n % 32 < 32 := Nat.mod_lt _ (by decide)
 have hp32 : 2 ^ (n % 32) < 4294967296 := (show (4294967296 : Nat) = 2 ^ 32 by decide) ▸ Nat.pow_lt_pow_right (by decide) hr
 have hsh : shl .u32 1 (Int.tmod (n : Int) 32) = ((2 ^ (n % 32) : Nat) : Int) := by
  rw [Int.tmod_eq_emod_of_nonneg (by omega), show (n : Int) % 32 = ((n % 32 : Nat) : Int) by omega]
  unfold shl
  rw [Int.toNat_natCast, show min (n % 32) IntKind.u32.bits = n % 32 by simp [IntKind.bits]; omega, Int.one_mul]
  rw [show (2 : Int) ^ (n % 32) = ((2 ^ (n % 32) : Nat) : Int) by rw [Int.natCast_pow]; rfl]
  generalize 2 ^ (n % 32) = z at *
  simp [IntKind.wrap, IntKind.bits, IntKind.signed]
  omega
 rw [hsh]
 obtain ⟨t, ht, htn, htv, htl⟩ := times_f k l _ 0 (2 ^ (n % 32)) 0 rfl rfl (Nat.two_pow_pos _) hp32 (by decide) (by omega) hm hk
 rw [ht, Option.bind_some]
 have hq : wrap64 (Int.tdiv (n : Int) 32) = ((n / 32 : Nat) : Int) := by
  rw [Int.tdiv_eq_ediv_of_nonneg (by omega), Go.IntWalk.wrap64_in _ (by omega)]; omega
 rw [hq, if_pos (by omega), Int.toNat_natCast, if_pos (by omega), Option.bind_some, List.length_replicate, if_pos (by omega)]
 have hv : NVal (List.replicate (n / 32) 0 ++ t) = 4294967296 ^ (n / 32) * NVal t := by
  rw [NVal_app, NVal_zeros, List.length_replicate, Nat.zero_add]
 refine ⟨_, rfl, ⟨digN_app (fun c hc => by rw [List.eq_of_mem_replicate hc]; omega) htn.dig, fun _ => ?_⟩, ?_, by rw [List.length_append, List.length_replicate]; omega⟩
 ·have ht0 : t ≠ [] := by
   rintro rfl
   have h1 := hm.top h0
   rw [Nat.add_zero] at htv
   have h2 : 0 < NVal l * 2 ^ (n % 32) := Nat.mul_pos (Nat.lt_of_lt_of_le (Nat.pow_pos (by decide)) h1) (Nat.two_pow_pos _)
   rw [← htv] at h2
   simp [NVal] at h2
  have h1 := htn.top ht0
  have htp : 0 < t.length := List.length_pos_iff.mpr ht0
  rw [hv, List.length_append, List.length_replicate, show n / 32 + t.length - 1 = n / 32 + (t.length - 1) by omega, Nat.pow_add]
  exact Nat.mul_le_mul_left _ h1
 ·rw [hv, htv, Nat.add_zero, Nat.mul_left_comm, ← pow_split, Nat.div_add_mod]
theorem tens_l1 : ∀ (n k : Nat) (l : List Int), n < 10 → l.length ≤ 100000 + 10 - n → Nm l → l.length + 2 * n + 2 ≤ k → ∃ t, spec_natural_tens.l1 k l (n : Int) = some t ∧ Nm t ∧ NVal t = NVal l * 10 ^ n ∧ t.length ≤ l.length + n
 | 0, k, l, _, hl, hm, hk => by
  obtain ⟨k, rfl⟩ : ∃ m, k = m + 1 := ⟨k - 1, by omega⟩
  simp only [spec_natural_tens.l1]
  rw [if_neg (by omega)]
  exact ⟨l, rfl, hm, by simp, by omega⟩
 | n + 1, k, l, hn, hl, hm, hk => by
  obtain ⟨k, rfl⟩ : ∃ m, k = m + 1 := ⟨k - 1, by omega⟩
  simp only [spec_natural_tens.l1]
  rw [if_pos (by omega)]
  obtain ⟨t, ht, htn, htv, htl⟩ := times_f k l 10 0 10 0 rfl rfl (by decide) (by decide) (by decide) (by omega) hm (by omega)
  rw [ht, Go.IntWalk.wrap64_in _ (by omega), show ((n + 1 : Nat) : Int) - 1 = (n : Int) by omega]
  simp only [Option.bind_some]
  obtain ⟨u, hu, hun, huv, hul⟩ := tens_l1 n k t (by omega) (by omega) htn (by omega)
  exact ⟨u, hu, hun, by rw [huv, htv, Nat.add_zero, Nat.pow_succ, Nat.mul_comm (10 ^ n) 10, Nat.mul_assoc], by omega⟩
theorem tens_l0 : ∀ (m n k : Nat) (l : List Int), n < m → n ≤ 65536 → l.length + n ≤ 100000 → Nm l → l.length + 2 * n + 2 + m ≤ k → ∃ t, spec_natural_tens.l0 k l (n : Int) = some t ∧ Nm t ∧ NVal t = NVal l * 10 ^ n ∧ t.length ≤ l.length + n
 | 0, n, _, _, h, _, _, _, _ => by omega
 | m + 1, n, k, l, hnm, hn, hl, hm, hk => by
  obtain ⟨k, rfl⟩ : ∃ m, k = m + 1 := ⟨k - 1, by omega⟩
  simp only [spec_natural_tens.l0]
  by_cases h9 : 9 ≤ n
  ·rw [if_pos (by omega)]
   obtain ⟨t, ht, htn, htv, htl⟩ := times_f k l 1000000000 0 1000000000 0 rfl rfl (by decide) (by decide) (by decide) (by omega) hm (by omega)
   rw [ht, Go.IntWalk.wrap64_in _ (by omega), show (n : Int) - 9 = ((n - 9 : Nat) : Int) by omega]
   simp only [Option.bind_some]
   obtain ⟨u, hu, hun, huv, hul⟩ := tens_l0 m (n - 9) k t (by omega) (by omega) (by omega) htn (by omega)
   refine ⟨u, hu, hun, ?_, by omega⟩
   rw [huv, htv, Nat.add_zero, Nat.mul_assoc, show (1000000000 : Nat) = 10 ^ 9 by decide, ← Nat.pow_add, show 9 + (n - 9) = n by omega]
  ·rw [if_neg (by omega)]
   exact tens_l1 n k l (by omega) (by omega) hm (by omega)
theorem tens_f (k : Nat) (l : List Int) (x : Int) (n : Nat) (hx : x = (n : Int)) (hn : n ≤ 65536) (hl : l.length + n ≤ 100000) (hm : Nm l) (hk : 500000 ≤ k) :
  ∃ t, spec_natural_tens.f k l x = some t ∧ Nm t ∧ NVal t = NVal l * 10 ^ n ∧ t.length ≤ l.length + n := by
 subst hx
 exact tens_l0 (n + 1) n k l (by omega) hn hl hm (by omega)
/-- A comparison's answer. -/
def CmpR (r : Int) (x y : Nat) : Prop := (x < y ∧ r = -1) ∨ (x = y ∧ r = 0) ∨ (y < x ∧ r = 1)
theorem rd_nat {l : List Int} {i : Nat} (h : i < l.length) : rd l (i : Int) = l[i] := by
 unfold rd; rw [Int.toNat_natCast, List.getD_eq_getElem?_getD, List.getElem?_eq_getElem h]; rfl
theorem NVal_take {l : List Int} (h : DigN l) {n : Nat} (hn : n < l.length) : NVal (l.take (n + 1)) = NVal (l.take n) + 4294967296 ^ n * l[n].toNat ∧ NVal (l.take n) < 4294967296 ^ n ∧ 0 ≤ l[n] ∧ l[n] < 4294967296 := by
 refine ⟨?_, ?_, h _ (List.getElem_mem hn)⟩
 ·rw [List.take_succ_eq_append_getElem hn, NVal_app, List.length_take, Nat.min_eq_left (by omega)]
  simp [NVal]
 ·have h1 := NVal_lt (l := l.take n) (fun c hc => h c (List.mem_of_mem_take hc))
  rwa [List.length_take, Nat.min_eq_left (by omega)] at h1
theorem top_lt {B x y a b : Nat} (hx : x < B) (hab : a < b) : x + B * a < y + B * b := by
 have := Nat.mul_le_mul_left B (show a + 1 ≤ b by omega)
 rw [Nat.mul_add] at this
 omega
theorem against_l0 (l r : List Int) (hd : DigN l) (hd2 : DigN r) (he : l.length = r.length) (hl : l.length ≤ 1000000) : ∀ (n k : Nat), n ≤ l.length → n < k →
  ∃ c, spec_natural_against.l0 k l r ((n : Int) - 1) = some c ∧ CmpR c (NVal (l.take n)) (NVal (r.take n))
 | 0, k, _, hk => by
  obtain ⟨k, rfl⟩ : ∃ m, k = m + 1 := ⟨k - 1, by omega⟩
  simp only [spec_natural_against.l0]
  rw [if_neg (by omega)]
  exact ⟨0, rfl, .inr (.inl ⟨rfl, rfl⟩)⟩
 | n + 1, k, hn, hk => by
  obtain ⟨k, rfl⟩ : ∃ m, k = m + 1 := ⟨k - 1, by omega⟩
  simp only [spec_natural_against.l0]
  rw [show ((n + 1 : Nat) : Int) - 1 = (n : Int) by omega, if_pos (by omega), if_pos (by omega), if_pos (by omega), if_pos (by omega), rd_nat (by omega), rd_nat (by omega), Go.IntWalk.wrap64_in _ (by omega)]
  obtain ⟨a1, a2, a3, a4⟩ := NVal_take hd (n := n) (by omega)
  obtain ⟨b1, b2, b3, b4⟩ := NVal_take hd2 (n := n) (by omega)
  obtain ⟨c, hc, hcm⟩ := against_l0 l r hd hd2 he hl n k (by omega) (by omega)
  rw [hc, a1, b1]
  generalize l[n] = x at *
  generalize r[n] = y at *
  generalize hB : 4294967296 ^ n = B at *
  by_cases h1 : x < y
  ·rw [if_pos h1]
   exact ⟨_, rfl, .inl ⟨top_lt a2 (by omega), rfl⟩⟩
  ·rw [if_neg h1]
   by_cases h2 : x > y
   ·rw [if_pos h2]
    exact ⟨_, rfl, .inr (.inr ⟨top_lt b2 (by omega), rfl⟩)⟩
   ·rw [if_neg h2]
    obtain rfl : x = y := by omega
    refine ⟨c, rfl, ?_⟩
    generalize B * x.toNat = z
    rcases hcm with ⟨h, e⟩ | ⟨h, e⟩ | ⟨h, e⟩
    ·exact .inl ⟨by omega, e⟩
    ·exact .inr (.inl ⟨by omega, e⟩)
    ·exact .inr (.inr ⟨by omega, e⟩)
theorem len_lt {l r : List Int} (h : Nm l) (h2 : Nm r) (hlt : l.length < r.length) : NVal l < NVal r := by
 have h3 := NVal_lt h.dig
 have h4 := h2.top (by rintro rfl; simp at hlt)
 have h5 : 4294967296 ^ l.length ≤ 4294967296 ^ (r.length - 1) := Nat.pow_le_pow_right (by decide) (by omega)
 omega
theorem against_f (k : Nat) (l r : List Int) (h : Nm l) (h2 : Nm r) (hl : l.length ≤ 1000000) (hk : 2000000 ≤ k) : ∃ c, spec_natural_against.f k l r = some c ∧ CmpR c (NVal l) (NVal r) := by
 unfold spec_natural_against.f
 by_cases he : l.length = r.length
 ·rw [if_pos (by omega), Go.IntWalk.wrap64_in _ (by omega)]
  obtain ⟨c, hc, hm⟩ := against_l0 l r h.dig h2.dig he hl l.length k (Nat.le_refl _) (by omega)
  rw [List.take_length, he, List.take_length] at hm
  exact ⟨c, hc, hm⟩
 ·rw [if_neg (by omega)]
  by_cases hlt : l.length < r.length
  ·rw [if_pos (by omega)]
   exact ⟨_, rfl, .inl ⟨len_lt h h2 hlt, rfl⟩⟩
  ·rw [if_neg (by omega)]
   exact ⟨_, rfl, .inr (.inr ⟨len_lt h2 h (by omega), rfl⟩)⟩
theorem wrap_neg {n : Int} (h : -65536 ≤ n ∧ n ≤ 65536) : wrap64 (-n) = -n := Go.IntWalk.wrap64_in _ (by omega)
theorem scaled_f (k : Nat) (hk : 3000000 ≤ k) (m : Nat) (hm : m < 18446744073709551616) (e : Int) (he : -2000 ≤ e ∧ e ≤ 2000) (neg : Bool) (d : ByteArray) (hd : d.size ≤ 65536) (p : Int) (hp : -2000 ≤ p ∧ p ≤ 2000) :
  ∃ c, spec_scaled.f k (m : Int) e neg d p = some c ∧ CmpR c (m * 2 ^ e.toNat * 10 ^ (-p).toNat) (dvL 0 (bytesOf d) * 2 ^ (-e).toNat * 10 ^ p.toNat) := by
 obtain ⟨k, rfl⟩ : ∃ m, k = m + 1 := ⟨k - 1, by omega⟩
 unfold spec_scaled.f
 obtain ⟨x, hx, hxn, hxv, hxl⟩ := ofWord_f (k + 1) (by omega) m hm
 obtain ⟨y, hy, hyn, hyv, hyl⟩ := ofDigits_f (k + 1) d hd (by omega)
 rw [hx, hy]
 simp only [Option.bind_some]
 have key : ∀ (x y : List Int) (X Y : Nat), Nm x → Nm y → NVal x = X → NVal y = Y → x.length ≤ 70000 → y.length ≤ 70000 →
   ∃ c, spec_scaled.j0 (k + 1) x y neg d p = some c ∧ CmpR c (X * 10 ^ (-p).toNat) (Y * 10 ^ p.toNat) := by
  rintro x y X Y h1 h2 rfl rfl h5 h6
  simp only [spec_scaled.j0]
  by_cases hp0 : p > 0
  ·rw [if_pos hp0]
   obtain ⟨t, ht, htn, htv, htl⟩ := tens_f k y p p.toNat (by omega) (by omega) (by omega) h2 (by omega)
   obtain ⟨c, hc, hcm⟩ := against_f k x t h1 htn (by omega) (by omega)
   rw [ht]
   simp only [Option.bind_some]
   rw [hc]
   exact ⟨c, rfl, by rw [show (-p).toNat = 0 by omega, Nat.pow_zero, Nat.mul_one, ← htv]; exact hcm⟩
  ·rw [if_neg hp0, wrap_neg (by omega)]
   obtain ⟨t, ht, htn, htv, htl⟩ := tens_f k x (-p) (-p).toNat (by omega) (by omega) (by omega) h1 (by omega)
   obtain ⟨c, hc, hcm⟩ := against_f k t y htn h2 (by omega) (by omega)
   rw [ht]
   simp only [Option.bind_some]
   rw [hc]
   exact ⟨c, rfl, by rw [show p.toNat = 0 by omega, Nat.pow_zero, Nat.mul_one, ← htv]; exact hcm⟩
 by_cases he0 : e > 0
 ·rw [if_pos he0]
  obtain ⟨t, ht, htn, htv, htl⟩ := shift_f (k + 1) x e e.toNat (by omega) (by omega) (by omega) hxn (by omega)
  rw [ht]
  simp only [Option.bind_some]
  obtain ⟨c, hc, hcm⟩ := key t y _ _ htn hyn htv hyv (by omega) (by omega)
  exact ⟨c, hc, by rw [show (-e).toNat = 0 by omega, Nat.pow_zero, Nat.mul_one, ← hxv]; exact hcm⟩
 ·rw [if_neg he0, wrap_neg (by omega)]
  obtain ⟨t, ht, htn, htv, htl⟩ := shift_f (k + 1) y (-e) (-e).toNat (by omega) (by omega) (by omega) hyn (by omega)
  rw [ht]
  simp only [Option.bind_some]
  obtain ⟨c, hc, hcm⟩ := key x t _ _ hxn htn hxv htv (by omega) (by omega)
  exact ⟨c, hc, by rw [show e.toNat = 0 by omega, Nat.pow_zero, Nat.mul_one, ← hyv]; exact hcm⟩
theorem bm_lt (r : Nat) : Fl.bm r < 9007199254740992 := by unfold Fl.bm; split <;> omega
theorem binary_f (r : Nat) (h : r < 9223372036854775808) : spec_binary.f (r : Int) = some ((Fl.bm r : Int), (Fl.be r : Int) - 1074) := by
 unfold spec_binary.f
 have e1 : wrap64 ((r : Int) / 4503599627370496) = ((r / 4503599627370496 : Nat) : Int) := by rw [Go.IntWalk.wrap64_in _ (by omega)]; omega
 have e2 : Go.bits .and .u64 (r : Int) 4503599627370495 = ((r % 4503599627370496 : Nat) : Int) := by
  rw [show (4503599627370495 : Int) = ((4503599627370495 : Nat) : Int) by rfl, bits_and_u64_nat r 4503599627370495 (by omega) (by decide)]
  rw [show (4503599627370495 : Nat) = 2 ^ 52 - 1 by decide, Nat.and_two_pow_sub_one_eq_mod]
 have hm : r % 4503599627370496 < 4503599627370496 := Nat.mod_lt _ (by decide)
 have hq : r / 4503599627370496 < 2048 := by omega
 have e3 : Go.bits .or .u64 ((r % 4503599627370496 : Nat) : Int) 4503599627370496 = ((r % 4503599627370496 + 4503599627370496 : Nat) : Int) := by
  rw [show (4503599627370496 : Int) = ((4503599627370496 : Nat) : Int) by rfl, bits_or_u64_nat _ _ (by omega) (by decide), Nat.or_comm, nat_join 52 4503599627370496 (r % 4503599627370496) (by decide) (by omega), Nat.add_comm]
 rw [e1, e2, e3]
 unfold Fl.bm Fl.be
 by_cases h0 : r / 4503599627370496 = 0
 ·rw [if_pos (by omega), if_pos h0, if_pos h0]
  rfl
 ·rw [if_neg (by omega), if_neg h0, if_neg h0, Go.IntWalk.wrap64_in _ (by omega)]
  congr 2
  omega
theorem be_le (r : Nat) (h : r < 9223372036854775808) : Fl.be r ≤ 2046 := by unfold Fl.be; split <;> omega
/-- The number's numerator and denominator, in the unit of the least float. -/
def kOf (d : ByteArray) (p : Int) : Nat := dvL 0 (bytesOf d) * 10 ^ p.toNat * 2 ^ 1074
def dOf (p : Int) : Nat := 10 ^ (-p).toNat
theorem dOf_pos (p : Int) : 0 < dOf p := Nat.pow_pos (by decide)
theorem CmpR.mul {r : Int} {x y : Nat} (h : CmpR r x y) {z : Nat} (hz : 0 < z) : CmpR r (x * z) (y * z) := by
 rcases h with ⟨h, e⟩ | ⟨h, e⟩ | ⟨h, e⟩
 ·exact .inl ⟨Nat.mul_lt_mul_of_pos_right h hz, e⟩
 ·exact .inr (.inl ⟨by rw [h], e⟩)
 ·exact .inr (.inr ⟨Nat.mul_lt_mul_of_pos_right h hz, e⟩)
theorem unit_mid (m b p q Y : Nat) (e : Int) (hb : (b : Int) - 1074 = e) : ∃ z, 0 < z ∧ m * 2 ^ e.toNat * p * z = m * 2 ^ b * p ∧ Y * 2 ^ (-e).toNat * q * z = Y * q * 2 ^ 1074 := by
 by_cases h : 0 ≤ e
 ·refine ⟨2 ^ 1074, Nat.two_pow_pos _, ?_, ?_⟩
  ·rw [show b = e.toNat + 1074 by omega, Nat.pow_add]
   generalize 2 ^ 1074 = z
   rw [← Nat.mul_assoc m, Nat.mul_right_comm]
  ·rw [show (-e).toNat = 0 by omega, Nat.pow_zero, Nat.mul_one]
 ·refine ⟨2 ^ b, Nat.two_pow_pos _, ?_, ?_⟩
  ·rw [show e.toNat = 0 by omega, Nat.pow_zero, Nat.mul_one, Nat.mul_right_comm]
  ·rw [show (1074 : Nat) = (-e).toNat + b by omega, Nat.pow_add, ← Nat.mul_assoc, Nat.mul_right_comm Y]
theorem scaled_mid (k : Nat) (hk : 3000000 ≤ k) (r : Nat) (hr : r < 9223372036854775808) (neg : Bool) (d : ByteArray) (hd : d.size ≤ 65536) (p : Int) (hp : -2000 ≤ p ∧ p ≤ 2000) :
  ∃ c, spec_scaled.f k (Fl.bm r : Int) ((Fl.be r : Int) - 1074) neg d p = some c ∧ CmpR c (Fl.V r * dOf p) (kOf d p) := by
 obtain ⟨c, hc, hm⟩ := scaled_f k hk (Fl.bm r) (by have := bm_lt r; omega) ((Fl.be r : Int) - 1074) (by have := be_le r hr; omega) neg d hd p hp
 obtain ⟨z, hz, h1, h2⟩ := unit_mid (Fl.bm r) (Fl.be r) (10 ^ (-p).toNat) (10 ^ p.toNat) (dvL 0 (bytesOf d)) _ rfl
 refine ⟨c, hc, ?_⟩
 have := hm.mul hz
 rw [h1, h2] at this
 exact this
theorem pow_one_more (n m : Nat) (h : m = n + 1) : (2 : Nat) ^ m = 2 ^ n * 2 := by subst h; exact Nat.pow_succ 2 n
theorem unit_half (m b p q Y : Nat) (e : Int) (hb : (b : Int) - 1075 = e) : ∃ z, 0 < z ∧ m * 2 ^ e.toNat * p * z = m * 2 ^ b * p ∧ Y * 2 ^ (-e).toNat * q * z = 2 * (Y * q * 2 ^ 1074) := by
 have e2 : 2 * (Y * q * 2 ^ 1074) = Y * q * 2 ^ 1075 := by
  rw [pow_one_more 1074 1075 rfl]
  generalize 2 ^ 1074 = z
  rw [Nat.mul_comm 2, Nat.mul_assoc]
 rw [e2]
 by_cases h : 0 ≤ e
 ·refine ⟨2 ^ 1075, Nat.two_pow_pos _, ?_, ?_⟩
  ·rw [show b = e.toNat + 1075 by omega, Nat.pow_add]
   generalize 2 ^ 1075 = z
   rw [← Nat.mul_assoc m, Nat.mul_right_comm]
  ·rw [show (-e).toNat = 0 by omega, Nat.pow_zero, Nat.mul_one]
 ·refine ⟨2 ^ b, Nat.two_pow_pos _, ?_, ?_⟩
  ·rw [show e.toNat = 0 by omega, Nat.pow_zero, Nat.mul_one, Nat.mul_right_comm]
  ·rw [show (1075 : Nat) = (-e).toNat + b by omega, Nat.pow_add, ← Nat.mul_assoc, Nat.mul_right_comm Y]
theorem scaled_half (k : Nat) (hk : 3000000 ≤ k) (r : Nat) (hr : r < 9223372036854775808) (neg : Bool) (d : ByteArray) (hd : d.size ≤ 65536) (p : Int) (hp : -2000 ≤ p ∧ p ≤ 2000) :
  ∃ c, spec_scaled.f k ((2 * Fl.bm r + 1 : Nat) : Int) ((Fl.be r : Int) - 1075) neg d p = some c ∧ CmpR c ((2 * Fl.bm r + 1) * 2 ^ Fl.be r * dOf p) (2 * kOf d p) := by
 obtain ⟨c, hc, hm⟩ := scaled_f k hk (2 * Fl.bm r + 1) (by have := bm_lt r; omega) ((Fl.be r : Int) - 1075) (by have := be_le r hr; omega) neg d hd p hp
 obtain ⟨z, hz, h1, h2⟩ := unit_half (2 * Fl.bm r + 1) (Fl.be r) (10 ^ (-p).toNat) (10 ^ p.toNat) (dvL 0 (bytesOf d)) _ rfl
 refine ⟨c, hc, ?_⟩
 have := hm.mul hz
 rw [h1, h2] at this
 exact this
theorem nearest_l0 (neg : Bool) (d : ByteArray) (hd : d.size ≤ 65536) (p : Int) (hp : -2000 ≤ p ∧ p ≤ 2000) : ∀ (g lo hi k : Nat), hi - lo ≤ g → lo < hi → hi ≤ 9218868437227405312 → 3000002 + g ≤ k →
  Fl.V lo * dOf p ≤ kOf d p → (hi = 9218868437227405312 ∨ kOf d p < Fl.V hi * dOf p) →
  ∃ r, spec_nearest.l0 k (lo : Int) (hi : Int) neg d p = some (((r + (Fl.up r (kOf d p) (dOf p)).toNat : Nat) : Int)) ∧ r < 9218868437227405312 ∧ Fl.V r * dOf p ≤ kOf d p ∧ (r + 1 = 9218868437227405312 ∨ kOf d p < Fl.V (r + 1) * dOf p) := by
 intro g
 induction g with
 | zero => intro lo hi k h1 h2; omega
 | succ g ih =>
  intro lo hi k h1 h2 h3 hk hlo hhi
  obtain ⟨k, rfl⟩ : ∃ m, k = m + 1 := ⟨k - 1, by omega⟩
  simp only [spec_nearest.l0]
  have e1 : IntKind.u64.wrap ((hi : Int) - (lo : Int)) = ((hi - lo : Nat) : Int) := by rw [IntKind.wrap_u64]; omega
  rw [e1]
  by_cases hgt : 1 < hi - lo
  ·have e2 : IntKind.u64.wrap (Int.tdiv ((hi - lo : Nat) : Int) 2) = (((hi - lo) / 2 : Nat) : Int) := by rw [Int.tdiv_eq_ediv_of_nonneg (by omega), IntKind.wrap_u64]; omega
   have e3 : IntKind.u64.wrap ((lo : Int) + (((hi - lo) / 2 : Nat) : Int)) = ((lo + (hi - lo) / 2 : Nat) : Int) := by rw [IntKind.wrap_u64]; omega
   rw [e2, e3, if_pos (by omega)]
   have hm1 : lo < lo + (hi - lo) / 2 := by omega
   have hm2 : lo + (hi - lo) / 2 < hi := by omega
   generalize lo + (hi - lo) / 2 = mid at *
   rw [binary_f mid (by omega), Option.bind_some]
   obtain ⟨c, hc, hcm⟩ := scaled_mid k (by omega) mid (by omega) neg d hd p hp
   rw [hc, Option.bind_some]
   rcases hcm with ⟨h, rfl⟩ | ⟨h, rfl⟩ | ⟨h, rfl⟩
   ·rw [if_pos (by decide)]
    exact ih mid hi k (by omega) hm2 h3 (by omega) (Nat.le_of_lt h) hhi
   ·rw [if_pos (by decide)]
    exact ih mid hi k (by omega) hm2 h3 (by omega) (Nat.le_of_eq h) hhi
   ·rw [if_neg (by decide)]
    exact ih lo mid k (by omega) hm1 (by omega) (by omega) hlo (.inr h)
  ·obtain rfl : hi = lo + 1 := by omega
   rw [if_neg (by omega), binary_f lo (by omega), Option.bind_some]
   have hb := bm_lt lo
   have hbe := be_le lo (by omega)
   have e4 : IntKind.u64.wrap (IntKind.u64.wrap (2 * (Fl.bm lo : Int)) + 1) = ((2 * Fl.bm lo + 1 : Nat) : Int) := by
    have : IntKind.u64.wrap (2 * (Fl.bm lo : Int)) = 2 * (Fl.bm lo : Int) := by rw [IntKind.wrap_u64]; omega
    rw [this, IntKind.wrap_u64]; omega
   have e5 : wrap64 ((Fl.be lo : Int) - 1074 - 1) = (Fl.be lo : Int) - 1075 := by rw [Go.IntWalk.wrap64_in _ (by omega)]; omega
   have e6 : IntKind.u64.wrap ((lo : Int) + 1) = ((lo + 1 : Nat) : Int) := by rw [IntKind.wrap_u64]; omega
   rw [e4, e5, e6]
   obtain ⟨c, hc, hcm⟩ := scaled_half k (by omega) lo (by omega) neg d hd p hp
   rw [hc, Option.bind_some]
   refine ⟨lo, ?_, by omega, hlo, by omega⟩
   unfold Fl.up
   generalize (2 * Fl.bm lo + 1) * 2 ^ Fl.be lo * dOf p = x at *
   generalize 2 * kOf d p = y at *
   rcases hcm with ⟨h, rfl⟩ | ⟨h, rfl⟩ | ⟨h, rfl⟩
   ·rw [if_pos (by decide), decide_eq_true h]; rfl
   ·rw [if_neg (by decide), if_pos rfl, decide_eq_false (by omega), decide_eq_true h, Int.tmod_eq_emod_of_nonneg (by omega)]
    by_cases ho : Fl.bm lo % 2 = 1
    ·rw [if_pos (by omega), ho]; rfl
    ·rw [if_neg (by omega), show (Fl.bm lo % 2 == 1) = false from beq_eq_false_iff_ne.mpr ho]; rfl
   ·rw [if_neg (by decide), if_neg (by decide), decide_eq_false (by omega), decide_eq_false (by omega)]; rfl
theorem V_zero : Fl.V 0 = 0 := by simp [Fl.V, Fl.bm]
theorem nearest_f (k : Nat) (hk : 20000000000000000000 ≤ k) (neg : Bool) (d : ByteArray) (hd : d.size ≤ 65536) (p : Int) (hp : -2000 ≤ p ∧ p ≤ 2000) :
  ∃ r, spec_nearest.f k neg d p = some (((r + (Fl.up r (kOf d p) (dOf p)).toNat : Nat) : Int)) ∧ r < 9218868437227405312 ∧ Fl.V r * dOf p ≤ kOf d p ∧ (r + 1 = 9218868437227405312 ∨ kOf d p < Fl.V (r + 1) * dOf p) := by
 unfold spec_nearest.f
 exact nearest_l0 neg d hd p hp 9218868437227405312 0 9218868437227405312 k (by omega) (by omega) (by omega) (by omega) (by rw [V_zero, Nat.zero_mul]; exact Nat.zero_le _) (.inl rfl)
def Dgs (l : List Int) : Prop := ∀ c ∈ l, 48 ≤ c ∧ c ≤ 57
/-- What stands behind a power's letter. -/
def ExpB (w : List Int) : Prop := ∃ sg qs, w = sg ++ qs ∧ (sg = [] ∨ sg = [43] ∨ sg = [45]) ∧ qs ≠ [] ∧ Dgs qs
def ExW (w : List Int) : Prop := w = [] ∨ ∃ c v, w = c :: v ∧ (c = 101 ∨ c = 69) ∧ ExpB v
def FrW (pt : Bool) (fd fr : List Int) : Prop := (pt = false ∧ fd = [] ∧ fr = []) ∨ (pt = true ∧ fd ≠ [] ∧ Dgs fd ∧ fr = 46 :: fd)
/-- A number's parts. -/
structure NumD (l sgn ip : List Int) (pt : Bool) (fd fr ex : List Int) : Prop where
 eq : l = sgn ++ (ip ++ (fr ++ ex))
 sg : sgn = [] ∨ sgn = [45]
 ip0 : ip ≠ []
 ipd : Dgs ip
 fr : FrW pt fd fr
 ex : ExW ex
theorem g_j2 (a : ByteArray) (hn : a.size ≤ 65536) (i k : Nat) (hk : a.size + 1 < k) (x : Bool) : Stp a i (spec_reader_number.j2 k x a (i : Int)) fun b w => b = true → (x = false ∧ w = []) ∨ (x = true ∧ ExpB w) := by
 obtain ⟨k, rfl⟩ : ∃ m, k = m + 1 := ⟨k - 1, by omega⟩
 simp only [spec_reader_number.j2]
 cases x with
 | false => rw [if_neg (by decide)]; exact .now (fun _ => .inl ⟨rfl, rfl⟩)
 | true =>
  rw [if_pos rfl]
  refine (take_f a hn i 43).bind fun b w hw => ?_
  dsimp only
  cases b with
  | true =>
   rw [if_pos rfl]
   refine (digits_f a hn _ k (by omega)).bind fun b' w' hw' => ?_
   refine .now (fun hb => .inr ⟨rfl, w, w', by simp, ?_, hw'.2 hb, hw'.1⟩)
   rcases hw with ⟨_, h⟩ | ⟨h, _⟩
   ·exact .inr (.inl h)
   ·cases h
  | false =>
   rw [if_neg (by decide)]
   have hw0 : w = [] := by
    rcases hw with ⟨h, _⟩ | ⟨_, h, _⟩
    ·cases h
    ·exact h
   subst hw0
   refine (take_f a hn _ 45).bind fun b' w' hw' => ?_
   refine (digits_f a hn _ k (by omega)).bind fun b'' w'' hw'' => ?_
   refine .now (fun hb => .inr ⟨rfl, w', w'', by simp, ?_, hw''.2 hb, hw''.1⟩)
   rcases hw' with ⟨_, h⟩ | ⟨_, h, _⟩
   ·exact .inr (.inr h)
   ·exact .inl h
theorem g_j1 (a : ByteArray) (hn : a.size ≤ 65536) (i k : Nat) (hk : a.size + 2 < k) (x : Bool) : Stp a i (spec_reader_number.j1 k x a (i : Int)) fun b w => b = true → x = false ∧ ExW w := by
 obtain ⟨k, rfl⟩ : ∃ m, k = m + 1 := ⟨k - 1, by omega⟩
 simp only [spec_reader_number.j1]
 cases x with
 | true => rw [if_pos rfl]; exact .now (fun h => by cases h)
 | false =>
  rw [if_neg (by decide)]
  refine (take_f a hn i 101).bind fun b w hw => ?_
  dsimp only
  cases b with
  | true =>
   rw [if_pos rfl]
   refine (g_j2 a hn _ k (by omega) true).imp fun b v h hb => ⟨rfl, ?_⟩
   rcases hw with ⟨_, rfl⟩ | ⟨h', _⟩
   ·rcases h hb with ⟨h', _⟩ | ⟨_, h'⟩
    ·cases h'
    ·exact .inr ⟨101, v, rfl, .inl rfl, h'⟩
   ·cases h'
  | false =>
   rw [if_neg (by decide)]
   have hw0 : w = [] := by
    rcases hw with ⟨h, _⟩ | ⟨_, h, _⟩
    ·cases h
    ·exact h
   subst hw0
   refine (take_f a hn _ 69).bind fun b' w' hw' => ?_
   refine (g_j2 a hn _ k (by omega) b').imp fun b v h hb => ⟨rfl, ?_⟩
   rcases hw' with ⟨rfl, rfl⟩ | ⟨rfl, rfl, _⟩
   ·rcases h hb with ⟨h', _⟩ | ⟨_, h'⟩
    ·cases h'
    ·exact .inr ⟨69, v, rfl, .inr rfl, h'⟩
   ·rcases h hb with ⟨_, h'⟩ | ⟨h', _⟩
    ·exact .inl (by simpa using h')
    ·cases h'
theorem g_j0 (a : ByteArray) (hn : a.size ≤ 65536) (i k : Nat) (hk : a.size + 3 < k) (x : Bool) : Stp a i (spec_reader_number.j0 k x a (i : Int)) fun b w => b = true → x = false ∧ ∃ pt fd fr ex, w = fr ++ ex ∧ FrW pt fd fr ∧ ExW ex := by
 obtain ⟨k, rfl⟩ : ∃ m, k = m + 1 := ⟨k - 1, by omega⟩
 simp only [spec_reader_number.j0]
 cases x with
 | true => rw [if_pos rfl]; exact .now (fun h => by cases h)
 | false =>
  rw [if_neg (by decide)]
  refine (take_f a hn i 46).bind fun b w hw => ?_
  dsimp only
  cases b with
  | true =>
   rw [if_pos rfl]
   refine (digits_f a hn _ k (by omega)).bind fun b' w' hw' => ?_
   refine (g_j1 a hn _ k (by omega) _).imp fun b v h hb => ⟨rfl, true, w', 46 :: w', v, ?_, .inr ⟨rfl, ?_, hw'.1, rfl⟩, (h hb).2⟩
   ·rcases hw with ⟨_, rfl⟩ | ⟨h', _⟩
    ·simp
    ·cases h'
   ·have := (h hb).1
    exact hw'.2 (by simpa using this)
  | false =>
   rw [if_neg (by decide)]
   refine (g_j1 a hn _ k (by omega) _).imp fun b v h hb => ⟨rfl, false, [], [], v, ?_, .inl ⟨rfl, rfl, rfl⟩, (h hb).2⟩
   rcases hw with ⟨h', _⟩ | ⟨_, rfl, _⟩
   ·cases h'
   ·rfl
theorem g_f (a : ByteArray) (hn : a.size ≤ 65536) (i k : Nat) (hk : a.size + 3 < k) : Stp a i (spec_reader_number.f k a (i : Int)) fun b w => b = true → ∃ sgn ip pt fd fr ex, NumD w sgn ip pt fd fr ex := by
 unfold spec_reader_number.f
 refine (take_f a hn i 45).bind fun b w hw => ?_
 have hw0 : w = [] ∨ w = [45] := by
  rcases hw with ⟨_, h⟩ | ⟨_, h, _⟩
  ·exact .inr h
  ·exact .inl h
 dsimp only
 refine (take_f a hn _ 48).bind fun b' w' hw' => ?_
 dsimp only
 cases b' with
 | true =>
  rw [if_pos rfl]
  refine (g_j0 a hn _ k (by omega) _).imp fun b v h hb => ?_
  obtain ⟨_, pt, fd, fr, ex, rfl, h1, h2⟩ := h hb
  rcases hw' with ⟨_, rfl⟩ | ⟨h', _⟩
  ·exact ⟨w, [48], pt, fd, fr, ex, rfl, hw0, by simp, fun c hc => by simp at hc; omega, h1, h2⟩
  ·cases h'
 | false =>
  rw [if_neg (by decide)]
  refine (digits_f a hn _ k (by omega)).bind fun b'' w'' hw'' => ?_
  refine (g_j0 a hn _ k (by omega) _).imp fun b v h hb => ?_
  obtain ⟨h3, pt, fd, fr, ex, rfl, h1, h2⟩ := h hb
  rcases hw' with ⟨h', _⟩ | ⟨_, rfl, _⟩
  ·cases h'
  ·exact ⟨w, w'', pt, fd, fr, ex, by simp, hw0, hw''.2 (by simpa using h3), hw''.1, h1, h2⟩
theorem isNumber_f (a : ByteArray) (hn : a.size ≤ 65536) (k : Nat) (hk : a.size + 3 < k) : ∃ b, spec_IsNumber.f k a = some b ∧ (b = true → ∃ sgn ip pt fd fr ex, NumD (bytesOf a) sgn ip pt fd fr ex) := by
 unfold spec_IsNumber.f
 obtain ⟨b, w, r, e, he, hw⟩ := g_f a hn 0 k hk
 have he : spec_reader_number.f k a 0 = some (b, a, ((0 + w.length : Nat) : Int)) := he
 rw [he]
 simp only [Option.bind_some]
 cases b with
 | false => exact ⟨false, by rw [if_neg (by decide)], fun h => by cases h⟩
 | true =>
  refine ⟨_, by rw [if_pos rfl], fun hb => ?_⟩
  have hl : 0 + w.length = a.size := by have := eq_of_beq hb; omega
  have hr : r = [] := by
   have := congrArg List.length e
   rw [List.length_append, List.drop_zero, bytesOf_length] at this
   exact List.length_eq_zero_iff.mp (by omega)
  rw [hr, List.append_nil, List.drop_zero] at e
  rw [e]
  exact hw rfl
theorem dvL_app (v : Nat) (l r : List Int) : dvL v (l ++ r) = dvL (dvL v l) r := by unfold dvL; rw [List.foldl_append]
theorem dvL_cons (v : Nat) (c : Int) (r : List Int) : dvL v (c :: r) = dvL (v * 10 + dg c) r := rfl
theorem dg_dig {c : Int} (h : 48 ≤ c ∧ c ≤ 57) : (c - 48) % 256 = (dg c : Int) ∧ dg c ≤ 9 := by unfold dg; omega
theorem sg_w {n d g i : Nat} (h : n < 10 ^ 15) (h2 : d ≤ 9) (h3 : g ≤ 15) (h4 : i < 65536) : wrap64 ((n : Int) * 10) = ((n * 10 : Nat) : Int) ∧ wrap64 (((n * 10 : Nat) : Int) + (d : Int)) = ((n * 10 + d : Nat) : Int) ∧ wrap64 ((g : Int) + 1) = ((g + 1 : Nat) : Int) ∧ wrap64 ((i : Int) + 1) = ((i + 1 : Nat) : Int) := by
 refine ⟨?_, ?_, ?_, w64_1 (by omega)⟩
 ·rw [Go.IntWalk.wrap64_in _ (by omega)]; omega
 ·rw [Go.IntWalk.wrap64_in _ (by omega)]; omega
 ·rw [Go.IntWalk.wrap64_in _ (by omega)]; omega
theorem sg_next {n d g : Nat} (h : n < 10 ^ g) (h2 : d ≤ 9) : n * 10 + d < 10 ^ (g + 1) := by rw [Nat.pow_succ]; omega
theorem sg_zero {n : Nat} {c : Int} (h : n < 10 ^ 0) (h2 : c = 48) : n * 10 + dg c < 10 ^ 0 := by
 subst h2
 have : dg 48 = 0 := rfl
 rw [Nat.pow_zero] at h ⊢; omega
theorem signed_l0 (a : ByteArray) (hn : a.size ≤ 65536) (neg : Bool) : ∀ (s : List Int) (k i n g : Nat), (bytesOf a).drop i = s → Dgs s → g ≤ 15 → n < 10 ^ g → 2 * s.length + 5 ≤ k →
  ∃ e ok, spec_signed.l0 k a neg (n : Int) (g : Int) (i : Int) = some (e, ok) ∧ (ok = true → dvL n s < 10 ^ 15 ∧ e = if neg then -(dvL n s : Int) else (dvL n s : Int)) := by
 intro s
 induction s with
 | nil =>
  intro k i n g hs hd hg hng hk
  obtain ⟨k, rfl⟩ : ∃ m, k = m + 1 := ⟨k - 1, by omega⟩
  have h1 := sz_ge hs
  simp only [spec_signed.l0]
  have h15 : n < 10 ^ 15 := Nat.lt_of_lt_of_le hng (Nat.pow_le_pow_right (by decide) hg)
  rw [if_neg (by omega)]
  cases neg with
  | true => exact ⟨-(n : Int), true, by rw [if_pos rfl, Go.IntWalk.wrap64_in _ (by omega)], fun _ => ⟨h15, rfl⟩⟩
  | false => exact ⟨(n : Int), true, by rw [if_neg (by decide)], fun _ => ⟨h15, rfl⟩⟩
 | cons c s ih =>
  intro k i n g hs hd hg hng hk
  obtain ⟨k, rfl⟩ : ∃ m, k = m + 2 := ⟨k - 2, by omega⟩
  have h1 := sz_lt hs
  have hc := hd c List.mem_cons_self
  obtain ⟨e1, e2⟩ := dg_dig hc
  have hd' : Dgs s := fun x hx => hd x (List.mem_cons_of_mem _ hx)
  have h15 : n < 10 ^ 15 := Nat.lt_of_lt_of_le hng (Nat.pow_le_pow_right (by decide) hg)
  have hsl : 2 * s.length + 5 ≤ k := by simp at hk; omega
  have g1 : ¬ (i : Int) < 0 := by omega
  have g2 : (0 : Int) ≤ i := by omega
  have g3 : (i : Int) < a.size := by omega
  obtain ⟨w1, w2, w3, w4⟩ := sg_w (g := g) h15 e2 hg (show i < 65536 by omega)
  have hlast := sg_next hng e2
  have hzero : g = 0 → c = 48 → n * 10 + dg c < 10 ^ 0 := fun h1 h2 => sg_zero (by subst h1; exact hng) h2
  clear hng h15 hk
  have step : ∀ b : Bool, (b = true ∨ (b = false ∧ g = 0 ∧ c = 48)) → ∃ e ok, spec_signed.j3 (k + 1) a neg (n : Int) (g : Int) (i : Int) b = some (e, ok) ∧ (ok = true → dvL n (c :: s) < 10 ^ 15 ∧ e = if neg then -(dvL n (c :: s) : Int) else (dvL n (c :: s) : Int)) := by
   intro b hb
   rw [dvL_cons]
   simp only [spec_signed.j3]
   rw [bt_drop hs, e1, w1, w2, w3, w4]
   generalize n * 10 + dg c = n' at *
   rcases hb with rfl | ⟨rfl, h1, h2⟩
   ·rw [if_pos rfl]
    by_cases h : g = 15
    ·subst h
     rw [if_pos (by decide)]
     exact ⟨_, _, rfl, fun h => by cases h⟩
    ·have g15 : g + 1 ≤ 15 := by clear w1 w2 w3 w4 e1; omega
     rw [if_neg (by clear w1 w2 w3 w4 e1; omega), if_pos g2, if_pos g3]
     exact ih k (i + 1) n' (g + 1) (drop_next hs) hd' g15 hlast hsl
   ·have := hzero h1 h2
    subst h1
    rw [if_neg (by decide), if_neg (by decide), if_pos g2, if_pos g3]
    exact ih k (i + 1) n' 0 (drop_next hs) hd' (by decide) this hsl
  simp only [spec_signed.l0]
  rw [if_pos g3]
  clear w1 w2 w3 w4
  by_cases hg0 : g = 0
  ·subst hg0
   rw [if_neg (by decide), if_pos g2, bt_drop hs]
   by_cases h48 : c = 48
   ·exact step _ (.inr ⟨by rw [h48]; rfl, rfl, h48⟩)
   ·exact step _ (.inl (bne_iff_ne.mpr h48))
  ·rw [if_pos (by omega)]
   exact step true (.inl rfl)
theorem signed_f (a : ByteArray) (hn : a.size ≤ 65536) (k : Nat) (hk : 2 * a.size + 20 ≤ k) (sg qs : List Int) (h : bytesOf a = sg ++ qs) (hs : sg = [] ∨ sg = [43] ∨ sg = [45]) (h0 : qs ≠ []) (hd : Dgs qs) :
  ∃ e ok, spec_signed.f k a = some (e, ok) ∧ (ok = true → dvL 0 qs < 10 ^ 15 ∧ e = if sg = [45] then -(dvL 0 qs : Int) else (dvL 0 qs : Int)) := by
 obtain ⟨k, rfl⟩ : ∃ m, k = m + 2 := ⟨k - 2, by omega⟩
 have hlen : sg.length + qs.length = a.size := by rw [← bytesOf_length, h, List.length_append]
 have hq : 0 < qs.length := List.length_pos_iff.mpr h0
 unfold spec_signed.f
 rw [if_pos (by omega)]
 simp only [spec_signed.j0, spec_signed.j1]
 rcases hs with rfl | rfl | rfl
 ·match qs, h0 with
  | c :: r, _ =>
   have hc := hd c List.mem_cons_self
   have hb : bt a 0 = c := bt_drop (i := 0) (r := r) (by rw [List.drop_zero, h]; rfl)
   rw [hb, if_neg (by omega), show (c == 43) = false from beq_eq_false_iff_ne.mpr (by omega), show (c == 45) = false from beq_eq_false_iff_ne.mpr (by omega), if_neg (by decide)]
   exact signed_l0 a hn false (c :: r) k 0 0 0 (by rw [List.drop_zero, h]; rfl) hd (by decide) (by decide) (by simp at hlen ⊢; omega)
 ·have hb : bt a 0 = 43 := bt_drop (i := 0) (r := qs) (by rw [List.drop_zero, h]; rfl)
  rw [hb, if_neg (by decide), show ((43 : Int) == 43) = true from rfl, show ((43 : Int) == 45) = false from rfl, if_pos rfl, if_pos (by omega)]
  have hx : bytesOf (a.extract 1 a.size) = qs := by rw [bytesOf_extract, ← bytesOf_length, List.take_length, h]; rfl
  have hxs : (a.extract 1 a.size).size = qs.length := by rw [← bytesOf_length, hx]
  have := signed_l0 (a.extract 1 a.size) (by omega) false qs k 0 0 0 (by rw [List.drop_zero, hx]) hd (by decide) (by decide) (by simp at hlen; omega)
  exact this
 ·have hb : bt a 0 = 45 := bt_drop (i := 0) (r := qs) (by rw [List.drop_zero, h]; rfl)
  rw [hb, if_pos (show (45 : Int) = 45 from rfl), show ((45 : Int) == 45) = true from rfl, if_pos trivial, if_pos (by omega)]
  have hx : bytesOf (a.extract 1 a.size) = qs := by rw [bytesOf_extract, ← bytesOf_length, List.take_length, h]; rfl
  have hxs : (a.extract 1 a.size).size = qs.length := by rw [← bytesOf_length, hx]
  have := signed_l0 (a.extract 1 a.size) (by omega) true qs k 0 0 0 (by rw [List.drop_zero, hx]) hd (by decide) (by decide) (by simp at hlen; omega)
  exact this
/-- What is left of digits and a power where the zeros at both ends are taken away. -/
def BareP (l : List Int) (p : Int) (d : ByteArray) (p' : Int) : Prop := (bytesOf d = [] ∧ p' = 0 ∧ dvL 0 l = 0) ∨ (∃ t : Nat, bytesOf d ≠ [] ∧ p' = p + t ∧ dvL 0 l = dvL 0 (bytesOf d) * 10 ^ t ∧ t + d.size ≤ l.length)
theorem bytes_str {l : List Int} (h : Dgs l) : bytesOf (strOfNums l) = l := by
 unfold bytesOf
 rw [strOfNums_data, List.map_map]
 conv => rhs; rw [← List.map_id l]
 refine List.map_congr_left fun c hc => ?_
 have := h c hc
 simp only [Function.comp, id]
 have h2 : (UInt8.ofNat c.toNat).toNat = c.toNat := by simp; omega
 rw [h2]; omega
theorem bare_l1 : ∀ (m k : Nat) (l : List Int) (p : Int), l.length = m → Dgs l → m ≤ 65536 → (-2000000000000000 ≤ p ∧ p + m ≤ 2000000000000000) → m + 2 ≤ k → ∃ d p', spec_bare.l1 k l p = some (d, p') ∧ BareP l p d p'
 | 0, k, l, p, hl, hd, hm, hp, hk => by
  obtain ⟨k, rfl⟩ : ∃ m, k = m + 1 := ⟨k - 1, by omega⟩
  obtain rfl := List.length_eq_zero_iff.mp hl
  simp only [spec_bare.l1]
  rw [if_neg (by simp), if_pos (by simp)]
  exact ⟨_, _, rfl, .inl ⟨bytes_str hd, rfl, rfl⟩⟩
 | m + 1, k, l, p, hl, hd, hm, hp, hk => by
  obtain ⟨k, rfl⟩ : ∃ m, k = m + 1 := ⟨k - 1, by omega⟩
  simp only [spec_bare.l1]
  have w1 : wrap64 ((l.length : Int) - 1) = (m : Int) := by rw [Go.IntWalk.wrap64_in _ (by omega)]; omega
  rw [w1, if_pos (by omega), if_pos (by omega), if_pos (by omega), rd_nat (by omega)]
  have hsp : l = l.take m ++ [l[m]] := by
   have := List.take_succ_eq_append_getElem (l := l) (i := m) (by omega)
   rw [← this, List.take_of_length_le (by omega)]
  have hd' : Dgs (l.take m) := fun x hx => hd x (List.mem_of_mem_take hx)
  by_cases h : l[m] = 48
  ·rw [if_pos h, if_pos (by omega), Int.toNat_natCast, Go.IntWalk.wrap64_in _ (by omega)]
   obtain ⟨d, p', he, hb⟩ := bare_l1 m k (l.take m) (p + 1) (by simp; omega) hd' (by omega) (by omega) (by omega)
   refine ⟨d, p', he, ?_⟩
   have hv : dvL 0 l = dvL 0 (l.take m) * 10 := by
    conv => lhs; rw [hsp]
    rw [dvL_app, h]; rfl
   rcases hb with ⟨h1, h2, h3⟩ | ⟨t, h1, h2, h3, h4⟩
   ·exact .inl ⟨h1, h2, by rw [hv, h3]⟩
   ·refine .inr ⟨t + 1, h1, by omega, by rw [hv, h3, Nat.pow_succ, Nat.mul_assoc], by simp at h4; omega⟩
  ·rw [if_neg h, if_neg (by omega)]
   have hbs := bytes_str hd
   refine ⟨_, _, rfl, .inr ⟨0, ?_, by omega, by rw [hbs]; simp, by rw [← bytesOf_length, hbs]; omega⟩⟩
   rw [hbs]; rintro rfl; simp at hl
theorem bare_l0 : ∀ (l : List Int) (k : Nat) (p : Int), Dgs l → l.length ≤ 65536 → (-1100000000000000 ≤ p ∧ p ≤ 1100000000000000) → 2 * l.length + 5 ≤ k → ∃ d p', spec_bare.l0 k l p = some (d, p') ∧ BareP l p d p'
 | l, k, p, hd, hm, hp, hk => by
  obtain ⟨k, rfl⟩ : ∃ m, k = m + 2 := ⟨k - 2, by omega⟩
  have last : ∃ d p', spec_bare.j1 (k + 1) l p = some (d, p') ∧ BareP l p d p' := by
   simp only [spec_bare.j1]
   exact bare_l1 _ k l p rfl hd (by omega) (by omega) (by omega)
  simp only [spec_bare.l0]
  match l, hd, hm, hk, last with
  | [], _, _, _, last => rw [if_neg (by simp)]; exact last
  | c :: r, hd, hm, hk, last =>
   have hr : rd (c :: r) 0 = c := rfl
   rw [hr, if_pos (by simp), if_pos (by simp)]
   by_cases h : c = 48
   ·rw [if_pos h, if_pos (by simp; omega)]
    obtain ⟨d, p', he, hb⟩ := bare_l0 r (k + 1) p (fun x hx => hd x (List.mem_cons_of_mem _ hx)) (by simp at hm; omega) hp (by simp at hk; omega)
    refine ⟨d, p', he, ?_⟩
    have hv : dvL 0 (c :: r) = dvL 0 r := by rw [h]; rfl
    rcases hb with ⟨h1, h2, h3⟩ | ⟨t, h1, h2, h3, h4⟩
    ·exact .inl ⟨h1, h2, by rw [hv, h3]⟩
    ·exact .inr ⟨t, h1, h2, by rw [hv, h3], by simp; omega⟩
   ·rw [if_neg h]; exact last
theorem bare_f (l : List Int) (k : Nat) (p : Int) (hd : Dgs l) (hm : l.length ≤ 65536) (hp : -1100000000000000 ≤ p ∧ p ≤ 1100000000000000) (hk : 2 * l.length + 5 ≤ k) : ∃ d p', spec_bare.f k l p = some (d, p') ∧ BareP l p d p' :=
 bare_l0 l k p hd hm hp hk
theorem val_dig (a : ByteArray) (hn : a.size ≤ 65536) (neg : Bool) (d0 : ByteArray) (z : Int) (pt : Bool) : ∀ (s r : List Int) (i k : Nat) (acc : List Int) (pw : Int), (bytesOf a).drop i = s ++ r → Dgs s → acc.length ≤ i → -(i : Int) ≤ pw → pw ≤ 0 →
  spec_Value.l0 (k + 2 * s.length) a (i : Int) acc pw pt neg d0 z = spec_Value.l0 k a ((i + s.length : Nat) : Int) (acc ++ s) (pw - if pt then (s.length : Int) else 0) pt neg d0 z := by
 intro s
 induction s with
 | nil => intro r i k acc pw _ _ _ _ _; cases pt <;> simp
 | cons c s ih =>
  intro r i k acc pw hs hd ha hp hp0
  have hs' : (bytesOf a).drop i = c :: (s ++ r) := hs
  have hlt := sz_lt hs'
  have hc := hd c List.mem_cons_self
  have hd' : Dgs s := fun x hx => hd x (List.mem_cons_of_mem _ hx)
  have ih' := ih r (i + 1) k (acc ++ [c]) (pw - if pt then 1 else 0) (drop_next hs') hd' (by simp; omega) (by cases pt <;> simp <;> omega) (by cases pt <;> simp <;> omega)
  have e69 : (c != 69) = true := bne_iff_ne.mpr (by omega)
  have wi := w64_1 (n := i) (by omega)
  have wp : wrap64 (pw - 1) = pw - 1 := Go.IntWalk.wrap64_in _ (by omega)
  have el : i + (c :: s).length = i + 1 + s.length := by simp; omega
  have ea : acc ++ c :: s = (acc ++ [c]) ++ s := by simp
  rw [el, ea, show k + 2 * (c :: s).length = (k + 2 * s.length) + 1 + 1 by simp; omega]
  simp only [spec_Value.l0, spec_Value.j2]
  rw [if_pos (by omega), if_pos (by omega), bt_drop hs', if_neg (by omega), e69, if_pos (show true = true from rfl), if_pos (by omega), if_pos (by omega), if_neg (by omega), if_pos (by omega), Option.bind_some, wi, wp]
  cases pt with
  | true =>
   rw [if_pos rfl]
   simp only [if_true] at ih'
   rw [ih', if_pos rfl, show pw - 1 - (s.length : Int) = pw - ((c :: s).length : Int) by simp; omega]
  | false =>
   rw [if_neg (by decide)]
   simp only [Bool.false_eq_true, if_false, Int.sub_zero] at ih'
   rw [ih', if_neg (by decide)]
   simp
/-- At the power's letter, or at the end. -/
theorem val_end (a : ByteArray) (hn : a.size ≤ 65536) (neg : Bool) (d0 : ByteArray) (z : Int) (pt : Bool) (ex : List Int) (i k : Nat) (acc : List Int) (pw : Int) (hs : (bytesOf a).drop i = ex) (hi : i ≤ a.size) (hx : ExW ex) (ha : acc.length ≤ i) (hd : Dgs acc) (hp : -(i : Int) ≤ pw) (hp0 : pw ≤ 0) (hk : 200000 ≤ k) :
  ∃ d p ok, spec_Value.l0 k a (i : Int) acc pw pt neg d0 z = some (if ok then neg else false, d, p, ok) ∧ (ok = true → ∃ e : Int, (ex = [] ∧ e = 0 ∨ ∃ c sg qs, ex = c :: (sg ++ qs) ∧ (sg = [] ∨ sg = [43] ∨ sg = [45]) ∧ qs ≠ [] ∧ Dgs qs ∧ (c = 101 ∨ c = 69) ∧ dvL 0 qs < 10 ^ 15 ∧ e = if sg = [45] then -(dvL 0 qs : Int) else (dvL 0 qs : Int)) ∧ BareP acc (pw + e) d p) ∧
   d.size ≤ a.size ∧ (ok = false → d.size = 0 ∧ p = 0) := by
 obtain ⟨k, rfl⟩ : ∃ m, k = m + 2 := ⟨k - 2, by omega⟩
 have hsz : ∀ {d : ByteArray} {p p' : Int}, BareP acc p d p' → d.size ≤ a.size := fun {d p p'} h => by
  rcases h with ⟨h, _⟩ | ⟨t, _, _, _, h⟩
  ·rw [← bytesOf_length, h]; simp
  ·omega
 have hlen : i + ex.length = a.size := sz_len hs hi
 rcases hx with rfl | ⟨c, v, rfl, hc, sg, qs, rfl, hsg, hq0, hqd⟩
 ·have hge := sz_ge hs
  obtain ⟨d, p, hb, hbp⟩ := bare_f acc k pw hd (by omega) (by omega) (by omega)
  refine ⟨d, p, true, ?_, fun _ => ⟨0, .inl ⟨rfl, rfl⟩, by rw [Int.add_zero]; exact hbp⟩, hsz hbp, fun h => by cases h⟩
  simp only [spec_Value.l0, spec_Value.j2]
  rw [if_neg (by omega), if_neg (by decide), if_neg (by omega), hb]
  rfl
 ·have hlt := sz_lt hs
  have hx : bytesOf (a.extract (i + 1) a.size) = sg ++ qs := by rw [bytesOf_extract, ← bytesOf_length, List.take_length]; exact drop_next hs
  have hxs : (a.extract (i + 1) a.size).size ≤ a.size := by rw [← bytesOf_length, hx]; simp at hlen; rw [List.length_append]; omega
  obtain ⟨e, ok, he, hok⟩ := signed_f (a.extract (i + 1) a.size) (by omega) k (by omega) sg qs hx hsg hq0 hqd
  have wi := w64_1 (n := i) (by omega)
  have key : ∃ d p ok, spec_Value.j2 (k + 1) a (i : Int) acc pw pt false neg d0 z = some (if ok then neg else false, d, p, ok) ∧ (ok = true → ∃ e : Int, (dvL 0 qs < 10 ^ 15 ∧ e = if sg = [45] then -(dvL 0 qs : Int) else (dvL 0 qs : Int)) ∧ BareP acc (pw + e) d p) ∧ d.size ≤ a.size ∧ (ok = false → d.size = 0 ∧ p = 0) := by
   simp only [spec_Value.j2]
   rw [if_neg (by decide), if_pos (by omega), wi, if_pos (by omega), if_pos (by omega), Int.toNat_natCast, he, Option.bind_some]
   cases ok with
   | false => exact ⟨⟨#[]⟩, 0, false, rfl, (fun h => (by cases h)), Nat.zero_le _, fun _ => ⟨rfl, rfl⟩⟩
   | true =>
    obtain ⟨h1, h2⟩ := hok rfl
    have hb1 : -1000000000000000 ≤ e ∧ e ≤ 1000000000000000 := by
     have : dvL 0 qs < 1000000000000000 := h1
     rw [h2]; split <;> omega
    have wp : wrap64 (pw + e) = pw + e := Go.IntWalk.wrap64_in _ (by omega)
    obtain ⟨d, p, hb, hbp⟩ := bare_f acc k (pw + e) hd (by omega) (by omega) (by omega)
    exact ⟨d, p, true, by dsimp only; rw [if_pos rfl, wp, hb]; rfl, fun _ => ⟨e, ⟨h1, h2⟩, hbp⟩, hsz hbp, (fun h => (by cases h))⟩
  obtain ⟨d, p, ok', k1, k2, k3, k4⟩ := key
  refine ⟨d, p, ok', ?_, fun h => ?_, k3, k4⟩
  ·rw [← k1]
   simp only [spec_Value.l0]
   rw [if_pos (by omega), if_pos (by omega), bt_drop hs]
   rcases hc with rfl | rfl
   ·rw [if_pos rfl]
   ·rw [if_neg (by decide)]; rfl
  ·obtain ⟨e', ⟨h1, h2⟩, h3⟩ := k2 h
   exact ⟨e', .inr ⟨c, sg, qs, rfl, hsg, hq0, hqd, hc, h1, h2⟩, h3⟩
/-- What a power's text counts. -/
def ExpV (ex : List Int) (e : Int) : Prop := ex = [] ∧ e = 0 ∨ ∃ c sg qs, ex = c :: (sg ++ qs) ∧ (sg = [] ∨ sg = [43] ∨ sg = [45]) ∧ qs ≠ [] ∧ Dgs qs ∧ (c = 101 ∨ c = 69) ∧ dvL 0 qs < 10 ^ 15 ∧ e = if sg = [45] then -(dvL 0 qs : Int) else (dvL 0 qs : Int)
theorem dgs_app {l r : List Int} (h : Dgs l) (h2 : Dgs r) : Dgs (l ++ r) := fun c hc => by
 rcases List.mem_append.mp hc with h' | h'
 ·exact h c h'
 ·exact h2 c h'
theorem dgs_nil : Dgs [] := fun c hc => by cases hc
theorem sgn_len {sgn : List Int} (h : sgn = [] ∨ sgn = [45]) : sgn.length ≤ 1 := by rcases h with rfl | rfl <;> simp
theorem val_body (a : ByteArray) (hn : a.size ≤ 65536) (k : Nat) (hk : 600000 ≤ k) (neg : Bool) (d0 : ByteArray) (z : Int) (sgn ip : List Int) (pt : Bool) (fd fr ex : List Int) (h : NumD (bytesOf a) sgn ip pt fd fr ex) :
  ∃ d p ok, spec_Value.l0 k a ((sgn.length : Nat) : Int) [] 0 false neg d0 z = some (if ok then neg else false, d, p, ok) ∧ (ok = true → ∃ e, ExpV ex e ∧ BareP (ip ++ fd) (e - (fd.length : Int)) d p) ∧ d.size ≤ a.size ∧ (ok = false → d.size = 0 ∧ p = 0) := by
 have hs1 := sgn_len h.sg
 have hd1 : (bytesOf a).drop sgn.length = ip ++ (fr ++ ex) := by rw [h.eq]; simp
 have hlen : sgn.length + (ip.length + (fr.length + ex.length)) = a.size := by rw [← bytesOf_length, h.eq]; simp [List.length_append]
 obtain ⟨k, rfl⟩ : ∃ m, k = m + 2 * ip.length := ⟨k - 2 * ip.length, by omega⟩
 rw [val_dig a hn neg d0 z false ip (fr ++ ex) sgn.length k [] 0 hd1 h.ipd (by simp) (by omega) (by omega), if_neg (by decide), List.nil_append, Int.sub_zero]
 have hd2 : (bytesOf a).drop (sgn.length + ip.length) = fr ++ ex := drop_app hd1
 rcases h.fr with ⟨rfl, rfl, rfl⟩ | ⟨rfl, hf0, hfd, rfl⟩
 ·rw [List.append_nil]
  obtain ⟨d, p, ok, h1, h2, h3, h4⟩ := val_end a hn neg d0 z false ex (sgn.length + ip.length) k ip 0 hd2 (by simp at hlen; omega) h.ex (by omega) h.ipd (by omega) (by omega) (by omega)
  refine ⟨d, p, ok, h1, fun hok => ?_, h3, h4⟩
  obtain ⟨e, he, hb⟩ := h2 hok
  exact ⟨e, he, by rw [show e - (([] : List Int).length : Int) = 0 + e by simp]; exact hb⟩
 ·have hd2' : (bytesOf a).drop (sgn.length + ip.length) = 46 :: (fd ++ ex) := hd2
  have hd3 := drop_next hd2'
  have hlt := sz_lt hd2'
  simp only [List.length_cons] at hlen
  obtain ⟨k, rfl⟩ : ∃ m, k = m + 2 * fd.length + 1 + 1 := ⟨k - 2 * fd.length - 2, by omega⟩
  have wi := w64_1 (n := sgn.length + ip.length) (by omega)
  have step : spec_Value.l0 (k + 2 * fd.length + 1 + 1) a ((sgn.length + ip.length : Nat) : Int) ip 0 false neg d0 z = spec_Value.l0 (k + 2 * fd.length) a ((sgn.length + ip.length + 1 : Nat) : Int) ip 0 true neg d0 z := by
   simp only [spec_Value.l0, spec_Value.j2]
   rw [if_pos (by omega), if_pos (by omega), bt_drop hd2', if_neg (by decide), show ((46 : Int) != 69) = true from rfl, if_pos (show true = true from rfl), if_pos (by omega), if_pos (by omega), if_pos rfl, wi]
  rw [step, val_dig a hn neg d0 z true fd ex _ k ip 0 hd3 hfd (by omega) (by omega) (by omega), if_pos rfl]
  obtain ⟨d, p, ok, h1, h2, h3, h4⟩ := val_end a hn neg d0 z true ex (sgn.length + ip.length + 1 + fd.length) k (ip ++ fd) (0 - (fd.length : Int)) (drop_app hd3) (by omega) h.ex (by rw [List.length_append]; omega) (dgs_app h.ipd hfd) (by omega) (by omega) (by omega)
  refine ⟨d, p, ok, h1, fun hok => ?_, h3, h4⟩
  obtain ⟨e, he, hb⟩ := h2 hok
  exact ⟨e, he, by rw [show e - (fd.length : Int) = 0 - (fd.length : Int) + e by omega]; exact hb⟩
theorem value_f (a : ByteArray) (hn : a.size ≤ 65536) (k : Nat) (hk : 700000 ≤ k) :
  ∃ neg d p ok, spec_Value.f k a = some (neg, d, p, ok) ∧ d.size ≤ a.size ∧ (ok = true → ∃ sgn ip pt fd fr ex e, NumD (bytesOf a) sgn ip pt fd fr ex ∧ (neg = decide (sgn = [45])) ∧ ExpV ex e ∧ BareP (ip ++ fd) (e - (fd.length : Int)) d p) := by
 obtain ⟨k, rfl⟩ : ∃ m, k = m + 1 := ⟨k - 1, by omega⟩
 unfold spec_Value.f
 obtain ⟨b, hb, hnum⟩ := isNumber_f a hn (k + 1) (by omega)
 rw [hb, Option.bind_some]
 cases b with
 | false => exact ⟨false, ⟨#[]⟩, 0, false, rfl, Nat.zero_le _, fun h => by cases h⟩
 | true =>
  obtain ⟨sgn, ip, pt, fd, fr, ex, h⟩ := hnum rfl
  have hip : 0 < ip.length := List.length_pos_iff.mpr h.ip0
  have hlen : sgn.length + (ip.length + (fr.length + ex.length)) = a.size := by rw [← bytesOf_length, h.eq]; simp [List.length_append]
  rw [if_pos rfl, if_pos (by omega)]
  have key : ∀ neg, neg = decide (sgn = [45]) → ∃ neg' d p ok, spec_Value.j0 (k + 1) a ((sgn.length : Nat) : Int) neg ⟨#[]⟩ 0 = some (neg', d, p, ok) ∧ d.size ≤ a.size ∧ (ok = true → ∃ sgn ip pt fd fr ex e, NumD (bytesOf a) sgn ip pt fd fr ex ∧ (neg' = decide (sgn = [45])) ∧ ExpV ex e ∧ BareP (ip ++ fd) (e - (fd.length : Int)) d p) := fun neg hneg => by
   obtain ⟨d, p, ok, h1, h2, h3, h4⟩ := val_body a hn k (by omega) neg ⟨#[]⟩ 0 sgn ip pt fd fr ex h
   simp only [spec_Value.j0]
   refine ⟨_, d, p, ok, h1, h3, fun hok => ?_⟩
   obtain ⟨e, he, hbp⟩ := h2 hok
   exact ⟨sgn, ip, pt, fd, fr, ex, e, h, by rw [if_pos hok]; exact hneg, he, hbp⟩
  rcases h.sg with hsg | hsg
  ·subst hsg
   have hb0 : bt a 0 ≠ 45 := by
    obtain ⟨c, r, hcr⟩ := List.exists_cons_of_ne_nil h.ip0
    have hc := h.ipd c (by rw [hcr]; exact List.mem_cons_self)
    have : bt a ((0 : Nat) : Int) = c := bt_drop (r := r ++ (fr ++ ex)) (by rw [List.drop_zero, h.eq, hcr]; rfl)
    rw [show ((0 : Nat) : Int) = 0 from rfl] at this
    omega
   rw [if_neg hb0]
   exact key false (by simp)
  ·subst hsg
   have hb0 : bt a 0 = 45 := bt_drop (i := 0) (r := ip ++ (fr ++ ex)) (by rw [List.drop_zero, h.eq]; rfl)
   rw [if_pos hb0]
   exact key true (by simp)
/-! ### Exactly -/
theorem exa_dig (a : ByteArray) (hn : a.size ≤ 65536) (pt : Bool) : ∀ (s r : List Int) (i k n : Nat), (bytesOf a).drop i = s ++ r → Dgs s → n ≤ i →
  spec_Exactly.l0 (k + 2 * s.length) a (i : Int) (n : Int) pt = spec_Exactly.l0 k a ((i + s.length : Nat) : Int) ((n + s.length : Nat) : Int) pt := by
 intro s
 induction s with
 | nil => intro r i k n _ _ _; simp
 | cons c s ih =>
  intro r i k n hs hd ha
  have hs' : (bytesOf a).drop i = c :: (s ++ r) := hs
  have hlt := sz_lt hs'
  have hc := hd c List.mem_cons_self
  have hd' : Dgs s := fun x hx => hd x (List.mem_cons_of_mem _ hx)
  have ih' := ih r (i + 1) k (n + 1) (drop_next hs') hd' (by omega)
  have e69 : (c != 69) = true := bne_iff_ne.mpr (by omega)
  have wi := w64_1 (n := i) (by omega)
  have wn := w64_1 (n := n) (by omega)
  have el : i + (c :: s).length = i + 1 + s.length := by simp; omega
  have ea : n + (c :: s).length = n + 1 + s.length := by simp; omega
  rw [el, ea, show k + 2 * (c :: s).length = (k + 2 * s.length) + 1 + 1 by simp; omega]
  simp only [spec_Exactly.l0, spec_Exactly.j1]
  rw [if_pos (by omega), if_pos (by omega), bt_drop hs', if_neg (by omega), e69, if_pos (show true = true from rfl), if_pos (by omega), if_pos (by omega), if_neg (by omega), if_neg (by omega), wi, wn, ih']
theorem exp_uniq {sg qs sg' qs' : List Int} (hsg : sg = [] ∨ sg = [43] ∨ sg = [45]) (hqd : Dgs qs) (h2 : sg' = [] ∨ sg' = [43] ∨ sg' = [45]) (h4 : Dgs qs') (h1 : sg ++ qs = sg' ++ qs') : sg' = sg ∧ qs' = qs := by
 have no : ∀ (c : Int) (r : List Int), (c = 43 ∨ c = 45) → ¬ Dgs (c :: r) := fun c r hc h => by have := h c List.mem_cons_self; omega
 rcases hsg with rfl | rfl | rfl <;> rcases h2 with rfl | rfl | rfl
 ·exact ⟨rfl, h1.symm⟩
 ·exact absurd (by rw [show qs = 43 :: qs' from h1] at hqd; exact hqd) (no 43 qs' (.inl rfl))
 ·exact absurd (by rw [show qs = 45 :: qs' from h1] at hqd; exact hqd) (no 45 qs' (.inr rfl))
 ·exact absurd (by rw [show qs' = 43 :: qs from h1.symm] at h4; exact h4) (no 43 qs (.inl rfl))
 ·injection h1 with _ h1; exact ⟨rfl, h1.symm⟩
 ·injection h1 with h1 _; simp at h1
 ·exact absurd (by rw [show qs' = 45 :: qs from h1.symm] at h4; exact h4) (no 45 qs (.inr rfl))
 ·injection h1 with h1 _; simp at h1
 ·injection h1 with _ h1; exact ⟨rfl, h1.symm⟩
theorem exa_end (a : ByteArray) (hn : a.size ≤ 65536) (pt : Bool) (ex : List Int) (i k n : Nat) (hs : (bytesOf a).drop i = ex) (hi : i ≤ a.size) (hx : ExW ex) (ha : n ≤ i) (hk : 200000 ≤ k) :
  ∃ b, spec_Exactly.l0 k a (i : Int) (n : Int) pt = some b ∧ (b = true → n ≤ 15 ∧ (ex = [] ∨ (pt = false ∧ ∀ c sg qs, ex = c :: (sg ++ qs) → (sg = [] ∨ sg = [43] ∨ sg = [45]) → qs ≠ [] → Dgs qs → sg ≠ [45] ∧ dvL 0 qs ≤ 22))) := by
 obtain ⟨k, rfl⟩ : ∃ m, k = m + 2 := ⟨k - 2, by omega⟩
 have hlen : i + ex.length = a.size := sz_len hs hi
 rcases hx with rfl | ⟨c, v, rfl, hc, sg, qs, rfl, hsg, hq0, hqd⟩
 ·have hge := sz_ge hs
  simp only [spec_Exactly.l0, spec_Exactly.j1]
  rw [if_neg (by omega), if_neg (by decide)]
  by_cases h15 : n ≤ 15
  ·rw [if_neg (by omega), if_pos (by simp at hlen; omega)]
   exact ⟨_, rfl, fun _ => ⟨h15, .inl trivial⟩⟩
  ·rw [if_pos (by omega)]
   exact ⟨_, rfl, fun h => by cases h⟩
 ·have hlt := sz_lt hs
  have hdn := drop_next hs
  have hx : bytesOf (a.extract (i + 1) a.size) = sg ++ qs := by rw [bytesOf_extract, ← bytesOf_length, List.take_length]; exact hdn
  have hxs : (a.extract (i + 1) a.size).size ≤ a.size := by rw [← bytesOf_length, hx]; simp at hlen; rw [List.length_append]; omega
  obtain ⟨e, ok, he, hok⟩ := signed_f (a.extract (i + 1) a.size) (by omega) k (by omega) sg qs hx hsg hq0 hqd
  have wi := w64_1 (n := i) (by omega)
  have hq1 : 0 < qs.length := List.length_pos_iff.mpr hq0
  have hl1 : i + 1 < a.size := by simp at hlen; omega
  -- the byte behind the letter
  have hb45 : bt a ((i + 1 : Nat) : Int) = 45 ↔ sg = [45] := by
   rcases hsg with rfl | rfl | rfl
   ·obtain ⟨x, y, hxy⟩ := List.exists_cons_of_ne_nil hq0
    have h1 := hqd x (by rw [hxy]; exact List.mem_cons_self)
    rw [hxy] at hdn
    have h2 : bt a ((i + 1 : Nat) : Int) = x := bt_drop hdn
    constructor
    ·intro h; omega
    ·intro h; cases h
   ·have h2 : bt a ((i + 1 : Nat) : Int) = 43 := bt_drop hdn
    constructor
    ·intro h; omega
    ·intro h; simp at h
   ·have h2 : bt a ((i + 1 : Nat) : Int) = 45 := bt_drop hdn
    exact ⟨fun _ => rfl, fun _ => h2⟩
  have uniq : ∀ c' sg' qs', c :: (sg ++ qs) = c' :: (sg' ++ qs') → (sg' = [] ∨ sg' = [43] ∨ sg' = [45]) → qs' ≠ [] → Dgs qs' → sg' = sg ∧ qs' = qs := by
   intro c' sg' qs' h1 h2 h3 h4
   injection h1 with _ h1
   exact exp_uniq hsg hqd h2 h4 h1
  have key : ∃ b, spec_Exactly.j1 (k + 1) a (i : Int) (n : Int) pt false = some b ∧ (b = true → n ≤ 15 ∧ pt = false ∧ sg ≠ [45] ∧ dvL 0 qs ≤ 22) := by
   simp only [spec_Exactly.j1]
   rw [if_neg (by decide)]
   by_cases h15 : n ≤ 15
   ·rw [if_neg (by omega), if_neg (by omega), wi, if_pos (by omega), if_pos (by omega), Int.toNat_natCast, he, Option.bind_some]
    cases ok with
    | false => exact ⟨_, rfl, fun h => by cases h⟩
    | true =>
     obtain ⟨h1, h2⟩ := hok rfl
     dsimp only
     rw [if_pos rfl]
     cases pt with
     | true => exact ⟨_, rfl, fun h => by cases h⟩
     | false =>
      rw [if_neg (by decide)]
      by_cases h0 : 0 ≤ e
      ·rw [if_pos h0]
       by_cases h22 : e ≤ 22
       ·rw [if_pos h22, if_pos (by omega)]
        refine ⟨_, rfl, fun hb => ?_⟩
        have hb : bt a ((i + 1 : Nat) : Int) ≠ 45 := bne_iff_ne.mp hb
        have hsg45 : sg ≠ [45] := fun h => hb (hb45.mpr h)
        rw [if_neg hsg45] at h2
        exact ⟨h15, rfl, hsg45, by omega⟩
       ·rw [if_neg h22]; exact ⟨_, rfl, fun h => by cases h⟩
      ·rw [if_neg h0]; exact ⟨_, rfl, fun h => by cases h⟩
   ·rw [if_pos (by omega)]
    exact ⟨_, rfl, fun h => by cases h⟩
  obtain ⟨b, hb, hbt⟩ := key
  refine ⟨b, ?_, fun h => ?_⟩
  ·rw [← hb]
   simp only [spec_Exactly.l0]
   rw [if_pos (by omega), if_pos (by omega), bt_drop hs]
   rcases hc with rfl | rfl
   ·rw [if_pos rfl]
   ·rw [if_neg (by decide)]; rfl
  ·obtain ⟨h1, h2, h3, h4⟩ := hbt h
   refine ⟨h1, .inr ⟨h2, fun c' sg' qs' g1 g2 g3 g4 => ?_⟩⟩
   obtain ⟨rfl, rfl⟩ := uniq c' sg' qs' g1 g2 g3 g4
   exact ⟨h3, h4⟩
end Go.Proofs.YtaihmpdhaikfkaaGreatDoor.PFnFjFloat
