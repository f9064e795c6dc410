/- Part of the proof that laws.FnFjFloat answers true for every input (the card: text ZF). -/
import Derived.Laws.FloatBits
import Derived.Laws.FloatArith
set_option linter.all false
/- Plain law of floats: the words of the reference's search and of the model's rounding. -/
namespace Go.Proofs.YtaihmpdhaikfkaaGreatDoor.Fl
open Ieee
/-- The significand and the place (above the least) of a rung: what the reference's 'binary' gives. -/
def bm (r : Nat) : Nat := if r / 4503599627370496 = 0 then r % 4503599627370496 else r % 4503599627370496 + 4503599627370496
def be (r : Nat) : Nat := if r / 4503599627370496 = 0 then 0 else r / 4503599627370496 - 1
def V (r : Nat) : Nat := bm r * 2 ^ be r
theorem parts (low last : Nat) (h1 : low < 9007199254740992) (h2 : last = 0 ∨ 4503599627370496 ≤ low) : bm (last * 4503599627370496 + low) = low ∧ be (last * 4503599627370496 + low) = last := by
 unfold bm be
 rcases h2 with rfl | h2
 ·by_cases h : low < 4503599627370496
  ·have e1 : (0 * 4503599627370496 + low) / 4503599627370496 = 0 := by omega
   rw [if_pos e1, if_pos e1]; omega
  ·have e1 : ¬ (0 * 4503599627370496 + low) / 4503599627370496 = 0 := by omega
   rw [if_neg e1, if_neg e1]; omega
 ·have e1 : ¬ (last * 4503599627370496 + low) / 4503599627370496 = 0 := by omega
  rw [if_neg e1, if_neg e1]; omega
theorem V_of (low last : Nat) (h1 : low ≤ 9007199254740992) (h2 : last = 0 ∨ 4503599627370496 ≤ low) : V (last * 4503599627370496 + low) = low * 2 ^ last := by
 by_cases h : low < 9007199254740992
 ·obtain ⟨e1, e2⟩ := parts low last h h2
  unfold V; rw [e1, e2]
 ·obtain rfl : low = 9007199254740992 := by omega
  obtain ⟨e1, e2⟩ := parts 4503599627370496 (last + 1) (by omega) (.inr (Nat.le_refl _))
  have e : last * 4503599627370496 + 9007199254740992 = (last + 1) * 4503599627370496 + 4503599627370496 := by omega
  unfold V; rw [e, e1, e2, Nat.pow_succ]; omega
theorem form (r : Nat) : ∃ low last, low < 9007199254740992 ∧ (last = 0 ∨ 4503599627370496 ≤ low) ∧ r = last * 4503599627370496 + low := by
 by_cases h : r / 4503599627370496 = 0
 ·exact ⟨r, 0, by omega, .inl rfl, by omega⟩
 ·exact ⟨r % 4503599627370496 + 4503599627370496, r / 4503599627370496 - 1, by omega, .inr (by omega), by omega⟩
theorem V_step (r : Nat) : V r < V (r + 1) := by
 obtain ⟨low, last, h1, h2, rfl⟩ := form r
 rw [V_of low last (by omega) h2, Nat.add_assoc, V_of (low + 1) last (by omega) (by omega)]
 exact Nat.mul_lt_mul_of_pos_right (Nat.lt_succ_self _) (Nat.two_pow_pos _)
theorem V_lt {r s : Nat} (h : r < s) : V r < V s := by
 induction s with
 | zero => omega
 | succ s ih =>
  by_cases e : r = s
  ·subst e; exact V_step r
  ·exact Nat.lt_trans (ih (by omega)) (V_step s)
theorem V_le {r s : Nat} (h : r ≤ s) : V r ≤ V s := by
 rcases Nat.lt_or_eq_of_le h with h | rfl
 ·exact Nat.le_of_lt (V_lt h)
 ·exact Nat.le_refl _
theorem one_lo {lo rf K D : Nat} (h1 : V lo * D ≤ K) (h2 : K < V (lo + 1) * D) (h3 : V rf * D ≤ K) (h4 : K < V (rf + 1) * D) : lo = rf := by
 rcases Nat.lt_trichotomy lo rf with h | h | h
 ·have := Nat.mul_le_mul_right D (V_le (show lo + 1 ≤ rf by omega)); omega
 ·exact h
 ·have := Nat.mul_le_mul_right D (V_le (show rf + 1 ≤ lo by omega)); omega
/-- The model's rounding, of a magnitude of at least 53 binary digits, at no subnormal place. -/
theorem nearest_eq (neg : Bool) (mag : Nat) (place : Int) (L : Nat) (hL : mag.log2 = L) (h52 : 52 ≤ L) (hp : -1074 ≤ place + L - 52) (h0 : mag ≠ 0) :
  double.nearest neg mag place = double.word neg (min ((place + L + 1022).toNat * 4503599627370496 + (mag / 2 ^ (L - 52) + (decide (2 ^ (L - 52) < 2 * (mag % 2 ^ (L - 52))) || (2 ^ (L - 52) == 2 * (mag % 2 ^ (L - 52)) && mag / 2 ^ (L - 52) % 2 == 1)).toNat)) double.infRung) := by
 have e1 : double.leastPlace = -1074 := by decide
 have e2 : double.binade = 4503599627370496 := by decide
 have e3 : double.fractionBits = 52 := rfl
 unfold Format.nearest
 rw [if_neg h0]
 simp only [e1, e2, e3, hL]
 have e4 : max (place + (L : Int) - ((52 : Nat) : Int)) (-1074) = place + L - 52 := by omega
 rw [e4]
 have e5 : (place - (place + (L : Int) - 52)).toNat = 0 := by omega
 have e6 : (place + (L : Int) - 52 - place).toNat = L - 52 := by omega
 have e7 : (place + (L : Int) - 52 - -1074).toNat = (place + L + 1022).toNat := by omega
 rw [e5, e6, e7]
 unfold Toward.cut
 simp only [Nat.shiftLeft_zero, Nat.one_shiftLeft]
 rw [show min (L - 52) (mag.log2 + 2) = L - 52 by omega]
/-- What the reference takes: the lower rung, or the next one if that is nearer. -/
def up (lo K D : Nat) : Bool := decide ((2 * bm lo + 1) * 2 ^ be lo * D < 2 * K) || (decide ((2 * bm lo + 1) * 2 ^ be lo * D = 2 * K) && bm lo % 2 == 1)
theorem log2_bounds {m L : Nat} (h : m.log2 = L) (h0 : m ≠ 0) : 2 ^ L ≤ m ∧ m < 2 ^ (L + 1) := by
 subst h; exact ⟨Nat.log2_self_le h0, Nat.lt_log2_self⟩
theorem pieces (mag quo rem low rest H : Nat) (hmag : mag = 2 * quo + if rem = 0 then 0 else 1) (hdm : 4 * H * low + rest = mag) (hml : rest < 4 * H) : ∃ r', quo = low * (2 * H) + r' ∧ r' < 2 * H ∧ rest = 2 * r' + (if rem = 0 then 0 else 1) := by
 have e : 4 * H * low = 2 * (low * (2 * H)) := by rw [Nat.mul_comm (4 * H) low, show 4 * H = 2 * (2 * H) by omega, Nat.mul_left_comm]
 rw [e] at hdm
 generalize low * (2 * H) = z at *
 by_cases hz : rem = 0
 ·simp only [hz, if_true] at hmag ⊢
  exact ⟨quo - z, by omega, by omega, by omega⟩
 ·simp only [hz, if_false] at hmag ⊢
  exact ⟨quo - z, by omega, by omega, by omega⟩
theorem between (X n quo rem low r' H : Nat) (hxm : n * quo + rem = X) (hxl : rem < n) (hr1 : quo = low * (2 * H) + r') (hr2 : r' < 2 * H) : low * (2 * H) * n ≤ X ∧ X < (low + 1) * (2 * H) * n := by
 have a1 : low * (2 * H) * n ≤ quo * n := Nat.mul_le_mul_right _ (by omega)
 have a2 : (quo + 1) * n ≤ (low + 1) * (2 * H) * n := Nat.mul_le_mul_right _ (by rw [Nat.add_mul low 1 (2 * H)]; omega)
 rw [Nat.mul_comm quo n] at a1
 rw [Nat.add_mul quo 1 n, Nat.mul_comm quo n] at a2
 omega
theorem cancel_lt {a b c : Nat} (hc : 0 < c) : a * c < b * c ↔ a < b := ⟨fun h => Nat.lt_of_mul_lt_mul_right h, fun h => Nat.mul_lt_mul_of_pos_right h hc⟩
theorem cancel_eq {a b c : Nat} (hc : 0 < c) : a * c = b * c ↔ a = b := ⟨fun h => Nat.eq_of_mul_eq_mul_right hc h, fun h => by rw [h]⟩
theorem half (X n quo rem low r' H P D K E : Nat) (hn : 0 < n) (hP : 0 < P) (hD : 0 < D) (hE : E = P * (2 * H)) (hq : X * P * D = n * K) (hxm : n * quo + rem = X) (hr1 : quo = low * (2 * H) + r') :
  ((2 * low + 1) * E * D < 2 * K ↔ n * H < n * r' + rem) ∧ ((2 * low + 1) * E * D = 2 * K ↔ n * H = n * r' + rem) := by
 have hl : ((2 * low + 1) * E * D) * n = ((2 * low + 1) * (2 * H) * n) * (P * D) := by
  rw [hE, ← Nat.mul_assoc (2 * low + 1) P, Nat.mul_comm (2 * low + 1) P]
  generalize 2 * low + 1 = g
  generalize 2 * H = h
  rw [Nat.mul_assoc (P * g * h) D n, Nat.mul_comm D n, ← Nat.mul_assoc (P * g * h) n D, ← Nat.mul_assoc (g * h * n) P D, Nat.mul_assoc P g h, Nat.mul_assoc P (g * h) n, Nat.mul_comm P (g * h * n)]
 have hr : (2 * K) * n = (2 * X) * (P * D) := by
  rw [Nat.mul_assoc 2 K n, Nat.mul_comm K n, ← hq, Nat.mul_assoc 2 X, Nat.mul_assoc X P D]
 have hX : 2 * X = (2 * low) * (2 * H) * n + 2 * (n * r' + rem) := by
  rw [← hxm, hr1, Nat.mul_add n, Nat.mul_comm n (low * (2 * H)), Nat.mul_assoc 2 low, Nat.mul_assoc 2 (low * (2 * H))]; omega
 have hB : (2 * low + 1) * (2 * H) * n = (2 * low) * (2 * H) * n + 2 * (n * H) := by
  rw [Nat.add_mul (2 * low) 1 (2 * H), Nat.add_mul (2 * low * (2 * H)) (1 * (2 * H)) n, Nat.one_mul, Nat.mul_assoc 2 H n, Nat.mul_comm H n]
 have hPD := Nat.mul_pos hP hD
 constructor
 ·rw [← cancel_lt hn, hl, hr, cancel_lt hPD, hX, hB]
  generalize (2 * low) * (2 * H) * n = z
  omega
 ·rw [← cancel_eq hn, hl, hr, cancel_eq hPD, hX, hB]
  generalize (2 * low) * (2 * H) * n = z
  omega
theorem half2 (n rem r' H : Nat) (hxl : rem < n) : ((n * H < n * r' + rem) ↔ (H < r' ∨ (H = r' ∧ rem ≠ 0))) ∧ ((n * H = n * r' + rem) ↔ (H = r' ∧ rem = 0)) := by
 rcases Nat.lt_trichotomy H r' with g | g | g
 ·have := Nat.mul_le_mul_left n (show H + 1 ≤ r' by omega); rw [Nat.mul_add n H 1] at this
  constructor <;> constructor <;> omega
 ·subst g
  constructor <;> constructor <;> omega
 ·have := Nat.mul_le_mul_left n (show r' + 1 ≤ H by omega); rw [Nat.mul_add n r' 1] at this
  constructor <;> constructor <;> omega
theorem half3 (n rem r' H rest : Nat) (hxl : rem < n) (hr3 : rest = 2 * r' + if rem = 0 then 0 else 1) : ((n * H < n * r' + rem) ↔ 4 * H < 2 * rest) ∧ ((n * H = n * r' + rem) ↔ 4 * H = 2 * rest) := by
 obtain ⟨d1, d2⟩ := half2 n rem r' H hxl
 rw [d1, d2]
 clear d1 d2
 by_cases hz : rem = 0
 ·rw [if_pos hz] at hr3; omega
 ·rw [if_neg hz] at hr3; omega
theorem sum_up (low last P H D n X K lo : Nat) (hn : 0 < n) (hP : 0 < P) (hD : 0 < D) (hq : X * P * D = n * K) (hlr : low * (2 * H) * n ≤ X ∧ X < (low + 1) * (2 * H) * n) (hV1 : V (last * 4503599627370496 + low) = low * (P * (2 * H))) (hV2 : V (last * 4503599627370496 + (low + 1)) = (low + 1) * (P * (2 * H)))
  (h1 : V lo * D ≤ K) (h2 : K < V (lo + 1) * D) : lo = last * 4503599627370496 + low := by
 have sw : ∀ g : Nat, g * (P * (2 * H)) * D * n = g * (2 * H) * n * (P * D) := fun g => by
  generalize 2 * H = h
  rw [Nat.mul_comm P h, ← Nat.mul_assoc g h P, Nat.mul_assoc (g * h) P D, Nat.mul_assoc (g * h) (P * D) n, Nat.mul_comm (P * D) n, ← Nat.mul_assoc (g * h) n (P * D)]
 have hPD := Nat.mul_pos hP hD
 have hq' : K * n = X * (P * D) := by rw [Nat.mul_comm K n, ← hq, Nat.mul_assoc]
 refine one_lo h1 h2 ?_ ?_
 ·rw [hV1]
  refine Nat.le_of_mul_le_mul_right (c := n) ?_ hn
  rw [sw, hq']
  exact Nat.mul_le_mul_right _ hlr.1
 ·rw [Nat.add_assoc, hV2]
  refine Nat.lt_of_mul_lt_mul_right (a := n) ?_
  rw [sw, hq']
  exact Nat.mul_lt_mul_of_pos_right hlr.2 hPD
theorem infR : double.infRung = 2047 * 4503599627370496 := by decide
/-- A quotient with its sticky digit is rounded as the reference does. -/
theorem round_eq (X n : Nat) (hn : 0 < n) (mag : Nat) (hmag : mag = 2 * (X / n) + (X % n != 0).toNat) (p : Int) (L : Nat) (hL : mag.log2 = L) (h54 : 54 ≤ L) (hp : 0 ≤ p + 1074) (hfin : p + L + 1022 < 2045) (K D : Nat) (hD : 0 < D)
  (hq : X * 2 ^ ((p + 1074).toNat + 1) * D = n * K) (lo : Nat) (h1 : V lo * D ≤ K) (h2 : K < V (lo + 1) * D) (neg : Bool) :
  double.nearest neg mag p = double.word neg (lo + (up lo K D).toNat) ∧ lo + (up lo K D).toNat < double.infRung := by
 have h0 : mag ≠ 0 := by rintro e; rw [e] at hL; simp at hL; omega
 obtain ⟨hb1, hb2⟩ := log2_bounds hL h0
 obtain ⟨H, hH⟩ : ∃ H, 2 ^ (L - 52) = 4 * H := ⟨2 ^ (L - 54), by rw [show L - 52 = (L - 54) + 2 by omega, Nat.pow_add]; omega⟩
 have hHp : 0 < H := by have : 0 < 2 ^ (L - 52) := Nat.two_pow_pos _; omega
 have hL0 : 2 ^ L = 4503599627370496 * (4 * H) := by rw [← hH, show (4503599627370496 : Nat) = 2 ^ 52 by decide, ← Nat.pow_add]; congr 1; omega
 have hL1 : 2 ^ (L + 1) = 9007199254740992 * (4 * H) := by rw [Nat.pow_succ, hL0]; omega
 rw [hL0] at hb1
 rw [hL1] at hb2
 rw [nearest_eq neg mag p L hL (by omega) (by omega) h0, hH]
 have hlow1 : 4503599627370496 ≤ mag / (4 * H) := (Nat.le_div_iff_mul_le (by omega)).2 hb1
 have hlow2 : mag / (4 * H) < 9007199254740992 := (Nat.div_lt_iff_lt_mul (by omega)).2 hb2
 have hdm := Nat.div_add_mod mag (4 * H)
 have hml := Nat.mod_lt mag (show 0 < 4 * H by omega)
 generalize mag / (4 * H) = low at *
 generalize mag % (4 * H) = rest at *
 have hxm := Nat.div_add_mod X n
 have hxl := Nat.mod_lt X hn
 generalize X / n = quo at *
 generalize X % n = rem at *
 have hst : (rem != 0).toNat = if rem = 0 then 0 else 1 := by by_cases e : rem = 0 <;> simp [e]
 rw [hst] at hmag
 obtain ⟨r', hr1, hr2, hr3⟩ := pieces mag quo rem low rest H hmag hdm hml
 have hpow : 2 ^ ((p + L + 1022).toNat) = 2 ^ ((p + 1074).toNat + 1) * (2 * H) := by
  rw [show (p + L + 1022).toNat = (p + 1074).toNat + (L - 52) by omega, Nat.pow_add, hH, Nat.pow_succ, show 4 * H = 2 * (2 * H) by omega, Nat.mul_assoc]
 have hV1 := V_of low (p + L + 1022).toNat (by omega) (.inr hlow1)
 have hV2 := V_of (low + 1) (p + L + 1022).toNat (by omega) (.inr (by omega))
 have hlt0 : (p + L + 1022).toNat < 2045 := by omega
 obtain ⟨hbm, hbe⟩ := parts low (p + L + 1022).toNat hlow2 (.inr hlow1)
 generalize (p + L + 1022).toNat = last at *
 rw [hpow] at hV1 hV2
 have hP : 0 < 2 ^ ((p + 1074).toNat + 1) := Nat.two_pow_pos _
 generalize 2 ^ ((p + 1074).toNat + 1) = P at *
 have hlr := between X n quo rem low r' H hxm hxl hr1 hr2
 obtain rfl := sum_up low last P H D n X K lo hn hP hD hq hlr hV1 hV2 h1 h2
 obtain ⟨c1, c2⟩ := half X n quo rem low r' H P D K (2 ^ last) hn hP hD hpow hq hxm hr1
 obtain ⟨d1, d2⟩ := half3 n rem r' H rest hxl hr3
 have k1 : decide ((2 * low + 1) * 2 ^ last * D < 2 * K) = decide (4 * H < 2 * rest) := by rw [decide_eq_decide, c1, d1]
 have k2 : decide ((2 * low + 1) * 2 ^ last * D = 2 * K) = (4 * H == 2 * rest) := by rw [Bool.eq_iff_iff, decide_eq_true_iff, beq_iff_eq, c2, d2]
 have hup : up (last * 4503599627370496 + low) K D = (decide (4 * H < 2 * rest) || (4 * H == 2 * rest && low % 2 == 1)) := by
  unfold up
  rw [hbm, hbe, k1, k2]
 have hbt : (up (last * 4503599627370496 + low) K D).toNat ≤ 1 := Bool.toNat_le _
 rw [← hup, infR]
 generalize (up (last * 4503599627370496 + low) K D).toNat = bb at hbt ⊢
 have hfl : last * 4503599627370496 + low + bb < 2047 * 4503599627370496 := by omega
 exact ⟨congrArg (double.word neg) ((Nat.min_eq_left (by omega)).trans (Nat.add_assoc _ _ _).symm), hfl⟩
end Go.Proofs.YtaihmpdhaikfkaaGreatDoor.Fl
/- Plain law of floats: whole numbers as floats, quotients and products of them. -/
namespace Go.Proofs.YtaihmpdhaikfkaaGreatDoor.Fl
open Ieee
theorem infV : double.infRung = 9218868437227405312 := by decide
theorem read_rung (b : Nat) (hb : b < double.infRung) : double.read b = .number false (bm b) ((be b : Int) - 1074) := by
 rw [infV] at hb
 have e1 : double.signWeight = 9223372036854775808 := by decide
 have e2 : double.binade = 4503599627370496 := by decide
 have e3 : double.leastPlace = -1074 := by decide
 unfold Format.read
 simp only [e1, e2, e3, infV]
 have h1 : b / 9223372036854775808 = 0 := by omega
 have h2 : b % 9223372036854775808 = b := by omega
 rw [h1, h2]
 unfold bm be
 by_cases h : b < 4503599627370496
 ·have h3 : b / 4503599627370496 = 0 := by omega
  rw [if_pos h, if_pos h3, if_pos h3, show b % 4503599627370496 = b by omega]
  rfl
 ·have h3 : ¬ b / 4503599627370496 = 0 := by omega
  rw [if_neg h, if_pos hb, if_neg h3, if_neg h3, Nat.add_comm 4503599627370496]
  congr 1
/-- A float that is a whole number a, of 53 binary digits. -/
structure Wh (x a : Nat) : Prop where
 fin : x < double.infRung
 v : V x = a * 2 ^ 1074
 lo : 4503599627370496 ≤ bm x
 hi : bm x < 9007199254740992
 be1 : 1022 ≤ be x
 be2 : be x ≤ 1100
theorem cut0 (n : Nat) : Toward.even.cut false n 0 = n := by
 unfold Toward.cut
 have h : (1 : Nat) <<< min 0 (n.log2 + 2) = 1 := by rw [Nat.zero_min]; rfl
 simp [h, Nat.mod_one]
theorem word_pos (r : Nat) : double.word false r = r := by simp [Format.word]
theorem min_fin {a b c : Nat} (h : a = b) (h2 : b ≤ c) : min a c = b := by rw [h]; exact Nat.min_eq_left h2
theorem wh_int (d : Nat) (h0 : 0 < d) (h : d < 9007199254740992) : Wh (floatOfInt .f64 (d : Int)) d := by
 have hf : floatOfInt .f64 (d : Int) = double.nearest false d 0 := by
  show double.nearest (decide ((d : Int) < 0)) (d : Int).natAbs 0 = _
  rw [decide_eq_false (by omega), Int.natAbs_natCast]
 have hL : ∃ L, d.log2 = L := ⟨_, rfl⟩
 obtain ⟨L, hL⟩ := hL
 obtain ⟨b1, b2⟩ := log2_bounds hL (by omega)
 have hL52 : L ≤ 52 := by
  by_cases e : L ≤ 52
  ·exact e
  ·have := Nat.pow_le_pow_right (n := 2) (by decide) (show 53 ≤ L by omega); omega
 have e1 : double.leastPlace = -1074 := by decide
 have e2 : double.binade = 4503599627370496 := by decide
 have e3 : double.fractionBits = 52 := rfl
 have hw : double.nearest false d 0 = (L + 1022) * 4503599627370496 + d * 2 ^ (52 - L) := by
  unfold Format.nearest
  rw [if_neg (by omega)]
  simp only [e1, e2, e3, hL]
  have e4 : max (0 + (L : Int) - ((52 : Nat) : Int)) (-1074) = (L : Int) - 52 := by omega
  rw [e4]
  have e5 : (0 - ((L : Int) - 52)).toNat = 52 - L := by omega
  have e6 : ((L : Int) - 52 - 0).toNat = 0 := by omega
  have e7 : ((L : Int) - 52 - -1074).toNat = L + 1022 := by omega
  rw [e5, e6, e7]
  have hlow2 : d * 2 ^ (52 - L) < 9007199254740992 := by
   have : (9007199254740992 : Nat) = 2 ^ (L + 1) * 2 ^ (52 - L) := by rw [← Nat.pow_add, show L + 1 + (52 - L) = 53 by omega]
   rw [this]
   exact Nat.mul_lt_mul_of_pos_right b2 (Nat.two_pow_pos _)
  rw [Nat.shiftLeft_eq, cut0, word_pos, infV]
  exact Nat.min_eq_left (by omega)
 have hlow1 : 4503599627370496 ≤ d * 2 ^ (52 - L) := by
  have : (4503599627370496 : Nat) = 2 ^ L * 2 ^ (52 - L) := by rw [← Nat.pow_add, show L + (52 - L) = 52 by omega]
  rw [this]
  exact Nat.mul_le_mul_right _ b1
 have hlow2 : d * 2 ^ (52 - L) < 9007199254740992 := by
  have : (9007199254740992 : Nat) = 2 ^ (L + 1) * 2 ^ (52 - L) := by rw [← Nat.pow_add, show L + 1 + (52 - L) = 53 by omega]
  rw [this]
  exact Nat.mul_lt_mul_of_pos_right b2 (Nat.two_pow_pos _)
 rw [hf, hw]
 obtain ⟨p1, p2⟩ := parts (d * 2 ^ (52 - L)) (L + 1022) hlow2 (.inr hlow1)
 refine ⟨by rw [infV]; omega, ?_, by rw [p1]; exact hlow1, by rw [p1]; exact hlow2, by rw [p2]; omega, by rw [p2]; omega⟩
 unfold V
 rw [p1, p2, Nat.mul_assoc, ← Nat.pow_add, show 52 - L + (L + 1022) = 1074 by omega]
theorem log2_52 {m : Nat} (h1 : 4503599627370496 ≤ m) (h2 : m < 9007199254740992) : m.log2 = 52 := by
 have hb := log2_bounds (m := m) rfl (by omega)
 have a : 52 ≤ m.log2 := by
  by_cases e : 52 ≤ m.log2
  ·exact e
  ·have := Nat.pow_le_pow_right (n := 2) (by decide) (show m.log2 + 1 ≤ 52 by omega); omega
 have b : m.log2 ≤ 52 := by
  by_cases e : m.log2 ≤ 52
  ·exact e
  ·have := Nat.pow_le_pow_right (n := 2) (by decide) (show 53 ≤ m.log2 by omega); omega
 omega
theorem div_zero {y b : Nat} (hy : Wh y b) : double.div 0 y = some 0 := by
 have h0 : double.read 0 = .number false 0 (-1074) := by decide
 unfold Format.div
 rw [h0, read_rung y hy.fin]
 have : bm y ≠ 0 := by have := hy.lo; omega
 simp only [Datum.quotient, if_neg this, Nat.zero_shiftLeft, Nat.zero_div, Nat.zero_mod, bne_self_eq_false, Bool.toNat_false, Nat.mul_zero, Nat.add_zero, Option.map_some, Format.write, Format.nearest, if_true, Bool.xor_self, word_pos]
theorem mul_zero {y b : Nat} (hy : Wh y b) : double.mul 0 y = some 0 := by
 have h0 : double.read 0 = .number false 0 (-1074) := by decide
 unfold Format.mul
 rw [h0, read_rung y hy.fin]
 simp only [Datum.product, Nat.zero_mul, Option.map_some, Format.write, Format.nearest, if_true, Bool.xor_self, word_pos]
theorem log2_ge {m k : Nat} (h : 2 ^ k ≤ m) (h0 : m ≠ 0) : k ≤ m.log2 := by
 by_cases e : k ≤ m.log2
 ·exact e
 ·have h1 := (log2_bounds (m := m) rfl h0).2
  have := Nat.pow_le_pow_right (n := 2) (by decide) (show m.log2 + 1 ≤ k by omega); omega
theorem log2_lt {m k : Nat} (h : m < 2 ^ k) (h0 : m ≠ 0) : m.log2 < k := by
 by_cases e : m.log2 < k
 ·exact e
 ·have h1 := (log2_bounds (m := m) rfl h0).1
  have := Nat.pow_le_pow_right (n := 2) (by decide) (show k ≤ m.log2 by omega); omega
theorem pw22 (a b c d : Nat) (h : a + b = c + d) : 2 ^ a * 2 ^ b = 2 ^ c * 2 ^ d := by rw [← Nat.pow_add, ← Nat.pow_add, h]
theorem pw32 (a b c d e : Nat) (h : a + b + c = d + e) : 2 ^ a * 2 ^ b * 2 ^ c = 2 ^ d * 2 ^ e := by rw [← Nat.pow_add, ← Nat.pow_add, ← Nat.pow_add, h]
theorem mul_pow {mx my ex ey a b q P : Nat} (hP : 0 < P) (hx : mx * 2 ^ ex = a * P) (hy : my * 2 ^ ey = b * P) (hq : 2 ^ ex * 2 ^ ey = 2 ^ q * P) : mx * my * 2 ^ (q + 1) * 1 = 2 * (a * b * P) := by
 have h1 : (mx * 2 ^ ex) * (my * 2 ^ ey) = (a * P) * (b * P) := by rw [hx, hy]
 have h2 : (mx * 2 ^ ex) * (my * 2 ^ ey) = mx * my * (2 ^ q * P) := by rw [← hq, Nat.mul_mul_mul_comm]
 have h3 : (a * P) * (b * P) = a * b * P * P := by rw [Nat.mul_mul_mul_comm, Nat.mul_assoc (a * b)]
 rw [h2, h3, ← Nat.mul_assoc] at h1
 have h4 := Nat.eq_of_mul_eq_mul_right hP h1
 rw [Nat.mul_one, Nat.pow_succ, ← Nat.mul_assoc, h4, Nat.mul_comm]
theorem sticky2 (M : Nat) : M = 2 * (M / 2) + (M % 2 != 0).toNat := by
 have h := Nat.div_add_mod M 2
 have h2 := Nat.mod_lt M (show 0 < 2 by decide)
 rcases Nat.lt_or_ge (M % 2) 1 with g | g
 ·have : M % 2 = 0 := by omega
  rw [this] at h ⊢; exact h.symm
 ·have : M % 2 = 1 := by omega
  rw [this] at h ⊢; exact h.symm
theorem mul_eq {x y a b : Nat} (hx : Wh x a) (hy : Wh y b) (lo : Nat) (h1 : V lo ≤ a * b * 2 ^ 1074) (h2 : a * b * 2 ^ 1074 < V (lo + 1)) :
  double.mul x y = some (lo + (up lo (a * b * 2 ^ 1074) 1).toNat) ∧ lo + (up lo (a * b * 2 ^ 1074) 1).toNat < double.infRung := by
 have hP := Nat.two_pow_pos 1074
 have vx := hx.v
 have vy := hy.v
 unfold V at vx vy
 have b1 := hx.be1
 have b2 := hx.be2
 have b3 := hy.be1
 have b4 := hy.be2
 have hq : 2 ^ be x * 2 ^ be y = 2 ^ (be x + be y - 1074) * 2 ^ 1074 := pw22 (be x) (be y) (be x + be y - 1074) 1074 (by omega)
 have hmp := mul_pow hP vx vy hq
 have hm1 : 2 ^ 104 ≤ bm x * bm y := (show (2 : Nat) ^ 104 = 4503599627370496 * 4503599627370496 by decide) ▸ Nat.mul_le_mul hx.lo hy.lo
 have hm2 : bm x * bm y < 2 ^ 106 := (show (2 : Nat) ^ 106 = 9007199254740992 * 9007199254740992 by decide) ▸ Nat.mul_lt_mul_of_lt_of_le hx.hi (Nat.le_of_lt hy.hi) (by decide)
 have h0 : bm x * bm y ≠ 0 := by have : 0 < 2 ^ 104 := Nat.two_pow_pos _; omega
 have hl1 := log2_ge hm1 h0
 have hl2 := log2_lt hm2 h0
 have hr := round_eq (bm x * bm y) 2 (by decide) (bm x * bm y) (sticky2 _) ((be x : Int) - 1074 + ((be y : Int) - 1074)) _ rfl (by omega) (by omega) (by omega) (a * b * 2 ^ 1074) 1 (by decide)
  (by rw [show ((be x : Int) - 1074 + ((be y : Int) - 1074) + 1074).toNat = be x + be y - 1074 by omega]; exact hmp) lo (by rw [Nat.mul_one]; exact h1) (by rw [Nat.mul_one]; exact h2) false
 refine ⟨?_, hr.2⟩
 unfold Format.mul
 rw [read_rung x hx.fin, read_rung y hy.fin]
 simp only [Datum.product, Option.map_some, Format.write, Bool.xor_self]
 rw [hr.1, word_pos]
theorem div_pow {mx my ex ey a b q P : Nat} (hP : 0 < P) (hx : mx * 2 ^ ex = a * P) (hy : my * 2 ^ ey = b * P) (hq : 2 ^ 54 * 2 ^ (q + 1) * 2 ^ ey = 2 ^ ex * P) : mx * 2 ^ 54 * 2 ^ (q + 1) * b = my * (a * P) := by
 have hE : 0 < 2 ^ ey := Nat.two_pow_pos _
 refine Nat.eq_of_mul_eq_mul_right hE ?_
 generalize 2 ^ 54 = F at *
 generalize 2 ^ (q + 1) = Q at *
 generalize 2 ^ ey = E at *
 generalize 2 ^ ex = X at *
 calc mx * F * Q * b * E = mx * (F * Q * E) * b := by rw [Nat.mul_right_comm, Nat.mul_assoc mx F Q, Nat.mul_assoc mx (F * Q) E]
  _ = mx * X * (b * P) := by rw [hq, ← Nat.mul_assoc mx X P, Nat.mul_assoc (mx * X) P b, Nat.mul_comm P b]
  _ = a * P * (my * E) := by rw [hx, hy]
  _ = my * (a * P) * E := by rw [Nat.mul_left_comm, ← Nat.mul_assoc]
theorem div_eq {x y a b : Nat} (hx : Wh x a) (hy : Wh y b) (hb : 0 < b) (lo : Nat) (h1 : V lo * b ≤ a * 2 ^ 1074) (h2 : a * 2 ^ 1074 < V (lo + 1) * b) :
  double.div x y = some (lo + (up lo (a * 2 ^ 1074) b).toNat) ∧ lo + (up lo (a * 2 ^ 1074) b).toNat < double.infRung := by
 have hP := Nat.two_pow_pos 1074
 have vx := hx.v
 have vy := hy.v
 unfold V at vx vy
 have b1 := hx.be1
 have b2 := hx.be2
 have b3 := hy.be1
 have b4 := hy.be2
 have hq : 2 ^ 54 * 2 ^ (be x + 1019 - be y + 1) * 2 ^ be y = 2 ^ be x * 2 ^ 1074 := pw32 54 (be x + 1019 - be y + 1) (be y) (be x) 1074 (by omega)
 have hdp := div_pow hP vx vy hq
 have l1 := log2_52 hx.lo hx.hi
 have l2 := log2_52 hy.lo hy.hi
 have hn : 0 < bm y := by have := hy.lo; omega
 have hX1 : 2 ^ 53 ≤ bm x * 2 ^ 54 / bm y := (Nat.le_div_iff_mul_le hn).2 (by have := hx.lo; have := hy.hi; omega)
 have hX2 : bm x * 2 ^ 54 / bm y < 2 ^ 56 := (Nat.div_lt_iff_lt_mul hn).2 (by have := hx.hi; have := hy.lo; omega)
 have hbit : (bm x * 2 ^ 54 % bm y != 0).toNat ≤ 1 := Bool.toNat_le _
 have hm0 : 2 * (bm x * 2 ^ 54 / bm y) + (bm x * 2 ^ 54 % bm y != 0).toNat ≠ 0 := by have : 0 < 2 ^ 53 := Nat.two_pow_pos _; omega
 have hl1 := log2_ge (m := 2 * (bm x * 2 ^ 54 / bm y) + (bm x * 2 ^ 54 % bm y != 0).toNat) (k := 54) (by omega) hm0
 have hl2 := log2_lt (m := 2 * (bm x * 2 ^ 54 / bm y) + (bm x * 2 ^ 54 % bm y != 0).toNat) (k := 57) (by omega) hm0
 have hr := round_eq (bm x * 2 ^ 54) (bm y) hn _ rfl ((be x : Int) - 1074 - ((be y : Int) - 1074) - 54 - 1) _ rfl hl1 (by omega) (by omega) (a * 2 ^ 1074) b hb
  (by rw [show ((be x : Int) - 1074 - ((be y : Int) - 1074) - 54 - 1 + 1074).toNat = be x + 1019 - be y by omega]; exact hdp) lo h1 h2 false
 refine ⟨?_, hr.2⟩
 unfold Format.div
 rw [read_rung x hx.fin, read_rung y hy.fin]
 have hn0 : bm y ≠ 0 := by omega
 have e3 : double.fractionBits + 2 + 52 - 52 = 54 := rfl
 simp only [Datum.quotient, if_neg hn0, Option.map_some, Format.write, Bool.xor_self, l1, l2, e3, Nat.shiftLeft_eq]
 have e4 : ((54 : Nat) : Int) = 54 := rfl
 rw [e4, hr.1, word_pos]
end Go.Proofs.YtaihmpdhaikfkaaGreatDoor.Fl
