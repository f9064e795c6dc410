/- Part of the proof that laws.FnFjFloat answers true for every input (the card: text ZF). -/
import Derived.Test.YtaihmpdhaikfkaaGreatDoorZL
import Derived.Test.YtaihmpdhaikfkaaGreatDoorZH
import Derived.Deep.CutBlock
set_option linter.all false
/- The tables of powers of ten; math.Pow10. -/
namespace Go.Proofs.YtaihmpdhaikfkaaGreatDoor.PFnFjFloat
open Go.RowKit Go.Proofs.YtaihmpdhaikfkaaGreatDoorW.PrintWords Go.Proofs.YtaihmpdhaikfkaaGreatDoorW.PrintLast Go.Proofs.YtaihmpdhaikfkaaGreatDoorW.PrintMore
def ptL : List Nat := [4607182418800017408, 4621819117588971520, 4636737291354636288, 4652007308841189376, 4666723172467343360, 4681608360884174848, 4696837146684686336, 4711630319722168320, 4726483295884279808, 4741671816366391296, 4756540486875873280, 4771362005757984768, 4786511204640096256, 4801453603149578240, 4816244402031689728, 4831355200913801216, 4846369599423283200, 4861130398305394688, 4876203697187506176, 4891288408196988160, 4906019910204099648, 4921056587992461136, 4936209963552724370]
def pt (m : Nat) : Nat := ptL.getD m 0
theorem wh_b (x a : Nat) (h : (decide (x < 9218868437227405312) && (Nat.beq (Fl.V x) (a * 2 ^ 1074)) && decide (4503599627370496 ≤ Fl.bm x) && decide (Fl.bm x < 9007199254740992) && decide (1022 ≤ Fl.be x) && decide (Fl.be x ≤ 1100)) = true) : Fl.Wh x a := by
 simp only [Bool.and_eq_true, decide_eq_true_eq] at h
 obtain ⟨⟨⟨⟨⟨h1, h2⟩, h3⟩, h4⟩, h5⟩, h6⟩ := h
 exact ⟨by rw [Fl.infV]; exact h1, Nat.eq_of_beq_eq_true h2, h3, h4, h5, h6⟩
theorem wh_pt : ∀ m, m < 23 → Fl.Wh (pt m) (10 ^ m)
 | 0, _ => wh_b _ _ (by kernel_rfl)
 | 1, _ => wh_b _ _ (by kernel_rfl)
 | 2, _ => wh_b _ _ (by kernel_rfl)
 | 3, _ => wh_b _ _ (by kernel_rfl)
 | 4, _ => wh_b _ _ (by kernel_rfl)
 | 5, _ => wh_b _ _ (by kernel_rfl)
 | 6, _ => wh_b _ _ (by kernel_rfl)
 | 7, _ => wh_b _ _ (by kernel_rfl)
 | 8, _ => wh_b _ _ (by kernel_rfl)
 | 9, _ => wh_b _ _ (by kernel_rfl)
 | 10, _ => wh_b _ _ (by kernel_rfl)
 | 11, _ => wh_b _ _ (by kernel_rfl)
 | 12, _ => wh_b _ _ (by kernel_rfl)
 | 13, _ => wh_b _ _ (by kernel_rfl)
 | 14, _ => wh_b _ _ (by kernel_rfl)
 | 15, _ => wh_b _ _ (by kernel_rfl)
 | 16, _ => wh_b _ _ (by kernel_rfl)
 | 17, _ => wh_b _ _ (by kernel_rfl)
 | 18, _ => wh_b _ _ (by kernel_rfl)
 | 19, _ => wh_b _ _ (by kernel_rfl)
 | 20, _ => wh_b _ _ (by kernel_rfl)
 | 21, _ => wh_b _ _ (by kernel_rfl)
 | 22, _ => wh_b _ _ (by kernel_rfl)
 | n + 23, h => absurd h (by omega)
theorem one_pt : ∀ m, m < 23 → floatBits .mul .f64 4607182418800017408 (pt m) = some (pt m)
 | 0, _ => by kernel_rfl
 | 1, _ => by kernel_rfl
 | 2, _ => by kernel_rfl
 | 3, _ => by kernel_rfl
 | 4, _ => by kernel_rfl
 | 5, _ => by kernel_rfl
 | 6, _ => by kernel_rfl
 | 7, _ => by kernel_rfl
 | 8, _ => by kernel_rfl
 | 9, _ => by kernel_rfl
 | 10, _ => by kernel_rfl
 | 11, _ => by kernel_rfl
 | 12, _ => by kernel_rfl
 | 13, _ => by kernel_rfl
 | 14, _ => by kernel_rfl
 | 15, _ => by kernel_rfl
 | 16, _ => by kernel_rfl
 | 17, _ => by kernel_rfl
 | 18, _ => by kernel_rfl
 | 19, _ => by kernel_rfl
 | 20, _ => by kernel_rfl
 | 21, _ => by kernel_rfl
 | 22, _ => by kernel_rfl
 | n + 23, h => absurd h (by omega)
/-- The tables lie in memory. -/
structure Tab (w : World) : Prop where
 t1 : ∀ m, m < 17 → w.cell? ⟨1, m, none⟩ = some (.float .f64 (pt m))
 t2 : w.cell? ⟨2, 0, none⟩ = some (.float .f64 4607182418800017408)
 t3 : ∀ m, m < 23 → w.cell? ⟨3, m, none⟩ = some (.float .f64 (pt m))
set_option maxHeartbeats 4000000 in
set_option maxRecDepth 100000 in
theorem pow_calls (e : Nat) (he : e < 23) (w : World) (hT : Tab w) : Calls Tryz.prog 58 #[.int .i64 e] w fun r w' => r = .returned (.float .f64 (pt e)) ∧ Below w.heap.size w w' := by
 have hm := fun W => run_float_arith (P := Tryz.prog) W .mul 28 .f64 _ _ _ (one_pt e he)
 have k2 := hT.t2
 have k3 := hT.t3 e he
 have a1 : decide (0 ≤ (e : Int)) = true := decide_eq_true (by omega)
 have a2 : decide ((e : Int) ≤ 308) = true := decide_eq_true (by omega)
 have a3 : IntKind.u64.wrap (e : Int) = (e : Int) := by rw [IntKind.wrap_u64]; omega
 have a4 : (e : Int).tdiv 32 = 0 := by rw [Int.tdiv_eq_ediv_of_nonneg (by omega)]; omega
 have a5 : (e : Int).tmod 32 = e := by rw [Int.tmod_eq_emod_of_nonneg (by omega)]; omega
 have a6 : ((e : Int) < 32) = True := eq_true (by omega)
 clear hT he
 go_enter Tryz.func58, Tryz.ntmps58
 go_wp2
 go_quiet (fail)
 go_wp2
 go_ret
 exact ⟨rfl, below_draws (Below.refl _ _) _⟩
/-- The number that digits read on. -/
def dvc (d0 : Nat) (s : ByteArray) (a : Nat) : Nat → Nat
 | 0 => d0
 | k + 1 => dvc d0 s a k * 10 + (bt s ((a + k : Nat) : Int) - 48).toNat
def Dg (s : ByteArray) (a n : Nat) : Prop := ∀ k, k < n → 48 ≤ bt s ((a + k : Nat) : Int) ∧ bt s ((a + k : Nat) : Int) ≤ 57
theorem dvc_lt {d0 : Nat} {s : ByteArray} {a n : Nat} (h : Dg s a n) (B : Nat) (hb : d0 < 10 ^ B) : ∀ k, k ≤ n → dvc d0 s a k < 10 ^ (B + k)
 | 0, _ => hb
 | k + 1, hk => by
  have h1 := dvc_lt h B hb k (by omega)
  have h2 := h k (by omega)
  rw [dvc, ← Nat.add_assoc, Nat.pow_succ]
  omega
theorem dvc_mono {d0 : Nat} {s : ByteArray} {a : Nat} {k n : Nat} (h : k ≤ n) : dvc d0 s a k ≤ dvc d0 s a n := by
 induction n with
 | zero =>
  have : k = 0 := by omega
  subst this; exact Nat.le_refl _
 | succ n ih =>
  by_cases e : k = n + 1
  ·subst e; exact Nat.le_refl _
  ·have := ih (by omega)
   rw [dvc]; omega
/-- What a round of a loop over digits is told. -/
structure Rd (s : ByteArray) (p : Nat) : Prop where
 lt : p < s.size
theorem round_dig {s : ByteArray} {a n p : Nat} (hs : s.size < 2 ^ 30) (h : Dg s a n) (h1 : a ≤ p) (h2 : p < a + n) (h3 : a + n ≤ s.size) :
  decide ((p : Int) < (s.size : Int)) = true ∧ decide (p < s.size) = true ∧ ((0 ≤ (p : Int)) = True) ∧ (((p : Int) < (s.size : Int)) = True) ∧ decide (48 ≤ bt s (p : Int)) = true ∧ decide (bt s (p : Int) ≤ 57) = true ∧
  IntKind.u8.wrap (bt s (p : Int) - 48) = bt s (p : Int) - 48 ∧ IntKind.u64.wrap (bt s (p : Int) - 48) = bt s (p : Int) - 48 ∧ IntKind.i16.wrap (bt s (p : Int) - 48) = bt s (p : Int) - 48 ∧ IntKind.u64.wrap ((p : Int) + 1) = (p : Int) + 1 := by
 have hd := h (p - a) (by omega)
 rw [show a + (p - a) = p by omega] at hd
 refine ⟨decide_eq_true (by omega), decide_eq_true (by omega), eq_true (by omega), eq_true (by omega), decide_eq_true hd.1, decide_eq_true hd.2, ?_, ?_, ?_, ?_⟩
 ·simp [IntKind.wrap, IntKind.bits, IntKind.signed]; omega
 ·rw [IntKind.wrap_u64]; omega
 ·simp [IntKind.wrap, IntKind.bits, IntKind.signed]; omega
 ·rw [IntKind.wrap_u64]; omega
theorem sum_dig {s : ByteArray} {D : Nat} {p : Nat} (hD : D < 10 ^ 15) (h : 48 ≤ bt s (p : Int) ∧ bt s (p : Int) ≤ 57) : IntKind.u64.wrap ((D : Int) * 10) = (D : Int) * 10 ∧ IntKind.u64.wrap ((D : Int) * 10 + (bt s (p : Int) - 48)) = (D : Int) * 10 + (bt s (p : Int) - 48) := by
 rw [IntKind.wrap_u64, IntKind.wrap_u64]; omega
theorem next_dig {s : ByteArray} {d0 a p : Nat} (h1 : a ≤ p) (h : 48 ≤ bt s (p : Int)) : ((dvc d0 s a (p - a) : Nat) : Int) * 10 + (bt s (p : Int) - 48) = ((dvc d0 s a (p + 1 - a) : Nat) : Int) := by
 rw [show p + 1 - a = (p - a) + 1 by omega, dvc, show a + (p - a) = p by omega]
 omega
theorem sum_i16 {s : ByteArray} {a q p D : Nat} (h : Dg s a q) (h1 : a ≤ p) (h2 : p < a + q) (hq : dvc 0 s a q ≤ 22) (hD : D = dvc 0 s a (p - a)) :
  IntKind.i16.wrap ((D : Int) * 10) = (D : Int) * 10 ∧ IntKind.i16.wrap ((D : Int) * 10 + (bt s (p : Int) - 48)) = (D : Int) * 10 + (bt s (p : Int) - 48) ∧ decide (300 < (D : Int) * 10 + (bt s (p : Int) - 48)) = false := by
 have hd := h (p - a) (by omega)
 have hm := dvc_mono (d0 := 0) (s := s) (a := a) (show p - a + 1 ≤ q by omega)
 rw [dvc, show a + (p - a) = p by omega, ← hD] at hm
 rw [show a + (p - a) = p by omega] at hd
 refine ⟨?_, ?_, decide_eq_false (by omega)⟩
 ·simp [IntKind.wrap, IntKind.bits, IntKind.signed]; omega
 ·simp [IntKind.wrap, IntKind.bits, IntKind.signed]; omega
theorem sg_i {j : Nat} (h : j = 1) : Value.int .u64 1 = .int .u64 (j : Int) := by rw [h]; rfl
theorem sg_i0 {j : Nat} (h : j = 0) : Value.int .u64 0 = .int .u64 (j : Int) := by rw [h]; rfl
theorem sg_b {neg b c : Bool} (h : neg = c) (h2 : b = c) : Value.bool b = .bool neg := by rw [h, h2]
def sg (neg : Bool) (r : Nat) : Nat := if neg then Op.negFloat .f64 r else r
theorem sg_t (r : Nat) : sg true r = Op.negFloat .f64 r := rfl
theorem sg_f (r : Nat) : sg false r = r := rfl
theorem un_neg {P : Program} (x : Nat) (W : World) : (Op.unary .neg (.float .f64 x)).run P W = .ok (.float .f64 (Op.negFloat .f64 x)) W := rfl
/-- The text is one of the law's numbers, and r its float without the sign. -/
def Shape (s : ByteArray) (j n r : Nat) : Prop := (j + n = s.size ∧ r = floatOfInt .f64 ((dvc 0 s j n : Nat) : Int)) ∨
 (∃ m, 1 ≤ m ∧ n + m ≤ 15 ∧ bt s ((j + n : Nat) : Int) = 46 ∧ Dg s (j + n + 1) m ∧ j + n + 1 + m = s.size ∧ floatBits .quo .f64 (floatOfInt .f64 ((dvc (dvc 0 s j n) s (j + n + 1) m : Nat) : Int)) (pt m) = some r) ∨
 (∃ a q, (a = j + n + 1 ∧ bt s ((j + n + 1 : Nat) : Int) ≠ 43 ∨ (bt s ((j + n + 1 : Nat) : Int) = 43 ∧ a = j + n + 2)) ∧ (bt s ((j + n : Nat) : Int) = 101 ∨ bt s ((j + n : Nat) : Int) = 69) ∧ 1 ≤ q ∧ Dg s a q ∧ a + q = s.size ∧ dvc 0 s a q ≤ 22 ∧
  floatBits .mul .f64 (floatOfInt .f64 ((dvc 0 s j n : Nat) : Int)) (pt (dvc 0 s a q)) = some r)
theorem shape_le {s : ByteArray} {j n r : Nat} (h : Shape s j n r) : j + n ≤ s.size := by
 rcases h with ⟨h, _⟩ | ⟨m, _, _, _, _, h, _⟩ | ⟨a, q, h1 | h1, _, _, _, h, _⟩ <;> omega
/-- The sign's byte. -/
def SignAt (s : ByteArray) (neg : Bool) (j : Nat) : Prop := (neg = true ∧ j = 1 ∧ (bt s 0 == 45) = true) ∨ (neg = false ∧ j = 0 ∧ (bt s 0 == 45) = false)
set_option maxHeartbeats 8000000 in
set_option maxRecDepth 100000 in
theorem ff_calls (s : ByteArray) (hs : s.size < 2 ^ 30) (neg : Bool) (j n r : Nat) (hn : 1 ≤ n) (hn15 : n ≤ 15) (hj : SignAt s neg j) (hd : Dg s j n) (hsh : Shape s j n r) (w : World) (hT : Tab w) :
  Calls Tryz.prog 34 #[.string s] w fun e w' => e = .returned (.tuple #[.float .f64 (sg neg r), .nilIface]) ∧ Below w.heap.size w w' := by
 have HS := sd hs
 have HN := sd (And.intro hn hn15)
 have HJ := sd hj
 have HD := sd hd
 have HSh := sd hsh
 have HT := sd hT
 have hle := shape_le hsh
 have HL := sd hle
 have hj1 : j ≤ 1 := by rcases hj with ⟨_, h, _⟩ | ⟨_, h, _⟩ <;> omega
 have HJ1 := sd hj1
 have z0 : ((0 : Int) < (s.size : Int)) = True := eq_true (by omega)
 have z1 : (0 < s.size) = True := eq_true (by omega)
 have z2 : ((s.size : Int) == 0) = false := beq_eq_false_iff_ne.mpr (by omega)
 have z3 : (s.size == 0) = false := beq_eq_false_iff_ne.mpr (by omega)
 have zx := bt_nat s 0
 have zl : IntKind.u64.wrap (s.size : Int) = (s.size : Int) := by rw [IntKind.wrap_u64]; omega
 clear hs hn hn15 hj hd hsh hT hle hj1
 have un := fun (x : Nat) (W : World) => un_neg (P := Tryz.prog) x W
 go_enter Tryz.func34, Tryz.ntmps34
 go_upto_if 27 with (fail)
 go_cut [4, 5] (fun i m wc => i = .int .u64 (j : Int) ∧ m = .bool neg ∧ w = wc)
 case first =>
  rcases HJ.out with ⟨g1, g2, g3⟩ | ⟨g1, g2, g3⟩
  ·have q1 := HL.out
   have q2 := HN.out
   have q3 : decide ((s.size : Int) ≤ 1) = false := decide_eq_false (by omega)
   have q4 : decide (s.size ≤ 1) = false := decide_eq_false (by omega)
   have q5 : ((1 : Int) < (s.size : Int)) = True := eq_true (by omega)
   clear q1 q2
   go_wp2
   go_meet
   case rel => exact ⟨sg_i g2, sg_b g1 g3, rfl⟩
  ·go_wp2
   go_meet
   case rel => exact ⟨sg_i0 g2, sg_b g1 g3, rfl⟩
 case rest =>
  obtain ⟨rfl, rfl, rfl⟩ := hcut
  have jx := bt_nat s j
  obtain ⟨y1, y2, y3, y4, y5, y6, y7, y8, y9, y10⟩ := round_dig HS.out HD.out (Nat.le_refl j) (by have := HN.out; omega) HL.out
  have y11 : (bt s (j : Int) == 46) = false := beq_eq_false_iff_ne.mpr (by have := of_decide_eq_true y5; omega)
  clear y7 y8 y9
  go_wp2
  clear y1 y2 y3 y4 y5 y6 y10 y11 jx
  go_loop [4, 6] (fun i d => ∃ p : Nat, i = .int .u64 (p : Int) ∧ d = .int .u64 ((dvc 0 s j (p - j) : Nat) : Int) ∧ Aside0 (j ≤ p ∧ p ≤ j + n)) (fun i _ => s.size - (intOf i).toNat)
  case atStart => exact ⟨j, rfl, by rw [Nat.sub_self]; rfl, ⟨Nat.le_refl _, Nat.le_add_right _ _⟩⟩
  case round =>
   obtain ⟨p, rfl, rfl, HP⟩ := hrel
   have px := bt_nat s p
   by_cases hp : p < j + n
   ·obtain ⟨y1, y2, y3, y4, y5, y6, y7, y8, y9, y10⟩ := round_dig HS.out HD.out HP.out.1 hp HL.out
    obtain ⟨x1, x2⟩ := sum_dig (D := dvc 0 s j (p - j)) (Nat.lt_of_lt_of_le (dvc_lt HD.out 0 (by decide) (p - j) (by have := HP.out; omega)) (Nat.pow_le_pow_right (by decide) (by have := HP.out; have := HN.out; omega))) ⟨of_decide_eq_true y5, of_decide_eq_true y6⟩
    have HX := sd (next_dig (d0 := 0) HP.out.1 (of_decide_eq_true y5))
    have HPn := sd (And.intro hp (of_decide_eq_true y2))
    have y11 : decide (18 < (p : Int) + 1) = false := decide_eq_false (by have := HP.out; have := HN.out; have := HJ1.out; omega)
    clear y9 hp
    generalize dvc 0 s j (p - j) = D at *
    go_wp2
    go_round
    case rel => exact ⟨p + 1, by go_num, by rw [HX.out], ⟨by have := HP.out; omega, by have := HPn.out; omega⟩⟩
    case measure => simp [intOf]; have := HPn.out; omega
   ·have HE := sd (show p = j + n by have := HP.out; omega)
    have e3 : decide ((p : Int) ≤ (j : Int)) = false := decide_eq_false (by have := HE.out; have := HN.out; omega)
    have e3' : decide (p ≤ j) = false := decide_eq_false (by have := HE.out; have := HN.out; omega)
    have HV := sd (show dvc 0 s j (p - j) = dvc 0 s j n by rw [HE.out, Nat.add_sub_cancel_left])
    generalize dvc 0 s j (p - j) = D at *
    clear hp
    rcases HSh.out with ⟨a1, a2⟩ | ⟨m, b1, b2, b3, b4, b5, b6⟩ | ⟨a, q, c1, c2, c3, c4, c5, c6, c7⟩
    ·as_aux_lemma =>
     have e1 : decide ((p : Int) < (s.size : Int)) = false := decide_eq_false (by have := HE.out; omega)
     have e1' : decide (p < s.size) = false := decide_eq_false (by have := HE.out; omega)
     have e2 : decide ((s.size : Int) ≤ (p : Int)) = true := decide_eq_true (by have := HE.out; omega)
     have e2' : decide (s.size ≤ p) = true := decide_eq_true (by have := HE.out; omega)
     have HR := sd (show r = floatOfInt .f64 (D : Int) by rw [a2, HV.out])
     clear a1 a2
     go_wp2
     all_goals
      go_ret2
      exact ⟨by first | (rw [HR.out, sg_t]; rfl) | (rw [HR.out, sg_f]; rfl), Below.refl _ _⟩
    ·as_aux_lemma =>
     obtain ⟨k, hk⟩ : ∃ k, k = p + 1 := ⟨_, rfl⟩
     have HK := sd hk
     have hp := HE.out
     have f1 : decide ((p : Int) < (s.size : Int)) = true := decide_eq_true (by omega)
     have f2 : decide (p < s.size) = true := decide_eq_true (by omega)
     have f3 : (0 ≤ (p : Int)) = True := eq_true (by omega)
     have f4 : ((p : Int) < (s.size : Int)) = True := eq_true (by omega)
     have f5 : decide (48 ≤ bt s (p : Int)) = false := decide_eq_false (by rw [hp, b3]; omega)
     have f6 : (bt s (p : Int) == 46) = true := beq_iff_eq.mpr (by rw [hp, b3])
     have f7 : decide ((s.size : Int) ≤ (p : Int)) = false := decide_eq_false (by omega)
     have f8 : decide (s.size ≤ p) = false := decide_eq_false (by omega)
     have f9 : decide ((s.size : Int) ≤ (k : Int)) = false := decide_eq_false (by omega)
     have f10 : decide (s.size ≤ k) = false := decide_eq_false (by omega)
     have HM := sd (show Dg s k m ∧ k + m = s.size ∧ m ≤ 14 ∧ n + m ≤ 15 by
      refine ⟨?_, by omega, by have := HN.out; omega, b2⟩
      rw [hk, hp]; exact b4)
     have HQ := sd (show floatBits .quo .f64 (floatOfInt .f64 ((dvc D s k m : Nat) : Int)) (pt m) = some r by rw [hk, hp, HV.out]; exact b6)
     have HDl := sd (show D < 10 ^ n by
      have h1 := dvc_lt HD.out 0 (d0 := 0) (by decide) n (Nat.le_refl _)
      rw [Nat.zero_add] at h1
      rw [HV.out]; exact h1)
     have f11 : IntKind.u64.wrap ((p : Int) + 1) = (k : Int) := by rw [IntKind.wrap_u64]; have := HS.out; omega
     clear b1 b2 b3 b4 b5 b6 hp hk
     go_wp2
     clear f1 f2 f3 f4 f5 f6 f7 f8 f9 f10 f11 px e3 e3'
     go_loop [4, 6] (fun i d => ∃ p2 : Nat, i = .int .u64 (p2 : Int) ∧ d = .int .u64 ((dvc D s k (p2 - k) : Nat) : Int) ∧ Aside0 (k ≤ p2 ∧ p2 ≤ k + m)) (fun i _ => s.size - (intOf i).toNat)
     case atStart => exact ⟨k, rfl, by rw [Nat.sub_self]; rfl, ⟨Nat.le_refl _, Nat.le_add_right _ _⟩⟩
     case round =>
      obtain ⟨p2, rfl, rfl, HP2⟩ := hrel
      have px := bt_nat s p2
      by_cases hp : p2 < k + m
      ·obtain ⟨y1, y2, y3, y4, y5, y6, y7, y8, y9, y10⟩ := round_dig HS.out HM.out.1 HP2.out.1 hp (Nat.le_of_eq HM.out.2.1)
       obtain ⟨x1, x2⟩ := sum_dig (D := dvc D s k (p2 - k)) (Nat.lt_of_lt_of_le (dvc_lt HM.out.1 n HDl.out (p2 - k) (by have := HP2.out; omega)) (Nat.pow_le_pow_right (by decide) (by have := HP2.out; have := HM.out; omega))) ⟨of_decide_eq_true y5, of_decide_eq_true y6⟩
       have HX := sd (next_dig (d0 := D) HP2.out.1 (of_decide_eq_true y5))
       have HPn := sd (And.intro hp (of_decide_eq_true y2))
       have y11 : IntKind.u64.wrap ((p2 : Int) + 1 - (j : Int)) = (p2 : Int) + 1 - (j : Int) := by rw [IntKind.wrap_u64]; have := HP2.out; have := HE.out; have := HK.out; have := HS.out; have := HM.out; omega
       have y12 : decide (17 ≤ (p2 : Int) + 1 - (j : Int)) = false := decide_eq_false (by have := HP2.out; have := HE.out; have := HK.out; have := HM.out; omega)
       clear y9 hp
       generalize dvc D s k (p2 - k) = D2 at *
       go_wp2
       go_round
       case rel => exact ⟨p2 + 1, by go_num, by rw [HX.out], ⟨by have := HP2.out; omega, by have := HPn.out; omega⟩⟩
       case measure => simp [intOf]; have := HPn.out; omega
      ·have hp2 : p2 = k + m := by have := HP2.out; omega
       have q1 : decide ((p2 : Int) < (s.size : Int)) = false := decide_eq_false (by have := HM.out; omega)
       have q2 : decide (p2 < s.size) = false := decide_eq_false (by have := HM.out; omega)
       have q3 : decide ((p2 : Int) < (k : Int)) = false := decide_eq_false (by omega)
       have q4 : decide (p2 < k) = false := decide_eq_false (by omega)
       have q5 : decide ((s.size : Int) ≤ (p2 : Int)) = true := decide_eq_true (by have := HM.out; omega)
       have q6 : decide (s.size ≤ p2) = true := decide_eq_true (by have := HM.out; omega)
       have q7 : (0 ≤ (m : Int)) = True := eq_true (by omega)
       have q8 : ((m : Int) < 17) = True := eq_true (by have := HM.out; omega)
       have q9 := HT.out.t1 m (by have := HM.out; omega)
       have q10 : IntKind.u64.wrap ((p2 : Int) - (k : Int)) = (m : Int) := by rw [IntKind.wrap_u64]; have := HM.out; have := HS.out; omega
       have hv : dvc D s k (p2 - k) = dvc D s k m := by rw [hp2, Nat.add_sub_cancel_left]
       rw [hv]
       have hq := fun W => run_float_arith (P := Tryz.prog) W .quo 28 .f64 _ _ _ HQ.out
       generalize dvc D s k m = D2 at *
       generalize pt m = pm at *
       clear hp hp2 hv
       go_wp2
       all_goals
        go_ret2
        exact ⟨by first | (rw [sg_t]; rfl) | (rw [sg_f]; rfl), Below.refl _ _⟩
    ·as_aux_lemma =>
     obtain ⟨k, hk⟩ : ∃ k, k = p + 1 := ⟨_, rfl⟩
     have HK := sd hk
     have hp := HE.out
     have hka : k ≤ a ∧ a ≤ k + 1 := by rcases c1 with ⟨h, _⟩ | ⟨_, h⟩ <;> omega
     have f1 : decide ((p : Int) < (s.size : Int)) = true := decide_eq_true (by omega)
     have f2 : decide (p < s.size) = true := decide_eq_true (by omega)
     have f3 : (0 ≤ (p : Int)) = True := eq_true (by omega)
     have f4 : ((p : Int) < (s.size : Int)) = True := eq_true (by omega)
     have f5 : decide (48 ≤ bt s (p : Int)) = true := decide_eq_true (by rw [hp]; omega)
     have f6 : decide (bt s (p : Int) ≤ 57) = false := decide_eq_false (by rw [hp]; omega)
     have f7 : decide ((s.size : Int) ≤ (p : Int)) = false := decide_eq_false (by omega)
     have f8 : decide (s.size ≤ p) = false := decide_eq_false (by omega)
     have f9 : (bt s (p : Int) == 46) = false := beq_eq_false_iff_ne.mpr (by rw [hp]; omega)
     have HC := sd (show (bt s (p : Int) == 101) = true ∨ ((bt s (p : Int) == 101) = false ∧ (bt s (p : Int) == 69) = true) by
      rw [hp]
      rcases c2 with h | h
      ·exact .inl (beq_iff_eq.mpr h)
      ·exact .inr ⟨beq_eq_false_iff_ne.mpr (by omega), beq_iff_eq.mpr h⟩)
     have HM := sd (show Dg s a q ∧ a + q = s.size ∧ 1 ≤ q ∧ dvc 0 s a q ≤ 22 ∧ k ≤ a ∧ a ≤ k + 1 from ⟨c4, c5, c3, c6, hka⟩)
     have HQ := sd (show floatBits .mul .f64 (floatOfInt .f64 (D : Int)) (pt (dvc 0 s a q)) = some r by rw [HV.out]; exact c7)
     have HG := sd (show (a = k ∧ (bt s (k : Int) == 43) = false ∧ (bt s (k : Int) == 45) = false) ∨ (a = k + 1 ∧ (bt s (k : Int) == 43) = true ∧ (bt s (k : Int) == 45) = false) by
      have e : k = j + n + 1 := by omega
      rcases c1 with ⟨h, h'⟩ | ⟨h', h⟩
      ·have hd := c4 0 (by omega)
       rw [Nat.add_zero, h, ← e] at hd
       exact .inl ⟨by omega, beq_eq_false_iff_ne.mpr (by omega), beq_eq_false_iff_ne.mpr (by omega)⟩
      ·rw [← e] at h'
       exact .inr ⟨by omega, beq_iff_eq.mpr h', beq_eq_false_iff_ne.mpr (by omega)⟩)
     clear c1 c2 c3 c4 c5 c6 c7 hp hk hka
     rcases HC.out with g1 | ⟨g1, g2⟩
     all_goals
      have f11 : IntKind.u64.wrap ((p : Int) + 1) = (k : Int) := by rw [IntKind.wrap_u64]; have := HS.out; have := HK.out; have := HM.out; omega
      have f19 : decide ((s.size : Int) ≤ (k : Int)) = false := decide_eq_false (by have := HM.out; omega)
      have f20 : decide (s.size ≤ k) = false := decide_eq_false (by have := HM.out; omega)
      have f13 : (0 ≤ (k : Int)) = True := eq_true (by omega)
      have f14 : ((k : Int) < (s.size : Int)) = True := eq_true (by have := HM.out; omega)
      have kx := bt_nat s k
      go_upto_region 64 with (fail)
      generalize floatOfInt .f64 (D : Int) = x0 at *
      have g12 : IntKind.u64.wrap ((k : Int) + 1) = ((k + 1 : Nat) : Int) := by rw [IntKind.wrap_u64]; have := HS.out; have := HM.out; omega
      clear f1 f2 f3 f4 f5 f6 f7 f8 f9 px e3 e3' f11 f19 f20
      rcases HG.out with ⟨g3, g4, g5⟩ | ⟨g3, g4, g5⟩
      ·subst g3
       go_wp2
       clear f13 f14 kx
       go_loop [4, 16] (fun i d => ∃ p3 : Nat, i = .int .u64 (p3 : Int) ∧ d = .int .i16 ((dvc 0 s a (p3 - a) : Nat) : Int) ∧ Aside0 (a ≤ p3 ∧ p3 ≤ a + q)) (fun i _ => s.size - (intOf i).toNat)
       case atStart => exact ⟨a, rfl, by rw [Nat.sub_self]; rfl, ⟨Nat.le_refl _, Nat.le_add_right _ _⟩⟩
       case round =>
        obtain ⟨p3, rfl, rfl, HP3⟩ := hrel
        have px := bt_nat s p3
        by_cases hp : p3 < a + q
        ·obtain ⟨y1, y2, y3, y4, y5, y6, y7, y8, y9, y10⟩ := round_dig HS.out HM.out.1 HP3.out.1 hp (Nat.le_of_eq HM.out.2.1)
         obtain ⟨x1, x2, x3⟩ := sum_i16 (D := dvc 0 s a (p3 - a)) (a := a) HM.out.1 HP3.out.1 hp HM.out.2.2.2.1 rfl
         have HX := sd (next_dig (d0 := 0) HP3.out.1 (of_decide_eq_true y5))
         have HPn := sd (And.intro hp (of_decide_eq_true y2))
         clear y8 hp
         generalize dvc 0 s a (p3 - a) = D3 at *
         go_wp2
         go_round
         case rel => exact ⟨p3 + 1, by go_num, by rw [HX.out], ⟨by have := HP3.out; omega, by have := HPn.out; omega⟩⟩
         case measure => simp [intOf]; have := HPn.out; omega
        ·have hp3 : p3 = a + q := by have := HP3.out; omega
         have q1 : decide ((p3 : Int) < (s.size : Int)) = false := decide_eq_false (by have := HM.out; omega)
         have q2 : decide (p3 < s.size) = false := decide_eq_false (by have := HM.out; omega)
         have q3 : decide ((p3 : Int) ≤ (a : Int)) = false := decide_eq_false (by have := HM.out; omega)
         have q4 : decide (p3 ≤ a) = false := decide_eq_false (by have := HM.out; omega)
         have q5 : decide ((s.size : Int) ≤ (p3 : Int)) = true := decide_eq_true (by have := HM.out; omega)
         have q6 : decide (s.size ≤ p3) = true := decide_eq_true (by have := HM.out; omega)
         have hv : dvc 0 s a (p3 - a) = dvc 0 s a q := by rw [hp3, Nat.add_sub_cancel_left]
         rw [hv]
         have HE3 := sd (show dvc 0 s a q < 23 by have := HM.out; omega)
         have hq := fun W => run_float_arith (P := Tryz.prog) W .mul 28 .f64 _ _ _ HQ.out
         generalize dvc 0 s a q = E3 at *
         have q7 : IntKind.i64.wrap (E3 : Int) = (E3 : Int) := by rw [i64_w]; exact Go.IntWalk.wrap64_in _ (by have := HE3.out; omega)
         clear hp hp3 hv
         cases neg
         all_goals
          go_wp2_with (first | (go_at_call 58; (with_reducible refine (pow_calls E3 HE3.out _ HT.out).mono ?_); rintro e0 W2 ⟨rfl, hb⟩; have HB := sd hb; clear hb; generalize pt E3 = pe at *))
          go_ret2
          exact ⟨by first | (rw [sg_t]; rfl) | (rw [sg_f]; rfl), HB.out⟩
      ·rw [← g3] at g12
       have g15 : decide ((s.size : Int) ≤ (a : Int)) = false := decide_eq_false (by have := HM.out; omega)
       have g16 : decide (s.size ≤ a) = false := decide_eq_false (by have := HM.out; omega)
       have G3 := sd g3
       clear g3
       go_wp2
       clear f13 f14 kx
       go_loop [4, 16] (fun i d => ∃ p3 : Nat, i = .int .u64 (p3 : Int) ∧ d = .int .i16 ((dvc 0 s a (p3 - a) : Nat) : Int) ∧ Aside0 (a ≤ p3 ∧ p3 ≤ a + q)) (fun i _ => s.size - (intOf i).toNat)
       case atStart => exact ⟨a, rfl, by rw [Nat.sub_self]; rfl, ⟨Nat.le_refl _, Nat.le_add_right _ _⟩⟩
       case round =>
        obtain ⟨p3, rfl, rfl, HP3⟩ := hrel
        have px := bt_nat s p3
        by_cases hp : p3 < a + q
        ·obtain ⟨y1, y2, y3, y4, y5, y6, y7, y8, y9, y10⟩ := round_dig HS.out HM.out.1 HP3.out.1 hp (Nat.le_of_eq HM.out.2.1)
         obtain ⟨x1, x2, x3⟩ := sum_i16 (D := dvc 0 s a (p3 - a)) (a := a) HM.out.1 HP3.out.1 hp HM.out.2.2.2.1 rfl
         have HX := sd (next_dig (d0 := 0) HP3.out.1 (of_decide_eq_true y5))
         have HPn := sd (And.intro hp (of_decide_eq_true y2))
         clear y8 hp
         generalize dvc 0 s a (p3 - a) = D3 at *
         go_wp2
         go_round
         case rel => exact ⟨p3 + 1, by go_num, by rw [HX.out], ⟨by have := HP3.out; omega, by have := HPn.out; omega⟩⟩
         case measure => simp [intOf]; have := HPn.out; omega
        ·have hp3 : p3 = a + q := by have := HP3.out; omega
         have q1 : decide ((p3 : Int) < (s.size : Int)) = false := decide_eq_false (by have := HM.out; omega)
         have q2 : decide (p3 < s.size) = false := decide_eq_false (by have := HM.out; omega)
         have q3 : decide ((p3 : Int) ≤ (a : Int)) = false := decide_eq_false (by have := HM.out; omega)
         have q4 : decide (p3 ≤ a) = false := decide_eq_false (by have := HM.out; omega)
         have q5 : decide ((s.size : Int) ≤ (p3 : Int)) = true := decide_eq_true (by have := HM.out; omega)
         have q6 : decide (s.size ≤ p3) = true := decide_eq_true (by have := HM.out; omega)
         have hv : dvc 0 s a (p3 - a) = dvc 0 s a q := by rw [hp3, Nat.add_sub_cancel_left]
         rw [hv]
         have HE3 := sd (show dvc 0 s a q < 23 by have := HM.out; omega)
         have hq := fun W => run_float_arith (P := Tryz.prog) W .mul 28 .f64 _ _ _ HQ.out
         generalize dvc 0 s a q = E3 at *
         have q7 : IntKind.i64.wrap (E3 : Int) = (E3 : Int) := by rw [i64_w]; exact Go.IntWalk.wrap64_in _ (by have := HE3.out; omega)
         clear hp hp3 hv
         cases neg
         all_goals
          go_wp2_with (first | (go_at_call 58; (with_reducible refine (pow_calls E3 HE3.out _ HT.out).mono ?_); rintro e0 W2 ⟨rfl, hb⟩; have HB := sd hb; clear hb; generalize pt E3 = pe at *))
          go_ret2
          exact ⟨by first | (rw [sg_t]; rfl) | (rw [sg_f]; rfl), HB.out⟩
theorem Tab.below {w W : World} (h : Tab w) (hb : Below w.heap.size w W) : Tab W :=
 ⟨fun m hm => (hb.cell (p := ⟨1, m, none⟩) (World.block_lt_of_cell? w _ (h.t1 m hm))).trans (h.t1 m hm),
  (hb.cell (p := ⟨2, 0, none⟩) (World.block_lt_of_cell? w _ h.t2)).trans h.t2,
  fun m hm => (hb.cell (p := ⟨3, m, none⟩) (World.block_lt_of_cell? w _ (h.t3 m hm))).trans (h.t3 m hm)⟩
/-- The text is one of the law's numbers, and its float is x. -/
def LawNum (s : ByteArray) (x : Nat) : Prop := ∃ (neg : Bool) (j n r : Nat), 1 ≤ n ∧ n ≤ 15 ∧ SignAt s neg j ∧ Dg s j n ∧ Shape s j n r ∧ x = sg neg r
theorem ff_num (s : ByteArray) (hs : s.size < 2 ^ 30) (x : Nat) (h : LawNum s x) (w : World) (hT : Tab w) : Calls Tryz.prog 34 #[.string s] w fun e w' => e = .returned (.tuple #[.float .f64 x, .nilIface]) ∧ Below w.heap.size w w' := by
 obtain ⟨neg, j, n, r, h1, h2, h3, h4, h5, rfl⟩ := h
 exact ff_calls s hs neg j n r h1 h2 h3 h4 h5 w hT
set_option maxHeartbeats 4000000 in
set_option maxRecDepth 100000 in
theorem float_num (w : World) (vb vo : Nat) (ss : ByteArray) (h : Va w vb vo 4 ss) (hs : ss.size < 2 ^ 30) (x : Nat) (hx : LawNum ss x) (hT : Tab w) : Calls Tryz.prog 17 #[.pointer (some ⟨vb, vo, none⟩)] w fun e w' => e = .returned (.tuple #[.float .f64 x, .nilIface]) ∧ Below w.heap.size w w' := by
 have H := sd h
 have HS := sd hs
 have HX := sd hx
 have HT := sd hT
 obtain ⟨k4, f4, k3, f3, _⟩ := h
 clear hs hx hT
 go_enter Tryz.func17, Tryz.ntmps17
 go_wp2_with (first | (go_at_call 33; (with_reducible refine (type_same _ vb vo 4 ss H.out rfl).mono ?_); rintro e0 W ⟨rfl, hw⟩; subst hw) | (go_at_call 34; (with_reducible refine (ff_num ss HS.out x HX.out _ HT.out).mono ?_); rintro e0 W2 ⟨rfl, hb⟩; have HB := sd hb; clear hb))
 go_ret2
 exact ⟨rfl, HB.out⟩
theorem parP_num {r : ByteArray} {w w' : World} {pb k : Nat} {e : Ending} (h : ParP r w pb e w') (hn : NumTop r k) : ∃ (vb vo : Nat) (ss : ByteArray), e = .returned (.tuple #[.pointer (some ⟨vb, vo, none⟩), .nilIface]) ∧ Fr w w' pb none 0 ∧ Va w' vb vo 4 ss ∧ ss.size ≤ r.size ∧ bytesOf ss = (bytesOf r).take k := by
 obtain ⟨hf, ⟨vb, vo, t, ss, rfl, h1, h2, h3, h4, _⟩ | ⟨⟨ea, rfl⟩, h⟩⟩ := h
 ·obtain ⟨rfl, h5⟩ := h4 k hn
  exact ⟨vb, vo, ss, rfl, hf, h1, h2, h5⟩
 ·exact absurd hn (h k)
set_option maxHeartbeats 4000000 in
set_option maxRecDepth 100000 in
theorem fj_num (s : ByteArray) (hs : s.size < 2 ^ 30) (x : Nat) (h0 : ∀ r, SkipP s r → 0 < r.size ∧ ∃ k, NumTop r k ∧ ∀ ss, bytesOf ss = (bytesOf r).take k → LawNum ss x) (w : World) (hT : Tab w) :
  Calls Tryz.prog 7 #[.string s] w fun e w' => e = .returned (.tuple #[.float .f64 x, .bool true]) ∧ Below w.heap.size w w' := by
 have HS := sd hs
 have HT := sd hT
 have H0 := sd h0
 clear hs hT h0
 go_enter Tryz.func7, Tryz.ntmps7
 go_wp2_with (first | (go_at_call 16; (with_reducible refine (parse_calls s HS.out (fun r h => (H0.out r h).1) _ _ (pb_new w)).mono ?_); rintro e0 W1 ⟨r, hsk, hpp⟩; obtain ⟨k, hnt, hln⟩ := (H0.out r hsk).2; obtain ⟨vb, vo, ss, rfl, hf, hva, hss, htk⟩ := parP_num hpp hnt; have HB := sd (kq_fr (below_alloc (Below.refl _ w) _) (Nat.le_refl _) hf); have HZ := sd (Nat.lt_of_le_of_lt (Nat.le_trans hss hsk.le) HS.out); have HV := sd hva; have HL := sd (hln ss htk); clear hpp hf hsk hnt hln hss htk hva) | (go_at_call 17; (with_reducible refine (float_num _ vb vo ss HV.out HZ.out x HL.out (HT.out.below HB.out)).mono ?_); rintro e0 W2 ⟨rfl, hk⟩; have HK := sd (below_step HB.out hk); clear hk))
 go_quiet (fail)
 go_wp2
 go_ret2
 exact ⟨rfl, below_draws HK.out _⟩
end Go.Proofs.YtaihmpdhaikfkaaGreatDoor.PFnFjFloat
