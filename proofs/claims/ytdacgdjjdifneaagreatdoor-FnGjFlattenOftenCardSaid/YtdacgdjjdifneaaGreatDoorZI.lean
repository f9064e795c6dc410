/- Part of the proof of the card in text ZF. -/
import Derived.Test.YtdacgdjjdifneaaGreatDoorZE
import Derived.Laws.FloatArith
import Derived.Test.YtdacgdjjdifneaaGreatDoorZC
import Derived.Laws.Externs
import Derived.Outline
import Derived.Deep.CutBlock
set_option linter.all false
set_option maxHeartbeats 16000000
set_option maxRecDepth 100000
namespace Go.Proofs.YtdacgdjjdifneaaGreatDoor.PFnGjFlattenOften
open Go.RowKit Go.Proofs.YtdacgdjjdifneaaGreatDoorW.PrintWords Go.Proofs.YtdacgdjjdifneaaGreatDoorW.PrintLast Go.Proofs.YtdacgdjjdifneaaGreatDoorW.PrintMore
def infB : ByteArray := ⟨#[105, 110, 102, 105, 110, 105, 116, 121]⟩
theorem cp_calls (s : ByteArray) (hs : s.size ≤ 65536) (hc : ∀ i, i < s.size → NumC (bt s (i : Int))) (w : World) :
  Calls Tryz.prog 148 #[.string s, .string infB] w fun e w' => e = .returned (.int .i64 0) ∧ w' = w := by
 have HS := sd hs; have HC := sd hc; clear hc hs; have hi : infB = ⟨#[105, 110, 102, 105, 110, 105, 116, 121]⟩ := rfl; have ib : ∀ h : 0 < (⟨#[105, 110, 102, 105, 110, 105, 116, 121]⟩ : ByteArray).size, ((⟨#[105, 110, 102, 105, 110, 105, 116, 121]⟩ : ByteArray)[0]'h).toNat = 105 := fun _ => rfl
 by_cases h0 : s = ByteArray.empty
 ·subst h0; go_enter Tryz.func148, Tryz.ntmps148; go_wp2; go_loopw [6] (fun i wr => i = .int .i64 0 ∧ wr = w) (fun _ _ => 0)
  case atStart => exact ⟨rfl, rfl⟩
  case round =>
   obtain ⟨rfl, rfl⟩ := hrel; go_wp2; go_ret; exact ⟨rfl, rfl⟩
 ·have hp := size_pos h0; have HN := sd (HC.out 0 hp); obtain ⟨x1, x2, x3, x4, x5, x6, x7, x8, x9, x10⟩ := str_facts hp HS.out; have x11 : ∀ h : 0 < s.size, ((s[0]'h).toNat : Int) = bt s 0 := x10; have HP := sd hp; have e1 : (0 < s.size) = True := eq_true hp; have hc := HN.out; rw [show ((0 : Nat) : Int) = 0 from rfl] at hc; clear x1 x2 x3 x4 x5 x6 x7 x8 x9 x10 hp; generalize bt s 0 = c at *
  by_cases h69 : c = 69
  ·subst h69
   skip
   go_enter Tryz.func148, Tryz.ntmps148; go_wp2
   all_goals
    go_loopw [6] (fun i wr => i = .int .i64 0 ∧ wr = w) (fun _ _ => 0)
    case atStart => exact ⟨rfl, rfl⟩
    case round =>
     obtain ⟨rfl, rfl⟩ := hrel; go_wp2; go_ret; exact ⟨rfl, rfl⟩
  ·have y0 : (c != 105) = true := bne_iff_ne.mpr (by unfold NumC at hc; omega)
   by_cases h65 : 65 ≤ c
   ·have y1 : decide (65 ≤ c) = true := decide_eq_true h65; have y2 : decide (c ≤ 90) = false := decide_eq_false (by unfold NumC at hc; omega); clear h65 hc h69; go_enter Tryz.func148, Tryz.ntmps148; go_wp2
    all_goals
     go_loopw [6] (fun i wr => i = .int .i64 0 ∧ wr = w) (fun _ _ => 0)
     case atStart => exact ⟨rfl, rfl⟩
     case round =>
      obtain ⟨rfl, rfl⟩ := hrel; go_wp2; go_ret; exact ⟨rfl, rfl⟩
   ·have y1 : decide (65 ≤ c) = false := decide_eq_false h65; clear h65 hc h69; go_enter Tryz.func148, Tryz.ntmps148; go_wp2
    all_goals
     go_loopw [6] (fun i wr => i = .int .i64 0 ∧ wr = w) (fun _ _ => 0)
     case atStart => exact ⟨rfl, rfl⟩
     case round =>
      obtain ⟨rfl, rfl⟩ := hrel; go_wp2; go_ret; exact ⟨rfl, rfl⟩
theorem bt_cut (s : ByteArray) (a b i : Nat) (h : i < (s.extract a b).size) : bt (s.extract a b) (i : Int) = bt s ((a + i : Nat) : Int) := by
 have h2 : a + i < s.size := by rw [ByteArray.size_extract] at h; omega
 rw [← bt_c (s.extract a b) i h, ← bt_c s (a + i) h2]; simp [ByteArray.getElem_extract]
theorem cut1_num {s : ByteArray} (hc : ∀ i, i < s.size → NumC (bt s (i : Int))) (h1 : 1 ≤ s.size) : ∀ i, i < (s.extract 1 s.size).size → NumC (bt (s.extract 1 s.size) (i : Int)) := by
 intro i hi; rw [bt_cut s 1 s.size i hi]; rw [ByteArray.size_extract] at hi; exact hc (1 + i) (by omega)
theorem sp_calls (s : ByteArray) (hs : s.size ≤ 65536) (hc : ∀ i, i < s.size → NumC (bt s (i : Int))) (w : World) :
  Calls Tryz.prog 129 #[.string s] w fun e w' => e = .returned (.tuple #[.float .f64 0, .int .i64 0, .bool false]) ∧ w' = w := by
 have HS := sd hs; have HC := sd hc; clear hc hs
 by_cases h0 : s = ByteArray.empty
 ·subst h0; go_enter Tryz.func129, Tryz.ntmps129; go_wp2; go_ret3; exact ⟨rfl, rfl⟩
 have hp := size_pos h0; have HP := sd hp; have HN := sd (HC.out 0 hp); have e0 : decide (s = ByteArray.empty) = false := decide_eq_false h0; have e1 : (0 < s.size) = True := eq_true hp; have e2 : (s = ByteArray.empty) = False := eq_false h0; have e3 : ((s.size : Int) == 0) = false := beq_eq_false_iff_ne.mpr (by omega); have e4 : ((1 : Int) ≤ (s.size : Int)) = True := eq_true (by omega); have e5 : (1 ≤ s.size) = True := eq_true hp; have x11 : ∀ h : 0 < s.size, ((s[0]'h).toNat : Int) = bt s 0 := bt_c s 0; have hc := HN.out; rw [show ((0 : Nat) : Int) = 0 from rfl] at hc; generalize bt s 0 = c at *; have y1 : (c == 105) = false := beq_eq_false_iff_ne.mpr (by unfold NumC at hc; omega); have y2 : (c == 73) = false := beq_eq_false_iff_ne.mpr (by unfold NumC at hc; omega); have y3 : (c == 110) = false := beq_eq_false_iff_ne.mpr (by unfold NumC at hc; omega)
 have y4 : (c == 78) = false := beq_eq_false_iff_ne.mpr (by unfold NumC at hc; omega); clear hp h0 hc
 by_cases h43 : c = 43 ∨ c = 45
 ·have HT := sd (cut1_num HC.out HP.out); have HZ := sd (show (s.extract 1 s.size).size ≤ 65536 by rw [ByteArray.size_extract]; have := HS.out; omega)
  rcases h43 with rfl | rfl
  ·go_enter Tryz.func129, Tryz.ntmps129; go_wp2_with (first | (go_at_call 148; (refine (cp_calls _ HZ.out HT.out _).mono ?_); rintro e0 W2 ⟨rfl, rfl⟩))
   all_goals (go_ret3; exact ⟨rfl, rfl⟩)
  ·go_enter Tryz.func129, Tryz.ntmps129; go_wp2_with (first | (go_at_call 148; (refine (cp_calls _ HZ.out HT.out _).mono ?_); rintro e0 W2 ⟨rfl, rfl⟩))
   all_goals (go_ret3; exact ⟨rfl, rfl⟩)
 ·have y5 : (c == 43) = false := beq_eq_false_iff_ne.mpr (fun e => h43 (.inl e)); have y6 : (c == 45) = false := beq_eq_false_iff_ne.mpr (fun e => h43 (.inr e)); clear h43; go_enter Tryz.func129, Tryz.ntmps129; go_wp2
  all_goals (go_ret3; exact ⟨rfl, rfl⟩)
open Ieee
def FN (x : Nat) : Prop := x % 9223372036854775808 ≤ 9218868437227405312
def NZ (y : Nat) : Prop := ∃ s m i, double.read y = .number s m i ∧ m ≠ 0
theorem sw_eq : double.signWeight = 9223372036854775808 := by decide
theorem ir_eq : double.infRung = 9218868437227405312 := by decide
theorem fn_read {x : Nat} (h : FN x) : (∃ s m i, double.read x = .number s m i) ∨ ∃ s, double.read x = .infinity s := by
 unfold FN at h; unfold Format.read; rw [sw_eq, ir_eq]; dsimp only
 split
 ·exact .inl ⟨_, _, _, rfl⟩
 ·split
  ·exact .inl ⟨_, _, _, rfl⟩
  ·split
   ·exact .inr ⟨_, rfl⟩
   ·omega
theorem fn_word (neg : Bool) {r : Nat} (h : r ≤ 9218868437227405312) : FN (double.word neg r) := by
 unfold FN Format.word; rw [sw_eq]
 cases neg <;> simp <;> omega
theorem fn_nearest (neg : Bool) (mag : Nat) (place : Int) : FN (double.nearest neg mag place) := by
 unfold Format.nearest
 split
 ·exact fn_word neg (Nat.zero_le _)
 ·refine fn_word neg ?_; rw [ir_eq]; exact Nat.min_le_right _ _
theorem fn_inf (neg : Bool) : FN (double.word neg double.infRung) := fn_word neg (by rw [ir_eq]; exact Nat.le_refl _)
theorem fn_mul {x y : Nat} (h : FN x) (k : NZ y) : ∃ r, floatBits .mul .f64 x y = some r ∧ FN r := by
 obtain ⟨t, n, j, hy, hn⟩ := k
 show ∃ r, double.mul x y = some r ∧ FN r
 unfold Format.mul; rw [hy]
 rcases fn_read h with ⟨s, m, i, hx⟩ | ⟨s, hx⟩
 ·rw [hx]; exact ⟨_, rfl, fn_nearest _ _ _⟩
 ·rw [hx]; simp only [Datum.product, hn, if_false]; exact ⟨_, rfl, fn_inf _⟩
theorem fn_quo {x y : Nat} (h : FN x) (k : NZ y) : ∃ r, floatBits .quo .f64 x y = some r ∧ FN r := by
 obtain ⟨t, n, j, hy, hn⟩ := k
 show ∃ r, double.div x y = some r ∧ FN r
 unfold Format.div; rw [hy]
 rcases fn_read h with ⟨s, m, i, hx⟩ | ⟨s, hx⟩
 ·rw [hx]; simp only [Datum.quotient, hn, if_false]; exact ⟨_, rfl, fn_nearest _ _ _⟩
 ·rw [hx]; exact ⟨_, rfl, fn_inf _⟩
theorem fn_int (n : Int) : FN (floatOfInt .f64 n) := fn_nearest _ _ _
theorem fn_neg {x : Nat} (h : FN x) : FN (Op.negFloat .f64 x) := by
 have e : Op.negFloat .f64 x = x ^^^ 2 ^ 63 := rfl; unfold FN at *; rw [e, show (9223372036854775808 : Nat) = 2 ^ 63 by rfl, Nat.xor_mod_two_pow]
 simpa using h
theorem un_neg {P : Program} (x : Nat) (W : World) : (Op.unary .neg (.float .f64 x)).run P W = .ok (.float .f64 (Op.negFloat .f64 x)) W := rfl
theorem cl144 (x y : Int) (w : World) : Calls Tryz.prog 144 #[.int .u64 x, .int .u64 y] w fun e w' => (∃ a b, e = .returned (.tuple #[.int .u64 a, .int .u64 b])) ∧ w' = w := by
 go_enter Tryz.func144, Tryz.ntmps144; go_wp2; go_ret2; exact ⟨⟨_, _, rfl⟩, rfl⟩
theorem cl112 (x : Int) (w : World) : Calls Tryz.prog 112 #[.int .i64 x] w fun e w' => (∃ a, e = .returned (.int .i64 a)) ∧ w' = w := by
 go_enter Tryz.func112, Tryz.ntmps112; go_wp2; go_ret; exact ⟨⟨_, rfl⟩, rfl⟩
theorem cl117 (x : Int) (w : World) : Calls Tryz.prog 117 #[.int .u64 x] w fun e w' => (∃ a, e = .returned (.int .u64 a)) ∧ w' = w := by
 go_enter Tryz.func117, Tryz.ntmps117; go_wp2; go_ret; exact ⟨⟨_, rfl⟩, rfl⟩
theorem cl120 (x : Int) (w : World) : Calls Tryz.prog 120 #[.int .u64 x] w fun e w' => (∃ a, e = .returned (.int .u64 a)) ∧ w' = w := by
 go_enter Tryz.func120, Tryz.ntmps120; go_wp2; go_ret; exact ⟨⟨_, rfl⟩, rfl⟩
def b2i (x : Bool) : Int := if x then 1 else 0
theorem cl138 (x : Bool) (w : World) : Calls Tryz.prog 138 #[.bool x] w fun e w' => e = .returned (.int .u64 (b2i x)) ∧ w' = w := by
 cases x with
 | true =>
  go_enter Tryz.func138, Tryz.ntmps138; go_wp2; go_ret; exact ⟨rfl, rfl⟩
 | false =>
  go_enter Tryz.func138, Tryz.ntmps138; go_wp2; go_ret; exact ⟨rfl, rfl⟩
theorem cl119 (x : Bool) (w : World) : Calls Tryz.prog 119 #[.bool x] w fun e w' => e = .returned (.int .i64 (b2i x)) ∧ w' = w := by
 cases x with
 | true =>
  go_enter Tryz.func119, Tryz.ntmps119; go_wp2; go_ret; exact ⟨rfl, rfl⟩
 | false =>
  go_enter Tryz.func119, Tryz.ntmps119; go_wp2; go_ret; exact ⟨rfl, rfl⟩
theorem run139 (n : Int) (W : World) : (callFunc 139 #[.int .u64 n]).run Tryz.prog W = .ok (.value (.float .f64 n.toNat)) W := by
 rw [run_callFunc_extern Tryz.func139 (by kernel_rfl) (by kernel_rfl) (by kernel_rfl) (e := Extern.MathFloatBits.float64frombits) (by kernel_rfl)]; rfl
def ErrI (v : Value) : Prop := v = .nilIface ∨ v = .iface 107 (.int .i64 1) ∨ v = .iface 107 (.int .i64 2)
theorem cl153 (m e : Int) (w : World) : Calls Tryz.prog 153 #[.int .u64 m, .int .i64 e] w fun r w' => (∃ f v, r = .returned (.tuple #[.float .f64 f, v]) ∧ ErrI v) ∧ w' = w := by
 have hf := run139; go_enter Tryz.func153, Tryz.ntmps153; go_wp2
 all_goals (go_ret2; exact ⟨⟨_, _, rfl, by first | exact .inl rfl | exact .inr (.inl rfl)⟩, rfl⟩)
theorem and63 (n : Int) : ∃ k : Nat, Go.bits .and .i64 n 63 = (k : Int) ∧ k ≤ 63 := by
 have h63 : (BitVec.ofInt 64 63).toNat = 2 ^ 6 - 1 := by decide
 have key : (BitVec.ofInt 64 n &&& BitVec.ofInt 64 63).toNat = (n % ((2 ^ 64 : Nat) : Int)).toNat % 2 ^ 6 := by
  rw [BitVec.toNat_and, BitVec.toNat_ofInt, h63, Nat.and_two_pow_sub_one_eq_mod]
 refine ⟨(n % ((2 ^ 64 : Nat) : Int)).toNat % 2 ^ 6, ?_, by omega⟩
 show IntKind.i64.wrap ((BitVec.ofInt 64 n &&& BitVec.ofInt 64 63).toNat : Nat) = _
 rw [key, IntKind.wrap_i64]; omega
structure Sk (W : World) (b : Nat) : Prop where
 ex : ∃ (x y z : Int) (cur : Array Value) (t : TypeId), W.heap[b]? = some (.cells cur t (0, 0)) ∧ cur.size = 3 ∧ cur[0]? = some (.int .u64 x) ∧ cur[1]? = some (.int .u64 y) ∧ cur[2]? = some (.int .i64 z)
theorem Sk.get {W : World} {b : Nat} (h : Sk W b) : ∃ x y z, W.cell? ⟨b, 0, none⟩ = some (.int .u64 x) ∧ W.cell? ⟨b, 1, none⟩ = some (.int .u64 y) ∧ W.cell? ⟨b, 2, none⟩ = some (.int .i64 z) ∧ ∀ i, W.frozen? ⟨b, i, none⟩ = false := by
 obtain ⟨x, y, z, cur, t, h1, h2, h3, h4, h5⟩ := h.ex; exact ⟨x, y, z, by rw [blk_cell h1]; exact h3, by rw [blk_cell h1]; exact h4, by rw [blk_cell h1]; exact h5, fun i => blk_frozen h1 i⟩
theorem Sk.set0 {W : World} {b : Nat} (h : Sk W b) (v : Int) : Sk (W.setCell ⟨b, 0, none⟩ (.int .u64 v)) b := by
 obtain ⟨x, y, z, cur, t, h1, h2, h3, h4, h5⟩ := h.ex; exact ⟨v, y, z, _, t, blk_set h1 0 _, by rw [Array.size_setIfInBounds]; exact h2, by rw [Array.getElem?_setIfInBounds_self_of_lt (by omega)], by rw [Array.getElem?_setIfInBounds_ne (by omega)]; exact h4, by rw [Array.getElem?_setIfInBounds_ne (by omega)]; exact h5⟩
theorem Sk.set1 {W : World} {b : Nat} (h : Sk W b) (v : Int) : Sk (W.setCell ⟨b, 1, none⟩ (.int .u64 v)) b := by
 obtain ⟨x, y, z, cur, t, h1, h2, h3, h4, h5⟩ := h.ex; exact ⟨x, v, z, _, t, blk_set h1 1 _, by rw [Array.size_setIfInBounds]; exact h2, by rw [Array.getElem?_setIfInBounds_ne (by omega)]; exact h3, by rw [Array.getElem?_setIfInBounds_self_of_lt (by omega)], by rw [Array.getElem?_setIfInBounds_ne (by omega)]; exact h5⟩
theorem Sk.set2 {W : World} {b : Nat} (h : Sk W b) (v : Int) : Sk (W.setCell ⟨b, 2, none⟩ (.int .i64 v)) b := by
 obtain ⟨x, y, z, cur, t, h1, h2, h3, h4, h5⟩ := h.ex; exact ⟨x, y, v, _, t, blk_set h1 2 _, by rw [Array.size_setIfInBounds]; exact h2, by rw [Array.getElem?_setIfInBounds_ne (by omega)]; exact h3, by rw [Array.getElem?_setIfInBounds_ne (by omega)]; exact h4, by rw [Array.getElem?_setIfInBounds_self_of_lt (by omega)]⟩
structure P10 (W : World) : Prop where
 ex : ∀ q, q < 696 → ∃ h l : Int, W.cell? ⟨9, q * 2, none⟩ = some (.int .u64 h) ∧ W.cell? ⟨9, q * 2 + 1, none⟩ = some (.int .u64 l)
theorem p10_facts {p : Int} (h : -345 ≤ p) (h2 : p ≤ 310) : ∃ q : Nat, q < 696 ∧ wrap64 (p - -348) = (q : Int) ∧ wrap64 (p + 348) = (q : Int) ∧ ((0 ≤ (q : Int)) = True) ∧ (((q : Int) < 696) = True) ∧ ((q < 696) = True) := by
 refine ⟨(p + 348).toNat, by omega, ?_, ?_, eq_true (by omega), eq_true (by omega), eq_true (by omega)⟩
 ·rw [Go.IntWalk.wrap64_in _ (by omega)]; omega
 ·rw [Go.IntWalk.wrap64_in _ (by omega)]; omega
theorem cl111 (b : Nat) (x p y : Int) (hp : -345 ≤ p ∧ p ≤ 310) (w : World) (h : Sk w b) (hP : P10 w) (hb : b ≠ 9) :
  Calls Tryz.prog 111 #[.pointer (some ⟨b, 0, none⟩), .int .i64 x, .int .i64 p, .int .i64 y] w fun e w' => e = .returned (.tuple #[]) ∧ Kq w w' b ∧ Sk w' b := by
 obtain ⟨q, hq, x1, x2, x3, x4, x5⟩ := p10_facts hp.1 hp.2; obtain ⟨ph, pl, p0, p1⟩ := hP.ex q hq; obtain ⟨s0, s1, s2, c0, c1, c2, cf⟩ := h.get; have f0 := cf 0; have f1 := cf 1; have f2 := cf 2; have hb9 : (b = 9) = False := eq_false hb; have hb8 : (9 = b) = False := eq_false (Ne.symm hb); have H := sd h; clear cf hb hp h hP; go_enter Tryz.func111, Tryz.ntmps111; go_wp2; go_end0; exact ⟨rfl, (((Kq.refl w b).set _ _).set _ _).set _ _, ((H.out.set0 _).set1 _).set2 _⟩
theorem cl113 (b : Nat) (x : Int) (w : World) (h : Sk w b) : Calls Tryz.prog 113 #[.int .u64 x, .pointer (some ⟨b, 0, none⟩)] w fun e w' => (∃ r, e = .returned (.int .u64 r)) ∧ Below w.heap.size w w' := by
 obtain ⟨s0, s1, s2, c0, c1, c2, cf⟩ := h.get; clear cf h; go_enter Tryz.func113, Tryz.ntmps113; go_upto_region 3 with (first | (go_at_call 144; (with_reducible refine (cl144 _ _ _).mono ?_); rintro e0 W2 ⟨⟨x1, y1, rfl⟩, rfl⟩))
 obtain ⟨k, hk, hk2⟩ := and63 s2; rw [hk]; have k1 : (0 ≤ (k : Int)) = True := eq_true (by omega); have k2 : ((k : Int).toNat) = k := Int.toNat_natCast k; clear hk hk2; go_wp2_with (first | (go_at_call 144; (with_reducible refine (cl144 _ _ _).mono ?_); rintro e0 W2 ⟨⟨x1, y1, rfl⟩, rfl⟩) | (go_at_call 138; (with_reducible refine (cl138 _ _).mono ?_); rintro e0 W2 ⟨rfl, rfl⟩))
 ·go_ret; exact ⟨⟨_, rfl⟩, Below.refl _ _⟩
 ·go_quiet (first | (go_at_call 138; exact Calls.quiet_of_same (cl138 _ _))); go_wp2; go_ret; exact ⟨⟨_, rfl⟩, pw_below_drewN (Below.refl _ _) _⟩
theorem u8_facts (y : Int) : (0 ≤ IntKind.u8.wrap y) = True ∧ (IntKind.u8.wrap y < 256) = True ∧ IntKind.u8.wrap y = ((IntKind.u8.wrap y).toNat : Int) := by
 have : 0 ≤ IntKind.u8.wrap y ∧ IntKind.u8.wrap y < 256 := by simp [IntKind.wrap, IntKind.bits, IntKind.signed]; omega
 exact ⟨eq_true this.1, eq_true this.2, by omega⟩
theorem len_fin (K : Nat) (hK : K ≤ 56) (n : Nat) (hn : n ≤ 8) : ∃ b : Nat, Ending.returned (Value.int .i64 (wrap64 ((K : Int) + wrap64 (n : Int)))) = .returned (.int .i64 (b : Int)) ∧ b ≤ 64 := by
 refine ⟨K + n, ?_, by omega⟩; rw [Go.IntWalk.wrap64_in (n : Int) (by omega), Go.IntWalk.wrap64_in _ (by omega)]; rfl
theorem len_fin0 (n : Nat) (hn : n ≤ 8) : ∃ b : Nat, Ending.returned (Value.int .i64 (wrap64 (wrap64 (n : Int)))) = .returned (.int .i64 (b : Int)) ∧ b ≤ 64 := by
 refine ⟨n, ?_, by omega⟩; rw [Go.IntWalk.wrap64_in (n : Int) (by omega), Go.IntWalk.wrap64_in _ (by omega)]
theorem ba_le {T : ByteArray} (hT : ∀ b ∈ T.data.toList, b.toNat ≤ 8) (i : Nat) (h : i < T.size) : (T[i]'h).toNat ≤ 8 :=
 hT _ (Array.mem_toList_iff.mpr (Array.getElem_mem h))
theorem cl91 (x : Int) (h : 0 ≤ x ∧ x < 18446744073709551616) (w : World) : Calls Tryz.prog 91 #[.int .u64 x] w fun e w' => (∃ b : Nat, e = .returned (.int .i64 (b : Int)) ∧ b ≤ 64) ∧ w' = w := by
 have f1 := fun y => (u8_facts y).1; have f2 := fun y => (u8_facts y).2.1; go_enter Tryz.func91, Tryz.ntmps91; go_wp2
 all_goals go_ret
 all_goals first | exact ⟨len_fin0 _ (ba_le (by decide +kernel) _ _), rfl⟩ | exact ⟨len_fin 8 (by decide) _ (ba_le (by decide +kernel) _ _), rfl⟩ | exact ⟨len_fin 16 (by decide) _ (ba_le (by decide +kernel) _ _), rfl⟩ | exact ⟨len_fin 24 (by decide) _ (ba_le (by decide +kernel) _ _), rfl⟩ | exact ⟨len_fin 32 (by decide) _ (ba_le (by decide +kernel) _ _), rfl⟩ | exact ⟨len_fin 40 (by decide) _ (ba_le (by decide +kernel) _ _), rfl⟩ | exact ⟨len_fin 48 (by decide) _ (ba_le (by decide +kernel) _ _), rfl⟩ | exact ⟨len_fin 56 (by decide) _ (ba_le (by decide +kernel) _ _), rfl⟩
theorem P10.keep {w w' : World} (h : P10 w) (hb : Below w.heap.size w w') : P10 w' := ⟨fun q hq => by
 obtain ⟨a, b, h1, h2⟩ := h.ex q hq; exact ⟨a, b, (hb.cell (World.block_lt_of_cell? _ _ h1)).trans h1, (hb.cell (World.block_lt_of_cell? _ _ h2)).trans h2⟩⟩
theorem P10.lt {w : World} (h : P10 w) : 9 < w.heap.size := by
 obtain ⟨a, b, h1, h2⟩ := h.ex 0 (by decide); exact World.block_lt_of_cell? _ _ h1
theorem alloc_bel (w : World) : Below w.heap.size w (w.alloc (.cells #[.int .u64 0, .int .u64 0, .int .i64 0] 146)) := below_alloc (Below.refl _ _) _
theorem alloc_lt (w : World) : w.heap.size < (w.alloc (.cells #[.int .u64 0, .int .u64 0, .int .i64 0] 146)).heap.size := blk_lt (blk_new w _)
theorem alloc_sk (w : World) : Sk (w.alloc (.cells #[.int .u64 0, .int .u64 0, .int .i64 0] 146)) w.heap.size :=
 ⟨0, 0, 0, _, _, blk_new w _, rfl, rfl, rfl, rfl⟩
theorem b2i_facts (x : Bool) : (0 ≤ b2i x) = True := by cases x <;> exact eq_true (by decide)
theorem cl141 (d p sg : Int) (hd : 0 ≤ d ∧ d < 18446744073709551616) (hp : -345 ≤ p ∧ p ≤ 310) (w : World) (hP : P10 w) :
  Calls Tryz.prog 141 #[.int .u64 d, .int .i64 p, .int .u64 sg] w fun r w' => (∃ f v, r = .returned (.tuple #[.float .f64 f, v]) ∧ ErrI v) ∧ Below w.heap.size w w' := by
 have HP := sd hP; have HR := sd (And.intro hd hp); have hf := run139; have fb := b2i_facts; clear hP hd hp; go_enter Tryz.func141, Tryz.ntmps141; go_upto_region 3 with (first | (go_at_call 91; (with_reducible refine (cl91 _ HR.out.1 _).mono ?_); rintro e0 W2 ⟨⟨b, rfl, hb⟩, rfl⟩; have HB := sd hb; clear hb) | (go_at_call 112; (with_reducible refine (cl112 _ _).mono ?_); rintro e0 W2 ⟨⟨lp, rfl⟩, rfl⟩))
 have y1 : wrap64 (64 - (b : Int)) = ((64 - b : Nat) : Int) := by rw [Go.IntWalk.wrap64_in _ (by have := HB.out; omega)]; have := HB.out; omega
 have y2 : (0 ≤ ((64 - b : Nat) : Int)) = True := eq_true (by omega); go_upto_region 5 with (fail)
 generalize (if wrap64 (wrap64 (53 - (b : Int)) - lp) < 1074 then wrap64 (wrap64 (53 - (b : Int)) - lp) else 1074) = E at *; have HA := sd (alloc_sk W2); have HP2 := sd (HP.out.keep (alloc_bel W2)); have HN := sd (show W2.heap.size ≠ 9 by have := HP.out.lt; omega); go_upto_region 6 with (first | (go_at_call 111; (with_reducible refine (cl111 _ _ p lp HR.out.2 _ HA.out HP2.out HN.out).mono ?_); rintro e0 W3 ⟨rfl, hk, hs⟩; have HK := sd (And.intro (Kq.below (alloc_bel W2) hk (Nat.le_of_lt (alloc_lt W2)) (Nat.le_refl _)) hs); clear hk hs))
 obtain ⟨s0, s1, s2, c0, c1, c2, cf⟩ := HK.out.2.get; clear cf
 by_cases h64 : 64 ≤ s2
 ·have z1 : decide (64 ≤ s2) = true := decide_eq_true h64; clear h64; go_wp2; go_ret2; exact ⟨⟨_, _, rfl, .inl rfl⟩, HK.out.1⟩
 ·have z1 : decide (64 ≤ s2) = false := decide_eq_false h64; clear h64; go_wp2_with (first | (go_at_call 113; (with_reducible refine (cl113 _ _ _ HK.out.2).mono ?_); rintro e0 W4 ⟨⟨r, rfl⟩, hb⟩; have HB4 := sd hb; clear hb) | (go_at_call 120; (with_reducible refine (cl120 _ _).mono ?_); rintro e0 W5 ⟨⟨r, rfl⟩, rfl⟩) | (go_at_call 119; (with_reducible refine (cl119 _ _).mono ?_); rintro e0 W5 ⟨rfl, rfl⟩) | (go_at_call 117; (with_reducible refine (cl117 _ _).mono ?_); rintro e0 W5 ⟨⟨r, rfl⟩, rfl⟩) | (go_at_call 153; (with_reducible refine (cl153 _ _ _).mono ?_); rintro e0 W5 ⟨⟨f, v, rfl, hv⟩, rfl⟩; have HV := sd hv; clear hv)); go_ret2; exact ⟨⟨_, _, rfl, HV.out⟩, below_step HK.out.1 HB4.out⟩
structure T13 (W : World) : Prop where
 ex : ∃ (tb to_ c : Nat), W.cell? ⟨13, 0, none⟩ = some (.slice (some ⟨tb, to_, none⟩) 23 c) ∧ ∀ k, k < 23 → ∃ x, W.cell? ⟨tb, to_ + k, none⟩ = some (.float .f64 x) ∧ NZ x
theorem ex_a {e : Int} (h : 22 < e) (h2 : e ≤ 37) : ∃ k : Nat, k < 23 ∧ wrap64 (e - 22) = (k : Int) ∧ ((0 ≤ (k : Int)) = True) ∧ (((k : Int) < 23) = True) ∧ ((k < 23) = True) := by
 refine ⟨(e - 22).toNat, by omega, ?_, eq_true (by omega), eq_true (by omega), eq_true (by omega)⟩; rw [Go.IntWalk.wrap64_in _ (by omega)]; omega
theorem ex_b {e : Int} (h : 0 < e) (h2 : e ≤ 22) : ∃ k : Nat, k < 23 ∧ e = (k : Int) ∧ ((0 ≤ (k : Int)) = True) ∧ (((k : Int) < 23) = True) ∧ ((k < 23) = True) := by
 refine ⟨e.toNat, by omega, by omega, eq_true (by omega), eq_true (by omega), eq_true (by omega)⟩
theorem ex_c {e : Int} (h : -22 ≤ e) (h2 : e < 0) : ∃ k : Nat, k < 23 ∧ wrap64 (-e) = (k : Int) ∧ ((0 ≤ (k : Int)) = True) ∧ (((k : Int) < 23) = True) ∧ ((k < 23) = True) := by
 refine ⟨(-e).toNat, by omega, ?_, eq_true (by omega), eq_true (by omega), eq_true (by omega)⟩; rw [Go.IntWalk.wrap64_in _ (by omega)]; omega
theorem cl140 (m e : Int) (neg : Bool) (w : World) (hF : Fi w 8) (hT : T13 w) :
  Calls Tryz.prog 140 #[.int .u64 m, .int .i64 e, .bool neg] w fun r w' => (∃ f ok, r = .returned (.tuple #[.float .f64 f, .bool ok])) ∧ Below w.heap.size w w' := by
 have g0 := hF.m; obtain ⟨tb, to_, tc, t0, ht⟩ := hT.ex; have HT := sd ht; clear hF hT ht; have un := fun x W => un_neg (P := Tryz.prog) x W; go_enter Tryz.func140, Tryz.ntmps140; go_upto_if 15 with (fail)
 ·go_ret2; exact ⟨⟨_, _, rfl⟩, Below.refl _ _⟩
 ·go_upto_if 15 with (fail)
  go_cut [6] (fun f wd => ∃ x, f = .float .f64 x ∧ Aside0 (FN x) ∧ wd = w)
  case first =>
   cases neg with
   | true =>
    go_wp2; go_meet
    case rel => exact ⟨_, rfl, ⟨fn_neg (fn_int _)⟩, rfl⟩
   | false =>
    go_wp2; go_meet
    case rel => exact ⟨_, rfl, ⟨fn_int _⟩, rfl⟩
  case rest =>
   clear g0; obtain ⟨x, rfl, HX, rfl⟩ := hcut
   by_cases h0 : e = 0
   ·have y0 : (e == 0) = true := beq_iff_eq.mpr h0; clear h0; go_wp2; go_ret2; exact ⟨⟨_, _, rfl⟩, Below.refl _ _⟩
   ·have y0 : (e == 0) = false := beq_eq_false_iff_ne.mpr h0
    by_cases hp : 0 < e
    ·have y1 : decide (0 < e) = true := decide_eq_true hp
     by_cases h37 : e ≤ 37
     ·have y2 : decide (e ≤ 37) = true := decide_eq_true h37; go_upto_if 30 with (fail)
      go_cut [1, 6] (fun z f wd => ∃ (k : Nat) (x : Nat), z = .int .i64 (k : Int) ∧ f = .float .f64 x ∧ k < 23 ∧ Aside0 (FN x) ∧ wd = wc)
      case first =>
       by_cases h22 : 22 < e
       ·have y3 : decide (22 < e) = true := decide_eq_true h22; obtain ⟨k, hk, z1, z2, z3, z4⟩ := ex_a h22 h37; obtain ⟨xk, hx, hz⟩ := HT.out k hk; obtain ⟨r, hr, hf⟩ := fn_mul HX.out hz; have HF := sd hf; have hq := fun W => run_float_arith (P := Tryz.prog) W .mul 61 .f64 _ _ _ hr; (try rw [y3]); clear h22 h37 hp h0 hr hf hz; go_wp2; go_meet
        case rel => exact ⟨22, _, rfl, rfl, by decide, HF, rfl⟩
       ·have y3 : decide (22 < e) = false := decide_eq_false h22; obtain ⟨k, hk, z1, z2, z3, z4⟩ := ex_b hp (by omega); (try rw [y3]); go_wp2; go_meet
        case rel => exact ⟨k, x, by first | rfl | rw [z1], rfl, hk, HX, rfl⟩
      case rest =>
       clear y0 y1 y2 h0 hp h37; clear HX; obtain ⟨k, x, rfl, rfl, hk, HX, hw⟩ := hcut; subst hw; obtain ⟨xk, hx, hz⟩ := HT.out k hk; obtain ⟨r, hr, hf⟩ := fn_mul HX.out hz; have hq := fun W => run_float_arith (P := Tryz.prog) W .mul 61 .f64 _ _ _ hr; have z2 : ((0 ≤ (k : Int)) = True) := eq_true (by omega); have z3 : (((k : Int) < 23) = True) := eq_true (by omega); have z4 : ((k < 23) = True) := eq_true hk; clear hk hf hz hr; go_wp2
       all_goals (go_ret2; exact ⟨⟨_, _, rfl⟩, Below.refl _ _⟩)
     ·have y2 : decide (e ≤ 37) = false := decide_eq_false h37; have y3 : decide (e < 0) = false := decide_eq_false (by omega); clear h0 hp h37; go_wp2; go_ret2; exact ⟨⟨_, _, rfl⟩, Below.refl _ _⟩
    ·have y1 : decide (0 < e) = false := decide_eq_false hp; have y3 : decide (e < 0) = true := decide_eq_true (by omega)
     by_cases h22 : -22 ≤ e
     ·have y2 : decide (-22 ≤ e) = true := decide_eq_true h22; obtain ⟨k, hk, z1, z2, z3, z4⟩ := ex_c h22 (by omega); obtain ⟨xk, hx, hz⟩ := HT.out k hk; obtain ⟨r, hr, hf⟩ := fn_quo HX.out hz; have hq := fun W => run_float_arith (P := Tryz.prog) W .quo 61 .f64 _ _ _ hr; clear h0 hp h22 hr hf hz; go_wp2; go_ret2; exact ⟨⟨_, _, rfl⟩, Below.refl _ _⟩
     ·have y2 : decide (-22 ≤ e) = false := decide_eq_false h22; clear h0 hp h22; go_wp2; go_ret2; exact ⟨⟨_, _, rfl⟩, Below.refl _ _⟩
end Go.Proofs.YtdacgdjjdifneaaGreatDoor.PFnGjFlattenOften
