/- Part of the proof of the card in text ZF. -/
import Derived.Test.YtdacgdjjdifneaaGreatDoorZA
import Derived.Outline
import Derived.Deep.CutBlock
set_option linter.all false
set_option maxHeartbeats 16000000
set_option maxRecDepth 100000
namespace Go.Proofs.YtdacgdjjdifneaaGreatDoor.PFnGjFlattenOften
open Go.RowKit Go.Proofs.YtdacgdjjdifneaaGreatDoorW.PrintWords Go.Proofs.YtdacgdjjdifneaaGreatDoorW.PrintLast Go.Proofs.YtdacgdjjdifneaaGreatDoorW.PrintMore
theorem pow60 {k : Nat} (h : k ≤ 60) : 2 ^ k ≤ 1152921504606846976 := by
 have := Nat.pow_le_pow_right (n := 2) (by decide) h; exact this
theorem sh_eq {n k : Nat} (hk : k ≤ 60) : (n : Int) / 2 ^ min k 64 = ((n / 2 ^ k : Nat) : Int) := by
 rw [Nat.min_eq_left (by omega), Int.natCast_ediv, Int.natCast_pow]; rfl
theorem sh_lo {n k : Nat} (hk : k ≤ 60) (h : n < 2 ^ k) : ((n : Int) / 2 ^ min k 64 == 0) = true := by
 rw [sh_eq hk, Nat.div_eq_of_lt h]; rfl
theorem sh_hi {n k : Nat} (hk : k ≤ 60) (h : 2 ^ k ≤ n) : ((n : Int) / 2 ^ min k 64 == 0) = false := by
 rw [sh_eq hk]; have : 0 < n / 2 ^ k := Nat.div_pos h (Nat.two_pow_pos k); exact beq_eq_false_iff_ne.mpr (by omega)
theorem rs_read {D : Nat → Int} {nd r n k m : Nat} (hm : m = n * 10 + (D r - 48).toNat) (hk : k ≤ 60) (hnd : nd ≤ 800) (hr : r < nd) (hd : Dgs8 D nd) (hn : n < 10 * 2 ^ k) (hlt : n < 2 ^ k) :
  decide (nd ≤ r) = false ∧ decide ((nd : Int) ≤ (r : Int)) = false ∧ ((0 ≤ (r : Int)) = True) ∧ (((r : Int) < 800) = True) ∧ IntKind.u64.wrap (D r) = D r ∧ IntKind.u64.wrap ((n : Int) * 10) = (n : Int) * 10 ∧ IntKind.u64.wrap ((n : Int) * 10 + D r) = (n : Int) * 10 + D r ∧
  IntKind.u64.wrap ((n : Int) * 10 + D r - 48) = (m : Int) ∧ IntKind.i64.wrap ((r : Int) + 1) = ((r + 1 : Nat) : Int) ∧ wrap64 ((r : Int) + 1) = ((r + 1 : Nat) : Int) := by
 have h1 := hd r hr; have h2 := pow60 hk; refine ⟨decide_eq_false (by omega), decide_eq_false (by omega), eq_true (by omega), eq_true (by omega), ?_, ?_, ?_, ?_, ?_, ?_⟩
 ·rw [IntKind.wrap_u64]; omega
 ·rw [IntKind.wrap_u64]; omega
 ·rw [IntKind.wrap_u64]; omega
 ·rw [IntKind.wrap_u64]; omega
 ·rw [IntKind.wrap_i64]; omega
 ·rw [Go.IntWalk.wrap64_in _ (by omega)]; omega
theorem rs_pad {nd r n k : Nat} (hk : k ≤ 60) (hr : nd ≤ r) (hr2 : r ≤ 1000) (hlt : n < 2 ^ k) (h0 : n ≠ 0) :
  decide (nd ≤ r) = true ∧ decide ((nd : Int) ≤ (r : Int)) = true ∧ ((n : Int) == 0) = false ∧ (n == 0) = false := by
 exact ⟨decide_eq_true hr, decide_eq_true (by omega), beq_eq_false_iff_ne.mpr (by omega), beq_eq_false_iff_ne.mpr h0⟩
theorem rs_ten {r n k m : Nat} (hm : m = n * 10) (hk : k ≤ 60) (hr2 : r ≤ 1000) (hlt : n < 2 ^ k) : IntKind.u64.wrap ((n : Int) * 10) = (m : Int) ∧ IntKind.i64.wrap ((r : Int) + 1) = ((r + 1 : Nat) : Int) ∧ wrap64 ((r : Int) + 1) = ((r + 1 : Nat) : Int) := by
 have h2 := pow60 hk; refine ⟨?_, ?_, ?_⟩
 ·rw [IntKind.wrap_u64]; omega
 ·rw [IntKind.wrap_i64]; omega
 ·rw [Go.IntWalk.wrap64_in _ (by omega)]; omega
theorem mask_eq {k M : Nat} (hk : k ≤ 60) (hM : M = 2 ^ k - 1) : IntKind.u64.wrap (IntKind.u64.wrap (2 ^ min k 64) - 1) = (M : Int) := by
 have h2 := pow60 hk; have hp := Nat.two_pow_pos k; rw [Nat.min_eq_left (by omega), show (2 : Int) ^ k = ((2 ^ k : Nat) : Int) by rw [Int.natCast_pow]; rfl, IntKind.wrap_u64, IntKind.wrap_u64]; generalize 2 ^ k = z at *; omega
theorem dp_eq {dp dq : Int} {r : Nat} (hr : r ≤ 1000) (hdp : -1000000 ≤ dp ∧ dp ≤ 1000000) (h : dq = dp - ((r : Int) - 1)) : wrap64 ((r : Int) - 1) = (r : Int) - 1 ∧ wrap64 (dp - ((r : Int) - 1)) = dq := by
 subst h; exact ⟨Go.IntWalk.wrap64_in _ (by omega), Go.IntWalk.wrap64_in _ (by omega)⟩
theorem dv_facts {D : Nat → Int} {nd r w n k M q m n' : Nat} (hq : q = n / 2 ^ k) (hm : m = n % 2 ^ k) (hn' : n' = m * 10 + (D r - 48).toNat) (hM : M = 2 ^ k - 1) (hk : k ≤ 60) (hnd : nd ≤ 800) (hr : r < nd) (hw : w < 800) (hd : Dgs8 D nd) (hn : n < 10 * 2 ^ k) :
  (n : Int) / 2 ^ min k 64 = (q : Int) ∧ IntKind.u64.wrap ((q : Int) + 48) = (q : Int) + 48 ∧ IntKind.u8.wrap ((q : Int) + 48) = (q : Int) + 48 ∧ ((q : Int) + 48) % 256 = (q : Int) + 48 ∧ Go.bits .and .u64 (n : Int) (M : Int) = (m : Int) ∧
  IntKind.u64.wrap (D r) = D r ∧ IntKind.u64.wrap ((m : Int) * 10) = (m : Int) * 10 ∧ IntKind.u64.wrap ((m : Int) * 10 + D r) = (m : Int) * 10 + D r ∧ IntKind.u64.wrap ((m : Int) * 10 + D r - 48) = (n' : Int) ∧
  wrap64 ((r : Int) + 1) = ((r + 1 : Nat) : Int) ∧ wrap64 ((w : Int) + 1) = ((w + 1 : Nat) : Int) ∧ ((0 ≤ (r : Int)) = True) ∧ (((r : Int) < 800) = True) ∧ ((0 ≤ (w : Int)) = True) ∧ (((w : Int) < 800) = True) ∧ decide ((r : Int) < (nd : Int)) = true ∧ decide (r < nd) = true := by
 have h1 := hd r hr; have h2 := pow60 hk; obtain ⟨hq9, hm2⟩ := run_dig hn; rw [← hq] at hq9; rw [← hm] at hm2; refine ⟨by rw [sh_eq hk, hq], ?_, ?_, ?_, ?_, ?_, ?_, ?_, ?_, ?_, ?_, eq_true (by omega), eq_true (by omega), eq_true (by omega), eq_true (by omega), decide_eq_true (by omega), decide_eq_true hr⟩
 ·rw [IntKind.wrap_u64]; omega
 ·simp [IntKind.wrap, IntKind.bits, IntKind.signed]; omega
 ·omega
 ·rw [bits_and_u64_nat n M (by omega) (by omega), hM, Nat.and_two_pow_sub_one_eq_mod, hm]
 ·rw [IntKind.wrap_u64]; omega
 ·rw [IntKind.wrap_u64]; omega
 ·rw [IntKind.wrap_u64]; omega
 ·rw [IntKind.wrap_u64]; omega
 ·rw [Go.IntWalk.wrap64_in _ (by omega)]; omega
 ·rw [Go.IntWalk.wrap64_in _ (by omega)]; omega
theorem dv3_facts {w n k M q m n' : Nat} (hq : q = n / 2 ^ k) (hm : m = n % 2 ^ k) (hn' : n' = m * 10) (hM : M = 2 ^ k - 1) (hk : k ≤ 60) (hw : w < 800) (h0 : n ≠ 0) (hn : n < 10 * 2 ^ k) :
  (n : Int) / 2 ^ min k 64 = (q : Int) ∧ IntKind.u64.wrap ((q : Int) + 48) = (q : Int) + 48 ∧ IntKind.u8.wrap ((q : Int) + 48) = (q : Int) + 48 ∧ ((q : Int) + 48) % 256 = (q : Int) + 48 ∧ Go.bits .and .u64 (n : Int) (M : Int) = (m : Int) ∧
  IntKind.u64.wrap ((m : Int) * 10) = (n' : Int) ∧ wrap64 ((w : Int) + 1) = ((w + 1 : Nat) : Int) ∧ ((0 ≤ (w : Int)) = True) ∧ (((w : Int) < 800) = True) ∧ decide ((w : Int) < 800) = true ∧ decide (w < 800) = true ∧ decide ((0 : Int) < (n : Int)) = true ∧ decide (0 < n) = true := by
 have h2 := pow60 hk; obtain ⟨hq9, hm2⟩ := run_dig hn; rw [← hq] at hq9; rw [← hm] at hm2; refine ⟨by rw [sh_eq hk, hq], ?_, ?_, ?_, ?_, ?_, ?_, eq_true (by omega), eq_true (by omega), decide_eq_true (by omega), decide_eq_true hw, decide_eq_true (by omega), decide_eq_true (by omega)⟩
 ·rw [IntKind.wrap_u64]; omega
 ·simp [IntKind.wrap, IntKind.bits, IntKind.signed]; omega
 ·omega
 ·rw [bits_and_u64_nat n M (by omega) (by omega), hM, Nat.and_two_pow_sub_one_eq_mod, hm]
 ·rw [IntKind.wrap_u64]; omega
 ·rw [Go.IntWalk.wrap64_in _ (by omega)]; omega
theorem dv4_facts {w n k M q m n' : Nat} (hq : q = n / 2 ^ k) (hm : m = n % 2 ^ k) (hn' : n' = m * 10) (hM : M = 2 ^ k - 1) (hk : k ≤ 60) (hw : ¬ w < 800) (h0 : n ≠ 0) (hn : n < 10 * 2 ^ k) :
  (n : Int) / 2 ^ min k 64 = (q : Int) ∧ Go.bits .and .u64 (n : Int) (M : Int) = (m : Int) ∧ IntKind.u64.wrap ((m : Int) * 10) = (n' : Int) ∧ decide ((w : Int) < 800) = false ∧ decide (w < 800) = false ∧ decide ((0 : Int) < (n : Int)) = true ∧ decide (0 < n) = true := by
 have h2 := pow60 hk; obtain ⟨hq9, hm2⟩ := run_dig hn; rw [← hq] at hq9; rw [← hm] at hm2; refine ⟨by rw [sh_eq hk, hq], ?_, ?_, decide_eq_false (by omega), decide_eq_false hw, decide_eq_true (by omega), decide_eq_true (by omega)⟩
 ·rw [bits_and_u64_nat n M (by omega) (by omega), hM, Nat.and_two_pow_sub_one_eq_mod, hm]
 ·rw [IntKind.wrap_u64]; omega
def Lead (D : Nat → Int) (nd k r n : Nat) : Prop := 1 ≤ r ∧ r ≤ 1000 ∧ n = P D nd r ∧ 2 ^ k ≤ n ∧ n < 10 * 2 ^ k
theorem pad_r {D : Nat → Int} {nd r n k : Nat} (hk : k ≤ 60) (h0 : 1 ≤ Q D nd) (hr : nd ≤ r) (hn : n = P D nd r) (hl : n < 10 * 2 ^ k) : r ≤ nd + 20 := by
 by_cases h : r ≤ nd + 20
 ·exact h
 ·have h1 := pow60 hk; rw [hn, P_ge hr] at hl; have h2 : 10 ^ 21 ≤ 10 ^ (r - nd) := Nat.pow_le_pow_right (by decide) (by omega); have h3 := Nat.mul_le_mul h0 h2; omega
theorem Q_one {D : Nat → Int} {nd : Nat} (h : 49 ≤ D 0) (h1 : 1 ≤ nd) : 1 ≤ Q D nd := by
 obtain ⟨m, rfl⟩ : ∃ m, nd = m + 1 := ⟨nd - 1, by omega⟩
 exact Nat.le_trans (Nat.pow_pos (by decide)) (Q_pos h)
theorem run_zero {D : Nat → Int} {nd k r0 n0 : Nat} (h1 : 1 ≤ r0) (h2 : n0 = P D nd r0) (h3 : 2 ^ k ≤ n0) (h4 : n0 < 10 * 2 ^ k) : Run D D nd k r0 r0 0 n0 :=
 ⟨rfl, h1, by rw [show Q D 0 = 0 from rfl, Nat.zero_mul, Nat.zero_add]; exact h2, h4, fun i hi => absurd hi (Nat.not_lt_zero _), fun _ => h3, fun h => absurd h (Nat.lt_irrefl _), fun _ _ _ => rfl⟩
theorem lead_20 {D : Nat → Int} {nd k r n : Nat} (hk : k ≤ 60) (hnd : 1 ≤ nd) (h0 : 49 ≤ D 0) (h : Lead D nd k r n) : r ≤ 20 ∧ r ≤ nd + 20 := by
 obtain ⟨h1, _, h2, _, h3⟩ := h; have hp := pow60 hk; have h10 : 10 ^ (r - 1) ≤ n := by
  obtain ⟨m, rfl⟩ : ∃ m, r = m + 1 := ⟨r - 1, by omega⟩
  by_cases hr : m + 1 ≤ nd
  ·rw [h2, P_le hr]; exact Q_pos h0
  ·obtain ⟨c, rfl⟩ : ∃ c, nd = c + 1 := ⟨nd - 1, by omega⟩
   rw [h2, P_ge (by omega), show m + 1 - 1 = c + (m + 1 - (c + 1)) by omega, Nat.pow_add]; exact Nat.mul_le_mul_right _ (Q_pos h0)
 by_cases hr : r ≤ 20
 ·exact ⟨hr, by omega⟩
 ·have h20 : 10 ^ 20 ≤ 10 ^ (r - 1) := Nat.pow_le_pow_right (by decide) (by omega); omega
theorem run_w {D E : Nat → Int} {nd k r0 r w n : Nat} (h : Run D E nd k r0 r w n) (h2 : r ≤ nd ∨ w = 0) (hnd : nd ≤ 800) : w ≤ 800 := by
 have := h.rw
 rcases h2 with h2 | h2 <;> omega
theorem st_less {n k m n2 : Nat} (hm : m = n % 2 ^ k) (hn : n2 = m * 10) (h : n ≠ 0) : steps k (k + 2) (intOf (.int .u64 (n2 : Int))).toNat < steps k (k + 2) (intOf (.int .u64 (n : Int))).toNat := by
 show steps k (k + 2) ((n2 : Int)).toNat < steps k (k + 2) ((n : Int)).toNat
 rw [Int.toNat_natCast, Int.toNat_natCast, hn, hm, Nat.mul_comm]; exact steps_less k n h
theorem rs_meas {nd r : Nat} (h : r < nd) : nd - (intOf (.int .i64 ((r + 1 : Nat) : Int))).toNat < nd - (intOf (.int .i64 (r : Int))).toNat := by
 show nd - (((r + 1 : Nat) : Int)).toNat < nd - ((r : Int)).toNat
 omega
theorem ten_meas {n M m : Nat} (hm : m = n * 10) (h : 1 ≤ n) (h2 : n < M) : M - (intOf (.int .u64 (m : Int))).toNat < M - (intOf (.int .u64 (n : Int))).toNat := by
 show M - ((m : Int)).toNat < M - ((n : Int)).toNat
 omega
theorem lead_pos {D : Nat → Int} {nd r n k : Nat} (h : n = P D nd r) (h2 : 2 ^ k ≤ n) : 1 ≤ r := by
 by_cases e : r = 0
 ·subst e; rw [P_le (Nat.zero_le _)] at h; have := Nat.two_pow_pos k; have : Q D 0 = 0 := rfl; omega
 ·omega
theorem rd_next {D : Nat → Int} {nd r n k m : Nat} (hm : m = n * 10 + (D r - 48).toNat) (hr : r < nd) (hd : Dgs8 D nd) (hn : n = P D nd r) (hlt : n < 2 ^ k) : m = P D nd (r + 1) ∧ m < 10 * 2 ^ k := by
 have := hd r hr; refine ⟨by rw [P_next hr, hm, hn], by omega⟩
theorem pad_next {D : Nat → Int} {nd r n k m : Nat} (hm : m = n * 10) (hr : nd ≤ r) (hn : n = P D nd r) (hlt : n < 2 ^ k) : m = P D nd (r + 1) ∧ m < 10 * 2 ^ k := ⟨by rw [P_pad hr, hm, hn], by omega⟩
theorem rs_calls (b : Nat) (D : Nat → Int) (nd k : Nat) (dp : Int) (neg tr : Bool) (hnd0 : 1 ≤ nd) (hnd : nd ≤ 800) (hdg : Dgs8 D nd) (hD0 : 49 ≤ D 0) (hk : 1 ≤ k) (hk2 : k ≤ 60) (hdp : -1000000 ≤ dp ∧ dp ≤ 1000000) (w : World) (h : Dw w b D nd dp neg tr) :
  Calls Tryz.prog 124 #[.pointer (some ⟨b, 0, none⟩), .int .u64 (k : Int)] w fun e w' => e = .returned (.tuple #[]) ∧ Kq w w' b ∧ ∃ (D' : Nat → Int) (n' : Nat) (dp' : Int) (tr' : Bool), Dw w' b D' n' dp' neg tr' ∧ Nrm D' n' ∧ (dp - 20 ≤ dp' ∧ dp' ≤ dp) ∧ (-300 ≤ dp → Sz D' n' dp' * 2 ^ k ≤ Sz D nd dp) := by
 have HN := sd (And.intro hnd0 hnd); have HK := sd (And.intro hk hk2); have HD := sd h; have HG := sd hdg; have HDP := sd hdp; have H0 := sd hD0; have c0 := h.cnd; clear h hnd hnd0 hk hk2 hdg hD0 hdp; go_enter Tryz.func124, Tryz.ntmps124; go_upto_block 0 with (fail)
 go_cut [4, 6] (fun r n wc => ∃ (r0 n0 : Nat), r = .int .i64 (r0 : Int) ∧ n = .int .u64 (n0 : Int) ∧ w = wc ∧ Aside0 (Lead D nd k r0 n0))
 case first =>
  go_wp2; go_loop [4, 6] (fun r n => ∃ (r0 n0 : Nat), r = .int .i64 (r0 : Int) ∧ n = .int .u64 (n0 : Int) ∧ Aside0 (r0 ≤ nd ∧ n0 = P D nd r0 ∧ n0 < 10 * 2 ^ k)) (fun r _ => nd - (intOf r).toNat)
  case atStart => exact ⟨0, 0, rfl, rfl, ⟨Nat.zero_le _, by rw [P_le (Nat.zero_le _)]; rfl, Nat.mul_pos (by decide) (Nat.two_pow_pos k)⟩⟩
  case round =>
   obtain ⟨r0, n0, rfl, rfl, H1⟩ := hrel
   by_cases hlt : n0 < 2 ^ k
   ·have s0 := sh_lo HK.out.2 hlt
    by_cases hr : r0 < nd
    ·obtain ⟨m, hm⟩ : ∃ m : Nat, m = n0 * 10 + (D r0 - 48).toNat := ⟨_, rfl⟩
     have HX := sd (rd_next hm hr HG.out H1.out.2.1 hlt); have HR := sd hr; have cd := HD.out.cd r0 (by have := HN.out; omega); obtain ⟨x1, x2, x3, x4, x5, x6, x7, x8, x9, x10⟩ := rs_read hm HK.out.2 HN.out.2 hr HG.out H1.out.2.2 hlt; clear hlt hr hm; go_wp2; go_round
     case rel => exact ⟨r0 + 1, m, rfl, rfl, ⟨HR.out, HX.out⟩⟩
     case measure => exact rs_meas HR.out
    ·have HR := sd (Nat.le_of_not_lt hr); have HQ := sd (Q_one H0.out HN.out.1); have hn0 : n0 ≠ 0 := by
      have h1 := H1.out.2.1; rw [P_ge (Nat.le_of_not_lt hr)] at h1; have := Nat.mul_le_mul (Q_one H0.out HN.out.1) (Nat.pow_pos (n := r0 - nd) (show 0 < 10 by decide)); omega
     have HZ := sd (Nat.pos_of_ne_zero hn0); obtain ⟨x1, x2, x3, x4⟩ := rs_pad HK.out.2 (Nat.le_of_not_lt hr) (show r0 ≤ 1000 by have := H1.out.1; have := HN.out.2; omega) hlt hn0; clear hn0 hr hlt; go_wp2; clear x1 x2 x3 x4 s0; go_loop [4, 6] (fun r n => ∃ (r1 n1 : Nat), r = .int .i64 (r1 : Int) ∧ n = .int .u64 (n1 : Int) ∧ Aside0 (nd ≤ r1 ∧ n1 = P D nd r1 ∧ n1 < 10 * 2 ^ k ∧ 1 ≤ n1)) (fun _ n => 10 * 2 ^ k - (intOf n).toNat)
     case atStart => exact ⟨r0, n0, rfl, rfl, ⟨HR.out, H1.out.2.1, H1.out.2.2, HZ.out⟩⟩
     case round =>
      obtain ⟨r1, n1, rfl, rfl, H2⟩ := hrel; have HL := sd (pad_r HK.out.2 HQ.out H2.out.1 H2.out.2.1 H2.out.2.2.1)
      by_cases hlt : n1 < 2 ^ k
      ·have s0 := sh_lo HK.out.2 hlt; obtain ⟨m, hm⟩ : ∃ m : Nat, m = n1 * 10 := ⟨_, rfl⟩
       have HX := sd (pad_next hm H2.out.1 H2.out.2.1 hlt); obtain ⟨y1, y2, y3⟩ := rs_ten (r := r1) hm HK.out.2 (show r1 ≤ 1000 by have := HL.out; have := HN.out.2; omega) hlt; have HY := sd hm; clear hlt hm; go_wp2; go_round
       case rel => exact ⟨r1 + 1, m, rfl, rfl, ⟨Nat.le_succ_of_le H2.out.1, HX.out.1, HX.out.2, by have := H2.out.2.2.2; have := HY.out; omega⟩⟩
       case measure => exact ten_meas HY.out H2.out.2.2.2 H2.out.2.2.1
      ·have s0 := sh_hi HK.out.2 (Nat.le_of_not_lt hlt); have HM := sd (Nat.le_of_not_lt hlt); clear hlt; go_wp2; go_meet
       case rel => exact ⟨r1, n1, rfl, rfl, rfl, ⟨by have := H2.out.1; have := HN.out.1; omega, by have := HL.out; have := HN.out.2; omega, H2.out.2.1, HM.out, H2.out.2.2.1⟩⟩
   ·have s0 := sh_hi HK.out.2 (Nat.le_of_not_lt hlt); have HM := sd (Nat.le_of_not_lt hlt); clear hlt; go_wp2; go_meet
    case rel => exact ⟨r0, n0, rfl, rfl, rfl, ⟨lead_pos H1.out.2.1 HM.out, by have := H1.out.1; have := HN.out.2; omega, H1.out.2.1, HM.out, H1.out.2.2⟩⟩
 case rest =>
  obtain ⟨r0, n0, rfl, rfl, rfl, HL⟩ := hcut; have c1 := HD.out.cdp; have f1 := HD.out.fz 801; obtain ⟨M, hM⟩ : ∃ M : Nat, M = 2 ^ k - 1 := ⟨_, rfl⟩
  have HM := sd hM; have hm := mask_eq HK.out.2 hM; obtain ⟨dq, hdq⟩ : ∃ dq : Int, dq = dp - ((r0 : Int) - 1) := ⟨_, rfl⟩
  have HQ := sd hdq; obtain ⟨hd1, hd2⟩ := dp_eq (dp := dp) HL.out.2.1 HDP.out hdq; clear c0 hM hdq; go_wp2; clear hm hd1 hd2 c1 f1; go_loopw [4, 5, 6] (fun r v n wr => ∃ (r1 w1 n1 : Nat) (E : Nat → Int), r = .int .i64 (r1 : Int) ∧ v = .int .i64 (w1 : Int) ∧ n = .int .u64 (n1 : Int) ∧ Aside0 (Kq w wr b ∧ Dw wr b E nd dq neg tr) ∧ Aside0 (Run D E nd k r0 r1 w1 n1 ∧ (r1 ≤ nd ∨ w1 = 0))) (fun r _ _ _ => nd - (intOf r).toNat)
  case atStart => exact ⟨r0, 0, n0, D, rfl, rfl, rfl, ⟨(Kq.refl w b).set _ _, HD.out.setDp dq⟩, ⟨run_zero HL.out.1 HL.out.2.2.1 HL.out.2.2.2.1 HL.out.2.2.2.2, .inr rfl⟩⟩
  case round =>
   obtain ⟨r1, w1, n1, E, rfl, rfl, rfl, H1, H2⟩ := hrel; have c0 := H1.out.2.cnd
   by_cases hr : r1 < nd
   ·have HR := sd hr; have hw : w1 < 800 := by have := H2.out.1.rw; have := H2.out.1.one; have := HN.out; omega
    have cd := H1.out.2.cd r1 (by have := HN.out; omega); rw [H2.out.1.rest r1 (Nat.le_refl _) hr] at cd; have cw := H1.out.2.cd w1 hw; have f0 := H1.out.2.fz w1; have HW := sd hw; obtain ⟨q, hq⟩ : ∃ q : Nat, q = n1 / 2 ^ k := ⟨_, rfl⟩
    obtain ⟨m, hm⟩ : ∃ m : Nat, m = n1 % 2 ^ k := ⟨_, rfl⟩
    obtain ⟨n2, hn2⟩ : ∃ n2 : Nat, n2 = m * 10 + (D r1 - 48).toNat := ⟨_, rfl⟩
    have HST := sd (run_step H2.out.1 hr HG.out); rw [← hq, ← hm, ← hn2] at HST; obtain ⟨y1, y2, y3, y4, y5, y6, y7, y8, y9, y10, y11, y12, y13, y14, y15, y16, y17⟩ := dv_facts hq hm hn2 HM.out HK.out.2 HN.out.2 hr hw HG.out H2.out.1.lt; clear hr hw hq hm hn2; go_wp2; go_roundw
    case rel => exact ⟨r1 + 1, w1 + 1, n2, upd E w1 ((q : Int) + 48), (by first | (rw [y10]; done) | rfl), (by first | (rw [y11]; done) | rfl), (by first | rfl | (rw [y9]; done)), ⟨H1.out.1.set _ _, H1.out.2.setD w1 HW.out _⟩, ⟨HST.out, .inl HR.out⟩⟩
    case measure => first | (rw [y10]; exact rs_meas HR.out) | exact rs_meas HR.out
   ·have HR := sd (Nat.le_of_not_lt hr); have x0 : decide ((r1 : Int) < (nd : Int)) = false := decide_eq_false (by omega); have x0' : decide (r1 < nd) = false := decide_eq_false hr; have HW := sd (run_w H2.out.1 H2.out.2 HN.out.2); clear hr; go_wp2; have R3 := sd (run_3 H2.out.1 HR.out HW.out); clear x0 x0' c0; go_loopw [5, 6] (fun v n wr => ∃ (w1 n1 : Nat) (E : Nat → Int) (tr1 : Bool), v = .int .i64 (w1 : Int) ∧ n = .int .u64 (n1 : Int) ∧ Aside0 (Kq w wr b ∧ Dw wr b E nd dq neg tr1) ∧ Aside0 (Run3 D E nd k r0 w1 n1)) (fun _ n _ => steps k (k + 2) (intOf n).toNat)
    case atStart => exact ⟨w1, n1, E, tr, rfl, rfl, H1, R3⟩
    case round =>
     clear H1 H2 R3 HW HR; obtain ⟨w1, n1, E, tr1, rfl, rfl, H1, R3⟩ := hrel; have c0 := H1.out.2.cnd; have f0 := H1.out.2.fz 800
     by_cases hz : n1 = 0
     ·subst hz; have z0 : ((0 : Nat) : Int) = 0 := rfl; have T3 := sd ((H1.out.2.setNd w1)); have HW := sd R3.out.le; go_wp2_with (first | (go_at_call 122; (with_reducible refine (trim_calls b E w1 dq neg tr1 HW.out _ T3.out).mono ?_); rintro e0 W2 ⟨rfl, hk, m, ht, hd⟩; have HE := sd (And.intro hk (And.intro ht hd)); clear hk ht hd)); go_end0; obtain ⟨h20, hnd20⟩ := lead_20 HK.out.2 HN.out.1 H0.out HL.out; obtain ⟨hnr, hsz⟩ := run_end (dp := dp) R3.out HE.out.2.1 hnd20 HN.out.2; rw [← HQ.out] at hsz; have hd := HE.out.2.2; rw [if_neg (by have := hnr.pos; omega)] at hd; exact ⟨rfl, (H1.out.1.set _ _).then_ HE.out.1, E, m, dq, tr1, hd, hnr, ⟨by have := HQ.out; omega, by have := HQ.out; have := HL.out.1; omega⟩, hsz⟩
     ·have HP := sd (Nat.pos_of_ne_zero hz); obtain ⟨q, hq⟩ : ∃ q : Nat, q = n1 / 2 ^ k := ⟨_, rfl⟩
      obtain ⟨m, hm⟩ : ∃ m : Nat, m = n1 % 2 ^ k := ⟨_, rfl⟩
      obtain ⟨n2, hn2⟩ : ∃ n2 : Nat, n2 = m * 10 := ⟨_, rfl⟩
      have HS := sd (st_less hm hn2 hz)
      by_cases hw : w1 < 800
      ·have HST := sd (run3_step R3.out hw); rw [← hq, ← hm, ← hn2] at HST; have cw := H1.out.2.cd w1 hw; have f1 := H1.out.2.fz w1; have HW := sd hw; obtain ⟨y1, y2, y3, y4, y5, y6, y7, y8, y9, y10, y11, y12, y13⟩ := dv3_facts hq hm hn2 HM.out HK.out.2 hw hz R3.out.lt; clear hw hq hm hn2 hz; go_wp2; go_roundw
       case rel => exact ⟨w1 + 1, n2, upd E w1 ((q : Int) + 48), tr1, (by first | (rw [y7]; done) | rfl), (by first | rfl | (rw [y6]; done)), ⟨H1.out.1.set _ _, H1.out.2.setD w1 HW.out _⟩, HST⟩
       case measure => first | (rw [y6]; exact HS.out) | exact HS.out
      ·have HW := sd (show w1 = 800 by have := R3.out.le; omega); have HST := sd (run3_cut R3.out HW.out); rw [← hm, ← hn2] at HST; obtain ⟨y1, y5, y6, y10, y11, y12, y13⟩ := dv4_facts hq hm hn2 HM.out HK.out.2 hw hz R3.out.lt; have c3 := H1.out.2.ctr; have f3 := H1.out.2.fz 803
       by_cases hq0 : q = 0
       ·subst hq0; have z0 : ((0 : Nat) : Int) = 0 := rfl; rw [z0] at y1; clear hw hq hm hn2 hz; go_wp2; go_roundw
        case rel => exact ⟨w1, n2, E, tr1, rfl, (by first | rfl | (rw [y6]; done)), H1, HST⟩
        case measure => first | (rw [y6]; exact HS.out) | exact HS.out
       ·have q1 : decide ((0 : Int) < (q : Int)) = true := decide_eq_true (by omega); have q2 : decide (0 < q) = true := decide_eq_true (by omega); clear hw hq hm hn2 hz hq0; go_wp2; go_roundw
        case rel => exact ⟨w1, n2, E, true, rfl, (by first | rfl | (rw [y6]; done)), ⟨H1.out.1.set _ _, H1.out.2.setTr true⟩, HST⟩
        case measure => first | (rw [y6]; exact HS.out) | exact HS.out
structure Lc (W : World) : Prop where
 ex : ∃ (ab ao c : Nat), W.cell? ⟨10, 0, none⟩ = some (.slice (some ⟨ab, ao, none⟩) 61 c) ∧ ∀ k, k < 61 → W.cell? ⟨ab, ao + k * 2, none⟩ = some (.int .i64 (cD k : Int)) ∧ W.cell? ⟨ab, ao + k * 2 + 1, none⟩ = some (.string (cS k))
theorem dlt_ge (N nd k : Nat) : cD k ≤ dlt N nd k + 1 := by
 unfold dlt; split <;> omega
theorem ls_gr {c dl : Nat} {P : Prop} (h : c ≤ dl + 1) (g : 1 ≤ dl ∨ P) : 1 ≤ dl ∨ (P ∧ c ≤ 1) := by
 by_cases e : 1 ≤ dl
 ·exact .inl e
 ·exact .inr ⟨g.resolve_left e, by omega⟩
theorem Dw.setNd8 {W : World} {b nd : Nat} {D : Nat → Int} {dp : Int} {neg tr : Bool} (h : Dw W b D nd dp neg tr) : Dw (W.setCell ⟨b, 800, none⟩ (.int .i64 800)) b D 800 dp neg tr := h.setNd 800
theorem dlt_t {N nd k : Nat} (h : true = decide (N * 10 ^ (cS k).size < 5 ^ k * 10 ^ nd)) (hc : CheatOk k) (hk : k ≤ 60) : wrap64 ((cD k : Int) - 1) = ((dlt N nd k : Nat) : Int) := by
 have hone := hc.one; have hlen := hc.len; rw [dlt, if_pos (of_decide_eq_true h.symm), Go.IntWalk.wrap64_in _ (by omega)]; omega
theorem dlt_f {N nd k : Nat} (h : false = decide (N * 10 ^ (cS k).size < 5 ^ k * 10 ^ nd)) : dlt N nd k = cD k := by
 rw [dlt, if_neg (of_decide_eq_false h.symm)]
theorem Dw.cds {W : World} {b nd : Nat} {D : Nat → Int} {dp : Int} {neg tr : Bool} (h : Dw W b D nd dp neg tr) (hnd : nd ≤ 800) : ∀ i, i < nd → W.cell? ⟨b, i, none⟩ = some (.int .u8 (D i)) := fun i hi => h.cd i (by omega)
theorem ls_facts {D : Nat → Int} {r n k s q m c : Nat} (hc : c = (D r - 48).toNat * 2 ^ k) (hs : s = n + c) (hq : q = s / 10) (hm : m = s - 10 * q) (hk : k ≤ 60) (hd : 48 ≤ D r ∧ D r ≤ 57) (hs10 : s < 10 * 2 ^ k) (hr : r < 800) :
  IntKind.u64.wrap (D r) = D r ∧ IntKind.u64.wrap (D r - 48) = D r - 48 ∧ IntKind.u64.wrap ((D r - 48) * 2 ^ min k 64) = (c : Int) ∧ IntKind.u64.wrap ((n : Int) + (c : Int)) = (s : Int) ∧ ((s : Int) / 10) = (q : Int) ∧ IntKind.u64.wrap (q : Int) = (q : Int) ∧ IntKind.u64.wrap (10 * (q : Int)) = 10 * (q : Int) ∧ IntKind.u64.wrap ((s : Int) - 10 * (q : Int)) = (m : Int) ∧
  IntKind.u64.wrap ((m : Int) + 48) = (m : Int) + 48 ∧ IntKind.u8.wrap ((m : Int) + 48) = (m : Int) + 48 ∧ ((m : Int) + 48) % 256 = (m : Int) + 48 ∧ ((0 ≤ (r : Int)) = True) ∧ (((r : Int) < 800) = True) ∧ decide ((0 : Int) ≤ (r : Int)) = true := by
 have h2 := pow60 hk; have hc9 : c ≤ 9 * 2 ^ k := by rw [hc]; exact Nat.mul_le_mul_right _ (by omega)
 have e : (D r - 48) * 2 ^ min k 64 = (c : Int) := by
  rw [Nat.min_eq_left (by omega), hc, Int.natCast_mul, Int.natCast_pow, Int.toNat_of_nonneg (by omega)]; rfl
 rw [e]; refine ⟨?_, ?_, ?_, ?_, ?_, ?_, ?_, ?_, ?_, ?_, ?_, eq_true (by omega), eq_true (by omega), decide_eq_true (by omega)⟩
 ·rw [IntKind.wrap_u64]; omega
 ·rw [IntKind.wrap_u64]; omega
 ·rw [IntKind.wrap_u64]; omega
 ·rw [IntKind.wrap_u64]; omega
 ·omega
 ·rw [IntKind.wrap_u64]; omega
 ·rw [IntKind.wrap_u64]; omega
 ·rw [IntKind.wrap_u64]; omega
 ·rw [IntKind.wrap_u64]; omega
 ·simp [IntKind.wrap, IntKind.bits, IntKind.signed]; omega
 ·omega
theorem ls_down {x : Nat} (h : x ≤ 2000) : wrap64 (x : Int) = (x : Int) ∧ wrap64 ((x : Int) - 1) = (x : Int) - 1 ∧ ((x + 1 : Nat) : Int) - 1 = (x : Int) := by
 refine ⟨Go.IntWalk.wrap64_in _ (by omega), Go.IntWalk.wrap64_in _ (by omega), by omega⟩
theorem ls_in {w : Nat} (h : w < 800) : decide ((w : Int) < 800) = true ∧ decide (w < 800) = true ∧ ((0 ≤ (w : Int)) = True) ∧ (((w : Int) < 800) = True) := ⟨decide_eq_true (by omega), decide_eq_true h, eq_true (by omega), eq_true (by omega)⟩
theorem ls_out {w : Nat} (h : ¬ w < 800) : decide ((w : Int) < 800) = false ∧ decide (w < 800) = false := ⟨decide_eq_false (by omega), decide_eq_false h⟩
theorem ls_meas {r : Nat} : (intOf (.int .i64 ((r : Int) - 1)) + 1).toNat < (intOf (.int .i64 (r : Int)) + 1).toNat := by
 show ((r : Int) - 1 + 1).toNat < ((r : Int) + 1).toNat
 omega
theorem ls_meas2 {n q : Nat} (hq : q = n / 10) (h : 0 < n) : (intOf (.int .u64 (q : Int))).toNat < (intOf (.int .u64 (n : Int))).toNat := by
 show ((q : Int)).toNat < ((n : Int)).toNat
 omega
theorem lt_facts {n k q m : Nat} (hq : q = n / 10) (hm : m = n - 10 * q) (hk : k ≤ 60) (h0 : 0 < n) (hn : n < 2 ^ k) : ((n : Int) / 10) = (q : Int) ∧ IntKind.u64.wrap (q : Int) = (q : Int) ∧ IntKind.u64.wrap (10 * (q : Int)) = 10 * (q : Int) ∧ IntKind.u64.wrap ((n : Int) - 10 * (q : Int)) = (m : Int) ∧
  IntKind.u64.wrap ((m : Int) + 48) = (m : Int) + 48 ∧ IntKind.u8.wrap ((m : Int) + 48) = (m : Int) + 48 ∧ ((m : Int) + 48) % 256 = (m : Int) + 48 ∧ decide ((0 : Int) < (n : Int)) = true ∧ decide (0 < n) = true ∧ q < 2 ^ k := by
 have h2 := pow60 hk; refine ⟨by omega, ?_, ?_, ?_, ?_, ?_, by omega, decide_eq_true (by omega), decide_eq_true h0, by omega⟩
 ·rw [IntKind.wrap_u64]; omega
 ·rw [IntKind.wrap_u64]; omega
 ·rw [IntKind.wrap_u64]; omega
 ·rw [IntKind.wrap_u64]; omega
 ·simp [IntKind.wrap, IntKind.bits, IntKind.signed]; omega
theorem ls_fin {nd dl n2 : Nat} {dp dq : Int} (h : n2 = nd + dl) (h1 : nd ≤ 800) (h2 : dl ≤ 61) (h3 : dq = dp + dl) (h4 : -1000000000 ≤ dp ∧ dp ≤ 1000000000) : wrap64 ((nd : Int) + (dl : Int)) = (n2 : Int) ∧ wrap64 (dp + (dl : Int)) = dq := by
 refine ⟨by rw [Go.IntWalk.wrap64_in _ (by omega)]; omega, by rw [Go.IntWalk.wrap64_in _ (by omega)]; omega⟩
theorem ls_calls (b : Nat) (D : Nat → Int) (nd k : Nat) (dp : Int) (neg tr : Bool) (hN : Nrm D nd) (hk : 1 ≤ k) (hk2 : k ≤ 60) (w : World) (h : Dw w b D nd dp neg tr) (hL : Lc w) (hdp : -1000000000 ≤ dp ∧ dp ≤ 1000000000) :
  Calls Tryz.prog 123 #[.pointer (some ⟨b, 0, none⟩), .int .u64 (k : Int)] w fun e w' => e = .returned (.tuple #[]) ∧ Kq w w' b ∧ ∃ (D' : Nat → Int) (n' : Nat) (dl : Nat) (tr' : Bool), Dw w' b D' n' (dp + (dl : Int)) neg tr' ∧ Nrm D' n' ∧ dl ≤ 61 ∧ (1 ≤ dl ∨ (D 0 < D' 0 ∧ cD k ≤ 1)) := by
 have HD := sd h.drew; have HN := sd hN; have HK := sd (And.intro hk hk2); have HC := sd (cheats k hk hk2); have HP := sd hdp; clear hdp; have c0 := h.cnd; obtain ⟨ab, ao, cc, g0, hg⟩ := hL.ex; obtain ⟨g1, g2⟩ := hg k (by omega); have z1 : ((0 ≤ (k : Int)) = True) := eq_true (by omega); have z2 : (((k : Int) < 61) = True) := eq_true (by omega); have z3 : ((0 ≤ (nd : Int)) = True) := eq_true (by omega); have z4 : (((nd : Int) ≤ 800) = True) := eq_true (by have := hN.le; omega); have z5 : (nd ≤ 800) = True := eq_true hN.le; clear h hL hg hN hk hk2; go_enter Tryz.func123, Tryz.ntmps123; go_upto_region 1 with (fail)
 go_cut [30] (fun t wc => ∃ tb : Bool, t = .bool tb ∧ Aside0 (tb = decide (Q D nd * 10 ^ (cS k).size < 5 ^ k * 10 ^ nd)) ∧ Aside0 (Kq w wc b ∧ Dw wc b D nd dp neg tr))
 case first =>
  go_region_with (first | (go_at_call 146; (with_reducible refine (pl_calls b D nd 800 (cS k) HN.out.le HC.out.le HN.out.dig HC.out.dig (fun _ => HC.out.last) _ (Dw.cds HD.out HN.out.le)).mono ?_); rintro e0 W ⟨rfl, hb⟩; have HW := sd (HD.out.keep hb); have HB := sd (((Kq.refl w b).drew).then_ (Kq.of_below b hb)); clear hb))
  all_goals (go_wp2; go_meet; (case rel => exact ⟨_, rfl, ⟨by rw [HC.out.val]⟩, ⟨HB.out, HW.out⟩⟩))
 case rest =>
  obtain ⟨tb, rfl, HT, HW⟩ := hcut; clear c0 g0 g1 g2 z1 z2 z3 z4 z5; go_upto_if 30 with (fail)
  go_cut [4] (fun d w2 => d = .int .i64 ((dlt (Q D nd) nd k : Nat) : Int) ∧ wc = w2)
  case first =>
   cases tb with
   | true =>
    have e2 := dlt_t HT.out HC.out HK.out.2; go_wp2; go_meet
    case rel => exact ⟨(by first | rfl | rw [e2]), rfl⟩
   | false =>
    have hd := dlt_f HT.out; go_wp2; go_meet
    case rel => exact ⟨by rw [hd], rfl⟩
  case rest =>
   obtain ⟨rfl, rfl⟩ := hcut; have DO := sd (dlt_ok HN.out HC.out); have HJ := sd (dlt_ge (Q D nd) nd k); generalize dlt (Q D nd) nd k = dl at *; have c0 := HW.out.2.cnd; have HL := sd (show nd + dl ≤ 900 ∧ dl ≤ 61 by have := DO.out.2.2.2; have := HC.out.len; have := HC.out.pos; have := HN.out.le; have := HK.out.2; omega); obtain ⟨n2, hn2⟩ : ∃ n2 : Nat, n2 = nd + dl := ⟨_, rfl⟩
   obtain ⟨dq, hdq⟩ : ∃ dq : Int, dq = dp + (dl : Int) := ⟨_, rfl⟩
   have HF := sd (And.intro hn2 hdq); obtain ⟨y1, y2⟩ := ls_fin hn2 HN.out.le (show dl ≤ 61 by have := DO.out.2.2.2; have := HC.out.len; have := HC.out.pos; have := HK.out.2; omega) hdq HP.out; obtain ⟨y3, y4, y5⟩ := ls_down (x := nd) (show nd ≤ 2000 by have := HN.out.le; omega); obtain ⟨X, hX⟩ : ∃ X : Nat, X = Q D nd * 2 ^ k := ⟨_, rfl⟩
   have HX := sd hX; rw [← hX] at DO; clear hn2 hdq hX; go_wp2; clear y3 y5 c0; go_loopw [5, 6, 7] (fun r v n wr => ∃ (r1 w1 n1 : Nat) (E : Nat → Int) (tr1 : Bool), r = .int .i64 ((r1 : Int) - 1) ∧ v = .int .i64 (w1 : Int) ∧ n = .int .u64 (n1 : Int) ∧ Aside0 (Kq w wr b ∧ Dw wr b E nd dp neg tr1) ∧ Aside0 (LR D E nd dl k X r1 w1 n1)) (fun r _ _ _ => (intOf r + 1).toNat)
   case atStart => exact ⟨nd, n2, 0, D, tr, (by first | rfl | (rw [y4]; done)), (by first | rfl | (rw [y1]; done)), rfl, HW, ⟨by rw [HX.out, HF.out.1]; exact lr_start⟩⟩
   case round =>
    obtain ⟨r1, w1, n1, E, tr1, rfl, rfl, rfl, H1, H2⟩ := hrel
    cases r1 with
    | zero =>
     have z0 : decide ((0 : Int) ≤ ((0 : Nat) : Int) - 1) = false := rfl; have z1 : (((0 : Nat) : Int) - 1) = -1 := rfl; go_wp2; have HT := sd (lr_end H2.out); have HB := sd H2.out.lt; clear H2; go_loopw [6, 7] (fun v n wr => ∃ (w1 n1 : Nat) (E : Nat → Int) (tr1 : Bool), v = .int .i64 (w1 : Int) ∧ n = .int .u64 (n1 : Int) ∧ Aside0 (Kq w wr b ∧ Dw wr b E nd dp neg tr1) ∧ Aside0 (LT E nd dl X w1 n1 ∧ n1 < 2 ^ k)) (fun _ n _ => (intOf n).toNat)
     case atStart => exact ⟨w1, n1, E, tr1, rfl, rfl, H1, ⟨HT.out, HB.out⟩⟩
     case round =>
      clear H1 HT HB; obtain ⟨w1, n1, E, tr1, rfl, rfl, H1, H2⟩ := hrel
      by_cases h0 : 0 < n1
      ·have HZ := sd (lt_pos H2.out.1 (by have := DO.out.2.2.1; exact this) h0); obtain ⟨w2, rfl⟩ : ∃ w2, w1 = w2 + 1 := ⟨w1 - 1, by have := HZ.out; omega⟩
       obtain ⟨q, hq⟩ : ∃ q : Nat, q = n1 / 10 := ⟨_, rfl⟩
       obtain ⟨m, hm⟩ : ∃ m : Nat, m = n1 - 10 * q := ⟨_, rfl⟩
       have HS := sd (lt_round H2.out.1 hq hm); have HM := sd (ls_meas2 hq h0); obtain ⟨x5, x6, x7, x8, x9, x10, x11, x12, x13, x14⟩ := lt_facts hq hm HK.out.2 h0 H2.out.2; have HB := sd x14; obtain ⟨v1, v2, v3⟩ := ls_down (x := w2) (show w2 ≤ 2000 by have := H2.out.1.le; have := HL.out; omega); clear v2 v3 x14
       by_cases hw : w2 < 800
       ·have cw := H1.out.2.cd w2 hw; have fw := H1.out.2.fz w2; have HV := sd hw; obtain ⟨t1, t2, t3, t4⟩ := ls_in hw; clear hw hq hm h0; go_wp2; go_roundw
        case rel => exact ⟨w2, q, upd E w2 ((m : Int) + 48), tr1, (by first | rfl | (rw [v1]; done)), rfl, ⟨H1.out.1.set _ _, H1.out.2.setD w2 HV.out _⟩, ⟨lt_next H2.out.1 HS.out.2.2.2 (put_set H2.out.1.put HS.out.2.2.1), HB.out⟩⟩
        case measure => exact HM.out
       ·obtain ⟨t1, t2⟩ := ls_out hw; have HV := sd (Nat.le_of_not_lt hw); have c3 := H1.out.2.ctr; have f3 := H1.out.2.fz 803
        by_cases hm0 : m = 0
        ·subst hm0; have z0 : ((0 : Nat) : Int) = 0 := rfl; rw [z0] at x8 x9 x10 x11; clear hw hq hm h0; go_wp2; go_roundw
         case rel => exact ⟨w2, q, E, tr1, (by first | rfl | (rw [v1]; done)), rfl, H1, ⟨lt_next H2.out.1 HS.out.2.2.2 (put_out H2.out.1.put HV.out), HB.out⟩⟩
         case measure => exact HM.out
        ·have e0 : ((m : Int) == 0) = false := beq_eq_false_iff_ne.mpr (by omega); have e1 : (m == 0) = false := beq_eq_false_iff_ne.mpr hm0; clear hw hq hm hm0 h0; go_wp2; go_roundw
         case rel => exact ⟨w2, q, E, true, (by first | rfl | (rw [v1]; done)), rfl, ⟨H1.out.1.set _ _, H1.out.2.setTr true⟩, ⟨lt_next H2.out.1 HS.out.2.2.2 (put_out H2.out.1.put HV.out), HB.out⟩⟩
         case measure => exact HM.out
      ·obtain rfl : n1 = 0 := by omega
       have c0 := H1.out.2.cnd; have f0 := H1.out.2.fz 800; have c1 := H1.out.2.cdp; have f1 := H1.out.2.fz 801; have HW := H1
       by_cases hb : n2 < 800
       ·have b1 : decide ((800 : Int) ≤ (n2 : Int)) = false := decide_eq_false (by omega); have b2 : decide (800 ≤ n2) = false := decide_eq_false (by omega); have T3 := sd ((H1.out.2.setNd n2).setDp dq); have HV := sd (show min (nd + dl) 800 = n2 by have := HF.out.1; omega); have HV2 := sd (show n2 ≤ 800 by omega); have HK3 := sd ((H1.out.1.set 800 (.int .i64 (n2 : Int))).set 801 (.int .i64 dq)); clear hb h0; go_wp2_with (first | (go_at_call 122; (with_reducible refine (trim_calls b E n2 dq neg tr1 HV2.out _ T3.out).mono ?_); rintro e0 W2 ⟨rfl, hk, m, ht, hd⟩; have HE := sd (And.intro hk (And.intro ht hd)); clear hk ht hd)); go_end0; have ht := HE.out.2.1; rw [← HV.out] at ht; have hlt := H2.out.1; rw [HX.out] at hlt; obtain ⟨hnr, hgr⟩ := lt_end hlt HN.out HK.out.1 (by have := DO.out.2.1; rwa [HX.out] at this) (by have := DO.out.2.2.1; rwa [HX.out] at this) ht; have hd := HE.out.2.2
        rw [if_neg (by have := hnr.pos; omega), HF.out.2] at hd; exact ⟨rfl, HK3.out.then_ HE.out.1, E, m, dl, tr1, hd, hnr, HL.out.2, ls_gr HJ.out hgr⟩
       ·have b1 : decide ((800 : Int) ≤ (n2 : Int)) = true := decide_eq_true (by omega); have b2 : decide (800 ≤ n2) = true := decide_eq_true (by omega); have T3 := sd (((H1.out.2.setNd n2).setNd8).setDp dq); have HV := sd (show min (nd + dl) 800 = 800 by have := HF.out.1; omega); have HK3 := sd (((H1.out.1.set 800 (.int .i64 (n2 : Int))).set 800 (.int .i64 800)).set 801 (.int .i64 dq)); have T4 := sd (H1.out.2.setNd n2); have c4 := T4.out.cnd; have f4 := T4.out.fz 800; have c5 := T4.out.cdp; have T5 := sd ((H1.out.2.setNd n2).setNd8); have f5 := T5.out.fz 801; have c6 := T5.out.cdp; clear hb h0; go_wp2_with (first | (go_at_call 122; (with_reducible refine (trim_calls b E 800 dq neg tr1 (Nat.le_refl _) _ T3.out).mono ?_); rintro e0 W2 ⟨rfl, hk, m, ht, hd⟩; have HE := sd (And.intro hk (And.intro ht hd)); clear hk ht hd)); go_end0; have ht := HE.out.2.1; rw [← HV.out] at ht; have hlt := H2.out.1
        rw [HX.out] at hlt; obtain ⟨hnr, hgr⟩ := lt_end hlt HN.out HK.out.1 (by have := DO.out.2.1; rwa [HX.out] at this) (by have := DO.out.2.2.1; rwa [HX.out] at this) ht; have hd := HE.out.2.2; rw [if_neg (by have := hnr.pos; omega), HF.out.2] at hd; exact ⟨rfl, HK3.out.then_ HE.out.1, E, m, dl, tr1, hd, hnr, HL.out.2, ls_gr HJ.out hgr⟩
    | succ r =>
     have HR := sd (show r < 800 ∧ r < nd ∧ 1 ≤ w1 ∧ w1 ≤ 900 by have := H2.out.le; have := H2.out.rw; have := HN.out.le; have := HL.out; omega); obtain ⟨w2, rfl⟩ : ∃ w2, w1 = w2 + 1 := ⟨w1 - 1, by have := HR.out; omega⟩
     obtain ⟨c, hc⟩ : ∃ c : Nat, c = (D r - 48).toNat * 2 ^ k := ⟨_, rfl⟩
     obtain ⟨s, hs⟩ : ∃ s : Nat, s = n1 + c := ⟨_, rfl⟩
     obtain ⟨q, hq⟩ : ∃ q : Nat, q = s / 10 := ⟨_, rfl⟩
     obtain ⟨m, hm⟩ : ∃ m : Nat, m = s - 10 * q := ⟨_, rfl⟩
     have HS := sd (lr_round H2.out HN.out.dig (by rw [hs, hc]) hq hm); obtain ⟨x1, x2, x3, x4, x5, x6, x7, x8, x9, x10, x11, x12, x13, x14⟩ := ls_facts hc hs hq hm HK.out.2 (HN.out.dig r HR.out.2.1) HS.out.1 HR.out.1; obtain ⟨v1, v2, v3⟩ := ls_down (x := w2) (show w2 ≤ 2000 by have := HR.out; omega); obtain ⟨u1, u2, u3⟩ := ls_down (x := r) (show r ≤ 2000 by have := HR.out; omega); have cr := H1.out.2.cd r HR.out.1; rw [H2.out.un r (Nat.lt_succ_self r)] at cr; clear v2 v3 u1; rw [u3]
     by_cases hw : w2 < 800
     ·have cw := H1.out.2.cd w2 hw; have fw := H1.out.2.fz w2; have HV := sd hw; obtain ⟨t1, t2, t3, t4⟩ := ls_in hw; clear hw hc hs hq hm; go_wp2; go_roundw
      case rel => exact ⟨r, w2, q, upd E w2 ((m : Int) + 48), tr1, (by first | rfl | (rw [u2]; done)), (by first | rfl | (rw [v1]; done)), rfl, ⟨H1.out.1.set _ _, H1.out.2.setD w2 HV.out _⟩, ⟨lr_next H2.out HS.out.2.2.2.2.1 HS.out.2.2.2.2.2.1 (fun i hi => upd_ne (by have := HS.out.2.2.2.2.2.2; omega)) (put_set H2.out.put HS.out.2.2.2.1)⟩⟩
      case measure => first | exact ls_meas | (rw [u2]; exact ls_meas)
     ·obtain ⟨t1, t2⟩ := ls_out hw; have HV := sd (Nat.le_of_not_lt hw); have c3 := H1.out.2.ctr; have f3 := H1.out.2.fz 803
      by_cases hm0 : m = 0
      ·subst hm0; have z0 : ((0 : Nat) : Int) = 0 := rfl; rw [z0] at x8 x9 x10 x11; clear hw hc hs hq hm; go_wp2; go_roundw
       case rel => exact ⟨r, w2, q, E, tr1, (by first | rfl | (rw [u2]; done)), (by first | rfl | (rw [v1]; done)), rfl, H1, ⟨lr_next H2.out HS.out.2.2.2.2.1 HS.out.2.2.2.2.2.1 (fun i hi => rfl) (put_out H2.out.put HV.out)⟩⟩
       case measure => first | exact ls_meas | (rw [u2]; exact ls_meas)
      ·have e0 : ((m : Int) == 0) = false := beq_eq_false_iff_ne.mpr (by omega); have e1 : (m == 0) = false := beq_eq_false_iff_ne.mpr hm0; clear hw hc hs hq hm hm0; go_wp2; go_roundw
       case rel => exact ⟨r, w2, q, E, true, (by first | rfl | (rw [u2]; done)), (by first | rfl | (rw [v1]; done)), rfl, ⟨H1.out.1.set _ _, H1.out.2.setTr true⟩, ⟨lr_next H2.out HS.out.2.2.2.2.1 HS.out.2.2.2.2.2.1 (fun i hi => rfl) (put_out H2.out.put HV.out)⟩⟩
       case measure => first | exact ls_meas | (rw [u2]; exact ls_meas)
theorem Kq.cell {w w' : World} {b : Nat} (h : Kq w w' b) {p : Addr} (h1 : p.block < w.heap.size) (h2 : p.block ≠ b) : w'.cell? p = w.cell? p := World.cell?_of_block (w := w) (h.blk p.block h1 h2)
structure Lb (W : World) (b : Nat) : Prop where
 ex : ∃ (ab ao c : Nat), (10 < W.heap.size ∧ 10 ≠ b ∧ ab < W.heap.size ∧ ab ≠ b) ∧ W.cell? ⟨10, 0, none⟩ = some (.slice (some ⟨ab, ao, none⟩) 61 c) ∧ ∀ k, k < 61 → W.cell? ⟨ab, ao + k * 2, none⟩ = some (.int .i64 (cD k : Int)) ∧ W.cell? ⟨ab, ao + k * 2 + 1, none⟩ = some (.string (cS k))
theorem Lb.lc {W : World} {b : Nat} (h : Lb W b) : Lc W := by
 obtain ⟨ab, ao, c, _, h1, h2⟩ := h.ex; exact ⟨ab, ao, c, h1, h2⟩
theorem Lb.keep {w w' : World} {b : Nat} (h : Lb w b) (k : Kq w w' b) : Lb w' b := by
 obtain ⟨ab, ao, c, ⟨z1, z2, z3, z4⟩, h1, h2⟩ := h.ex; have hs := k.size; refine ⟨ab, ao, c, ⟨by omega, z2, by omega, z4⟩, by rw [k.cell z1 z2]; exact h1, fun i hi => ?_⟩; obtain ⟨g1, g2⟩ := h2 i hi; exact ⟨by rw [k.cell z3 z4]; exact g1, by rw [k.cell z3 z4]; exact g2⟩
theorem sl_facts {k : Nat} (h : 1 ≤ k) (h2 : k ≤ 60) : decide ((0 : Int) < (k : Int)) = true ∧ decide (0 < k) = true ∧ decide ((60 : Int) < (k : Int)) = false ∧ decide (60 < k) = false ∧ IntKind.u64.wrap (k : Int) = (k : Int) := by
 refine ⟨decide_eq_true (by omega), decide_eq_true (by omega), decide_eq_false (by omega), decide_eq_false (by omega), ?_⟩; rw [IntKind.wrap_u64]; omega
theorem shl_calls (b : Nat) (D : Nat → Int) (nd k : Nat) (dp : Int) (neg tr : Bool) (hN : Nrm D nd) (hk : 1 ≤ k) (hk2 : k ≤ 60) (w : World) (h : Dw w b D nd dp neg tr) (hL : Lc w) (hdp : -1000000000 ≤ dp ∧ dp ≤ 1000000000) :
  Calls Tryz.prog 98 #[.pointer (some ⟨b, 0, none⟩), .int .i64 (k : Int)] w fun e w' => e = .returned (.tuple #[]) ∧ Kq w w' b ∧ ∃ (D' : Nat → Int) (n' : Nat) (dl : Nat) (tr' : Bool), Dw w' b D' n' (dp + (dl : Int)) neg tr' ∧ Nrm D' n' ∧ dl ≤ 61 ∧ (1 ≤ dl ∨ (D 0 < D' 0 ∧ cD k ≤ 1)) := by
 have HN := sd hN; have HK := sd (And.intro hk hk2); have HD := sd h; have HL := sd hL; have HP := sd hdp; have c0 := h.cnd; have x0 : ((nd : Int) == 0) = false := beq_eq_false_iff_ne.mpr (by have := hN.pos; omega); have x0' : (nd == 0) = false := beq_eq_false_iff_ne.mpr (by have := hN.pos; omega); obtain ⟨x1, x2, x3, x4, x5⟩ := sl_facts hk hk2; clear hN hk hk2 h hL hdp; go_enter Tryz.func98, Tryz.ntmps98; go_wp2; go_loopw [1] (fun v wr => v = .int .i64 (k : Int) ∧ wr = w) (fun _ _ => 0)
 case atStart => exact ⟨rfl, rfl⟩
 case round =>
  obtain ⟨rfl, rfl⟩ := hrel; go_wp2_with (first | (go_at_call 123; (with_reducible refine (ls_calls b D nd k dp neg tr HN.out HK.out.1 HK.out.2 _ HD.out HL.out HP.out).mono ?_); rintro e0 W2 ⟨rfl, hk, hr⟩; have HE := sd (And.intro hk hr); clear hk hr)); go_end0; exact ⟨rfl, HE.out.1, HE.out.2⟩
theorem rs60 (b : Nat) (D : Nat → Int) (nd : Nat) (dp : Int) (neg tr : Bool) (hN : Nrm D nd) (hdp : -1000000 ≤ dp ∧ dp ≤ 1000000) (w : World) (h : Dw w b D nd dp neg tr) :
  Calls Tryz.prog 124 #[.pointer (some ⟨b, 0, none⟩), .int .u64 60] w fun e w' => e = .returned (.tuple #[]) ∧ Kq w w' b ∧ ∃ (D' : Nat → Int) (n' : Nat) (dp' : Int) (tr' : Bool), Dw w' b D' n' dp' neg tr' ∧ Nrm D' n' ∧ (dp - 20 ≤ dp' ∧ dp' ≤ dp) ∧ (-300 ≤ dp → Sz D' n' dp' * 2 ^ 60 ≤ Sz D nd dp) :=
 rs_calls b D nd 60 dp neg tr hN.pos hN.le hN.dig hN.lead (by decide) (by decide) hdp w h
theorem sr_facts {m : Nat} (h : 1 ≤ m) (h2 : m ≤ 200000) : decide ((m : Int) < 0) = false ∧ decide (0 < m) = true := by
 exact ⟨decide_eq_false (by omega), decide_eq_true (by omega)⟩
theorem sr_loop {j : Nat} (h2 : j ≤ 200000) (h : 60 < j) : decide ((60 : Int) < (j : Int)) = true ∧ decide (60 < j) = true ∧ wrap64 (-(j : Int) + 60) = -((j - 60 : Nat) : Int) := by
 refine ⟨decide_eq_true (by omega), decide_eq_true h, ?_⟩; rw [Go.IntWalk.wrap64_in _ (by omega)]; omega
theorem sr_last {j : Nat} (h : 1 ≤ j) (h2 : j ≤ 60) : decide ((60 : Int) < (j : Int)) = false ∧ decide (60 < j) = false ∧ wrap64 (j : Int) = (j : Int) ∧ IntKind.u64.wrap (j : Int) = (j : Int) ∧ wrap64 (- -(j : Int)) = (j : Int) := by
 refine ⟨decide_eq_false (by omega), decide_eq_false (by omega), Go.IntWalk.wrap64_in _ (by omega), ?_, ?_⟩
 ·rw [IntKind.wrap_u64]; omega
 ·rw [Int.neg_neg]; exact Go.IntWalk.wrap64_in _ (by omega)
theorem neg_meas {j : Nat} (h : 60 < j) : (-(intOf (.int .i64 (-((j - 60 : Nat) : Int))))).toNat < (-(intOf (.int .i64 (-(j : Int))))).toNat := by
 show (- -((j - 60 : Nat) : Int)).toNat < (- -(j : Int)).toNat
 omega
theorem shr_calls (b : Nat) (D : Nat → Int) (nd m : Nat) (dp : Int) (neg tr : Bool) (hN : Nrm D nd) (hm : 1 ≤ m) (hm2 : m ≤ 40000) (hdp : -100000 ≤ dp ∧ dp ≤ 100000) (w : World) (h : Dw w b D nd dp neg tr) :
  Calls Tryz.prog 98 #[.pointer (some ⟨b, 0, none⟩), .int .i64 (-(m : Int))] w fun e w' => e = .returned (.tuple #[]) ∧ Kq w w' b ∧ ∃ (D' : Nat → Int) (n' : Nat) (dp' : Int) (tr' : Bool), Dw w' b D' n' dp' neg tr' ∧ Nrm D' n' ∧ (dp - 20 * m - 20 ≤ dp' ∧ dp' ≤ dp) ∧ (m ≤ 60 → dp - 20 ≤ dp' ∧ (-300 ≤ dp → Sz D' n' dp' * 2 ^ m ≤ Sz D nd dp)) := by
 have HN := sd hN; have HM := sd (And.intro hm hm2); have HD := sd h; have HP := sd hdp; have c0 := h.cnd; have x0 : ((nd : Int) == 0) = false := beq_eq_false_iff_ne.mpr (by have := hN.pos; omega); have x0' : (nd == 0) = false := beq_eq_false_iff_ne.mpr (by have := hN.pos; omega); obtain ⟨x1, x2⟩ := sr_facts (m := m) hm (by omega); clear hN hm hm2 h hdp; go_enter Tryz.func98, Tryz.ntmps98; go_wp2; clear c0 x0 x0' x1 x2; go_loopw [1] (fun v wr => ∃ (j : Nat) (D1 : Nat → Int) (nd1 : Nat) (dp1 : Int) (tr1 : Bool), v = .int .i64 (-(j : Int)) ∧ Aside0 (1 ≤ j ∧ j ≤ m) ∧ Aside0 (Kq w wr b ∧ Dw wr b D1 nd1 dp1 neg tr1 ∧ Nrm D1 nd1) ∧ Aside0 ((dp - 20 * ((m - j : Nat) : Int) ≤ dp1 ∧ dp1 ≤ dp) ∧ (m ≤ 60 → j = m ∧ D1 = D ∧ nd1 = nd ∧ dp1 = dp))) (fun v _ => (-(intOf v)).toNat)
 case atStart => exact ⟨m, D, nd, dp, tr, rfl, ⟨HM.out.1, Nat.le_refl _⟩, ⟨Kq.refl w b, HD.out, HN.out⟩, ⟨by omega, fun _ => ⟨rfl, rfl, rfl, rfl⟩⟩⟩
 case round =>
  obtain ⟨j, D1, nd1, dp1, tr1, rfl, H1, H2, H3⟩ := hrel
  by_cases hj : 60 < j
  ·obtain ⟨y1, y2, y3⟩ := sr_loop (by have := H1.out; have := HM.out; omega) hj; have HJ := sd hj; have HB := sd (show -1000000 ≤ dp1 ∧ dp1 ≤ 1000000 by have := HP.out; have := H3.out.1; have := HM.out; omega); clear hj; go_wp2_with (first | (go_at_call 124; (with_reducible refine (rs60 b D1 nd1 dp1 neg tr1 H2.out.2.2 HB.out _ H2.out.2.1).mono ?_); rintro e0 W2 ⟨rfl, hk, hr⟩; have HE := sd (And.intro hk hr); clear hk hr)); go_roundw
   case rel =>
    obtain ⟨D2, nd2, dp2, tr2, h1, h2, h3, h4⟩ := HE.out.2; exact ⟨j - 60, D2, nd2, dp2, tr2, (by first | rfl | (rw [y3]; done)), ⟨by have := HJ.out; have := H1.out; omega⟩, ⟨H2.out.1.then_ HE.out.1, h1, h2⟩, ⟨by have := H3.out.1; have := HJ.out; have := H1.out; omega, fun hm => by have := HJ.out; have := H1.out; omega⟩⟩
   case measure => first | exact neg_meas HJ.out | (rw [y3]; exact neg_meas HJ.out)
  ·have HJ := sd (show j ≤ 60 by omega); obtain ⟨y1, y2, y3, y4, y5⟩ := sr_last H1.out.1 HJ.out; have HB := sd (show -1000000 ≤ dp1 ∧ dp1 ≤ 1000000 by have := HP.out; have := H3.out.1; have := HM.out; omega); clear hj; go_wp2_with (first | (go_at_call 124; (with_reducible refine (rs_calls b D1 nd1 j dp1 neg tr1 H2.out.2.2.pos H2.out.2.2.le H2.out.2.2.dig H2.out.2.2.lead H1.out.1 HJ.out HB.out _ H2.out.2.1).mono ?_); rintro e0 W2 ⟨rfl, hk, hr⟩; have HE := sd (And.intro hk hr); clear hk hr)); go_end0; obtain ⟨D2, nd2, dp2, tr2, h1, h2, h3, h4⟩ := HE.out.2; refine ⟨rfl, H2.out.1.then_ HE.out.1, D2, nd2, dp2, tr2, h1, h2, by have := H3.out.1; have := H1.out; omega, fun hm => ?_⟩; obtain ⟨e1, e2, e3, e4⟩ := H3.out.2 hm; subst e1 e2 e3 e4; exact ⟨h3.1, h4⟩
end Go.Proofs.YtdacgdjjdifneaaGreatDoor.PFnGjFlattenOften
