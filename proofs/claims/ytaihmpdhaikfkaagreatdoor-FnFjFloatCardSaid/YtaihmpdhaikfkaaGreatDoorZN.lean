/- Part of the proof that laws.FnFjFloat answers true for every input (the card: text ZF). -/
import Derived.Test.YtaihmpdhaikfkaaGreatDoorZM
import Derived.Test.YtaihmpdhaikfkaaGreatDoorZI
set_option linter.all false
/- The law's numbers: the reference's nearest float is what one division or one multiplication gives. -/
namespace Go.Proofs.YtaihmpdhaikfkaaGreatDoor.PFnFjFloat
open Go.RowKit Go.Proofs.YtaihmpdhaikfkaaGreatDoorW.PrintWords Go.Proofs.YtaihmpdhaikfkaaGreatDoorW.PrintLast Go.Proofs.YtaihmpdhaikfkaaGreatDoorW.PrintMore
open Ieee
theorem exactly_of (a : ByteArray) (hn : a.size ≤ 65536) (k : Nat) (hk : 700000 ≤ k) (sgn ip : List Int) (pt : Bool) (fd fr ex : List Int) (h : NumD (bytesOf a) sgn ip pt fd fr ex) :
  ∃ b, spec_Exactly.f k a = some b ∧ (b = true → ip.length + fd.length ≤ 15 ∧ (ex = [] ∨ (pt = false ∧ ∀ c sg qs, ex = c :: (sg ++ qs) → (sg = [] ∨ sg = [43] ∨ sg = [45]) → qs ≠ [] → Dgs qs → sg ≠ [45] ∧ dvL 0 qs ≤ 22))) := by
 unfold spec_Exactly.f
 obtain ⟨b, hb, _⟩ := isNumber_f a hn k (by omega)
 rw [hb, Option.bind_some]
 cases b with
 | false => exact ⟨false, rfl, fun h => by cases h⟩
 | true =>
 rw [if_pos rfl]
 have hlen : sgn.length + (ip.length + (fr.length + ex.length)) = a.size := by rw [← bytesOf_length, h.eq]; simp [List.length_append]
 have hs1 := sgn_len h.sg
 have hd1 : (bytesOf a).drop sgn.length = ip ++ (fr ++ ex) := by rw [h.eq]; simp
 -- behind the sign
 have main : ∀ k, 600000 ≤ k → ∃ b, spec_Exactly.l0 k a ((sgn.length : Nat) : Int) ((0 : Nat) : Int) false = some b ∧ (b = true → ip.length + fd.length ≤ 15 ∧ (ex = [] ∨ (pt = false ∧ ∀ c sg qs, ex = c :: (sg ++ qs) → (sg = [] ∨ sg = [43] ∨ sg = [45]) → qs ≠ [] → Dgs qs → sg ≠ [45] ∧ dvL 0 qs ≤ 22))) := by
  intro k hk
  obtain ⟨k, rfl⟩ : ∃ m, k = m + 2 * ip.length := ⟨k - 2 * ip.length, by omega⟩
  rw [exa_dig a hn false ip (fr ++ ex) sgn.length k 0 hd1 h.ipd (by omega), Nat.zero_add]
  have hd2 : (bytesOf a).drop (sgn.length + ip.length) = fr ++ ex := drop_app hd1
  rcases h.fr with ⟨rfl, rfl, rfl⟩ | ⟨rfl, hf0, hfd, rfl⟩
  ·exact exa_end a hn false ex (sgn.length + ip.length) k ip.length hd2 (by simp at hlen; omega) h.ex (by omega) (by omega)
  ·have hd2' : (bytesOf a).drop (sgn.length + ip.length) = 46 :: (fd ++ ex) := hd2
   have hd3 := drop_next hd2'
   have hlt := sz_lt hd2'
   simp only [List.length_cons] at hlen
   obtain ⟨k, rfl⟩ : ∃ m, k = m + 2 * fd.length + 1 + 1 := ⟨k - 2 * fd.length - 2, by omega⟩
   have wi := w64_1 (n := sgn.length + ip.length) (by omega)
   have step : spec_Exactly.l0 (k + 2 * fd.length + 1 + 1) a ((sgn.length + ip.length : Nat) : Int) (ip.length : Int) false = spec_Exactly.l0 (k + 2 * fd.length) a ((sgn.length + ip.length + 1 : Nat) : Int) (ip.length : Int) true := by
    simp only [spec_Exactly.l0, spec_Exactly.j1]
    rw [if_pos (by omega), if_pos (by omega), bt_drop hd2', if_neg (by decide), show ((46 : Int) != 69) = true from rfl, if_pos (show true = true from rfl), if_pos (by omega), if_pos (by omega), if_pos rfl, wi]
   rw [step, exa_dig a hn true fd ex _ k ip.length hd3 hfd (by omega)]
   exact exa_end a hn true ex (sgn.length + ip.length + 1 + fd.length) k (ip.length + fd.length) (drop_app hd3) (by omega) h.ex (by omega) (by omega)
 rcases h.sg with hsg | hsg
 ·subst hsg
  exact main k (by omega)
 ·subst hsg
  obtain ⟨k, rfl⟩ : ∃ m, k = m + 2 := ⟨k - 2, by omega⟩
  have hd0 : (bytesOf a).drop 0 = 45 :: (ip ++ (fr ++ ex)) := by rw [List.drop_zero, h.eq]; rfl
  have hlt := sz_lt hd0
  have h45 : bt a 0 = 45 := bt_drop hd0
  have w1 : wrap64 ((0 : Int) + 1) = 1 := by rw [Go.IntWalk.wrap64_in _ (by decide)]; rfl
  have step : spec_Exactly.l0 (k + 2) a 0 0 false = spec_Exactly.l0 k a 1 0 false := by
   simp only [spec_Exactly.l0, spec_Exactly.j1]
   rw [if_pos (by omega), if_pos (by decide), h45, if_neg (by decide), show ((45 : Int) != 69) = true from rfl, if_pos (show true = true from rfl), if_pos (by decide), if_pos (by omega), if_neg (by decide), if_pos rfl, w1]
  rw [step]
  exact main k (by omega)
/-! ### Quotients that are alike -/
theorem cross {K D K' D' : Nat} (hD : 0 < D) (hD' : 0 < D') (h : K * D' = K' * D) (c e : Nat) : (c * D < e * K ↔ c * D' < e * K') ∧ (c * D = e * K ↔ c * D' = e * K') ∧ (c * D ≤ e * K ↔ c * D' ≤ e * K') ∧ (e * K < c * D ↔ e * K' < c * D') := by
 have l : c * D * D' = c * D' * D := Nat.mul_right_comm c D D'
 have r : e * K * D' = e * K' * D := by rw [Nat.mul_assoc, h, Nat.mul_assoc]
 refine ⟨?_, ?_, ?_, ?_⟩
 ·rw [← Fl.cancel_lt hD', l, r, Fl.cancel_lt hD]
 ·rw [← Fl.cancel_eq hD', l, r, Fl.cancel_eq hD]
 ·rw [← Nat.not_lt, ← Nat.not_lt, ← Fl.cancel_lt (a := e * K) hD', l, r, Fl.cancel_lt hD]
 ·rw [← Fl.cancel_lt hD', l, r, Fl.cancel_lt hD]
theorem cross_up {K D K' D' : Nat} (hD : 0 < D) (hD' : 0 < D') (h : K * D' = K' * D) (lo : Nat) : Fl.up lo K D = Fl.up lo K' D' := by
 obtain ⟨h1, h2, _, _⟩ := cross hD hD' h ((2 * Fl.bm lo + 1) * 2 ^ Fl.be lo) 2
 unfold Fl.up
 rw [decide_eq_decide.mpr h1, decide_eq_decide.mpr h2]
theorem bare_cross {l : List Int} {pw p : Int} {d : ByteArray} (t : Nat) (hp : p = pw + t) (hv : dvL 0 l = dvL 0 (bytesOf d) * 10 ^ t) : (dvL 0 l * 10 ^ pw.toNat * 2 ^ 1074) * dOf p = kOf d p * 10 ^ (-pw).toNat := by
 unfold kOf dOf
 rw [hv]
 generalize dvL 0 (bytesOf d) = M
 generalize 2 ^ 1074 = z
 have e : 10 ^ t * 10 ^ pw.toNat * 10 ^ (-p).toNat = 10 ^ p.toNat * 10 ^ (-pw).toNat := by
  rw [← Nat.pow_add, ← Nat.pow_add, ← Nat.pow_add]; congr 1; omega
 generalize 10 ^ t = a at *
 generalize 10 ^ pw.toNat = b at *
 generalize 10 ^ (-p).toNat = c at *
 generalize 10 ^ p.toNat = f at *
 generalize 10 ^ (-pw).toNat = g at *
 calc M * a * b * z * c = M * (a * b * c) * z := by rw [Nat.mul_assoc M a b, Nat.mul_right_comm (M * (a * b)) z c, Nat.mul_assoc M (a * b) c]
  _ = M * f * z * g := by rw [e, ← Nat.mul_assoc, Nat.mul_right_comm]
/-! ### What digits count -/
theorem dvc_eq {s : ByteArray} {a d0 : Nat} {l r : List Int} (hs : (bytesOf s).drop a = l ++ r) (hd : Dgs l) : ∀ k, k ≤ l.length → dvc d0 s a k = dvL d0 (l.take k)
 | 0, _ => by simp [dvc, dvL]
 | k + 1, hk => by
  have ih := dvc_eq (d0 := d0) hs hd k (by omega)
  have hx : (bytesOf s).drop (a + k) = l[k] :: (l.drop (k + 1) ++ r) := by
   rw [← List.drop_drop, hs, List.drop_append_of_le_length (by omega), List.drop_eq_getElem_cons (by omega)]; rfl
  have hc := hd l[k] (List.getElem_mem _)
  rw [dvc, ih, bt_drop hx, List.take_succ_eq_append_getElem (by omega), dvL_app, dvL_cons]
  show _ = dvL (dvL d0 (l.take k)) [] * 10 + dg l[k] 
  have : (l[k] - 48).toNat = dg l[k] := by unfold dg; omega
  rw [this]; rfl
theorem dvc_all {s : ByteArray} {a d0 : Nat} {l r : List Int} (hs : (bytesOf s).drop a = l ++ r) (hd : Dgs l) : dvc d0 s a l.length = dvL d0 l := by
 have := dvc_eq (d0 := d0) hs hd l.length (Nat.le_refl _)
 rwa [List.take_length] at this
theorem dg_all {s : ByteArray} {a : Nat} {l r : List Int} (hs : (bytesOf s).drop a = l ++ r) (hd : Dgs l) : Dg s a l.length := fun k hk => by
 have hx : (bytesOf s).drop (a + k) = l[k] :: (l.drop (k + 1) ++ r) := by
  rw [← List.drop_drop, hs, List.drop_append_of_le_length (by omega), List.drop_eq_getElem_cons (by omega)]; rfl
 rw [bt_drop hx]
 exact hd _ (List.getElem_mem _)
theorem dvL_lt {l : List Int} (hd : Dgs l) (v b : Nat) (hv : v < 10 ^ b) : dvL v l < 10 ^ (b + l.length) := by
 induction l generalizing v b with
 | nil => exact hv
 | cons c l ih =>
  rw [dvL_cons, List.length_cons, show b + (l.length + 1) = b + 1 + l.length by omega]
  exact ih (fun x hx => hd x (List.mem_cons_of_mem _ hx)) _ _ (sg_next hv (dg_dig (hd c List.mem_cons_self)).2)
/-! ### The float -/
theorem int0 : floatOfInt .f64 ((0 : Nat) : Int) = 0 := by kernel_rfl
theorem pow_parts (a b c : Nat) (h : a + b = c) : (2 : Nat) ^ a * 2 ^ b = 2 ^ c := by subst h; exact (Nat.pow_add 2 a b).symm
theorem V_top : ∃ c, 1024 + 1074 = c ∧ Fl.V 9218868437227405312 = 2 ^ c := by
 obtain ⟨c, hc⟩ : ∃ c, 1024 + 1074 = c := ⟨_, rfl⟩
 refine ⟨c, hc, ?_⟩
 unfold Fl.V
 have h1 : Fl.bm 9218868437227405312 = 2 ^ 52 := by decide
 have h2 : Fl.be 9218868437227405312 = 2046 := by decide
 rw [h1, h2]
 exact pow_parts 52 2046 c (by omega)
/-- The reference's search ends at the float r. -/
theorem near_of (k : Nat) (hk : 20000000000000000000 ≤ k) (neg : Bool) (d : ByteArray) (hd : d.size ≤ 65536) (p : Int) (hp : -2000 ≤ p ∧ p ≤ 2000) (K D r : Nat) (hD : 0 < D) (hKD : K * dOf p = kOf d p * D) (hK : K < Fl.V 9218868437227405312 * D)
  (hr : ∀ lo, Fl.V lo * D ≤ K → K < Fl.V (lo + 1) * D → lo + (Fl.up lo K D).toNat = r) : spec_nearest.f k neg d p = some (r : Int) := by
 obtain ⟨lo, h1, h2, h3, h4⟩ := nearest_f k hk neg d hd p hp
 have h5 := (cross hD (dOf_pos p) hKD (Fl.V lo) 1).2.2.1
 have h6 := (cross hD (dOf_pos p) hKD (Fl.V (lo + 1)) 1).2.2.2
 rw [Nat.one_mul, Nat.one_mul] at h5 h6
 rw [← cross_up hD (dOf_pos p) hKD lo, hr lo (h5.mpr h3) ?_] at h1
 ·exact h1
 ·rcases h4 with h4 | h4
  ·rw [h4]; exact hK
  ·exact h6.mpr h4
theorem up_exact {x K : Nat} (h : Fl.V x = K) : Fl.up x K 1 = false := by
 subst h
 unfold Fl.up Fl.V
 rw [Nat.mul_one, Nat.add_mul, Nat.one_mul]
 have hp : 0 < 2 ^ Fl.be x := Nat.two_pow_pos _
 have e : 2 * (Fl.bm x * 2 ^ Fl.be x) = 2 * Fl.bm x * 2 ^ Fl.be x := (Nat.mul_assoc _ _ _).symm
 rw [e]
 generalize 2 * Fl.bm x * 2 ^ Fl.be x = z
 rw [decide_eq_false (by omega), decide_eq_false (by omega)]; rfl
theorem pow_small : (10 : Nat) ^ 37 < 2 ^ 1024 := by
 have : (10 : Nat) ^ 37 < 2 ^ 123 := by decide
 have h : ∀ n, 123 ≤ n → (10 : Nat) ^ 37 < 2 ^ n := fun n hn => Nat.lt_of_lt_of_le this (Nat.pow_le_pow_right (by decide) hn)
 exact h 1024 (by decide)
theorem k_small {K D N : Nat} (hD : 0 < D) (h : K = N * 2 ^ 1074) (hN : N ≤ 10 ^ 37) : K < Fl.V 9218868437227405312 * D := by
 obtain ⟨c, hc, hv⟩ := V_top
 have e := pow_parts 1024 1074 c hc
 have hz := Nat.two_pow_pos 1074
 have hs := Nat.lt_of_le_of_lt hN pow_small
 rw [hv, h, ← e]
 clear h e hv hc
 generalize (2 : Nat) ^ 1074 = z at hz ⊢
 generalize (2 : Nat) ^ 1024 = y at hs ⊢
 exact Nat.lt_of_lt_of_le (Nat.mul_lt_mul_of_pos_right hs hz) (Nat.le_mul_of_pos_right _ hD)
theorem lo_exists {K D : Nat} : ∀ n, K < Fl.V n * D → ∃ lo, Fl.V lo * D ≤ K ∧ K < Fl.V (lo + 1) * D
 | 0, h => by rw [V_zero, Nat.zero_mul] at h; omega
 | n + 1, h => by
  by_cases h2 : K < Fl.V n * D
  ·exact lo_exists n h2
  ·exact ⟨n, by omega, h⟩
theorem zmul {K N P z : Nat} (h : K = N * P * z) (h0 : N = 0) : K = 0 := by rw [h, h0, Nat.zero_mul, Nat.zero_mul]
theorem zero_near {K D : Nat} (hK : K = 0) (hD : 0 < D) (lo : Nat) (h : Fl.V lo * D ≤ K) : lo + (Fl.up lo K D).toNat = 0 := by
 subst hK
 have h0 : lo = 0 := by
  by_cases e : lo = 0
  ·exact e
  ·have h1 := Fl.V_lt (show 0 < lo by omega)
   rw [V_zero] at h1
   have := Nat.mul_pos h1 hD
   omega
 subst h0
 unfold Fl.up
 have hp : 0 < (2 * Fl.bm 0 + 1) * 2 ^ Fl.be 0 * D := Nat.mul_pos (Nat.mul_pos (by omega) (Nat.two_pow_pos _)) hD
 rw [decide_eq_false (by omega), decide_eq_false (by omega)]; rfl
/-- Of a law's number: the float that the reader under test makes is the reference's. -/
theorem num_res (a : ByteArray) (hn : a.size ≤ 65536) (k : Nat) (hk : 20000000000000000000 ≤ k) (neg : Bool) (sgn ip : List Int) (pt : Bool) (fd fr ex : List Int) (h : NumD (bytesOf a) sgn ip pt fd fr ex) (h15 : ip.length + fd.length ≤ 15)
  (hx : ex = [] ∨ (pt = false ∧ ∀ c sg qs, ex = c :: (sg ++ qs) → (sg = [] ∨ sg = [43] ∨ sg = [45]) → qs ≠ [] → Dgs qs → sg ≠ [45] ∧ dvL 0 qs ≤ 22)) (e : Int) (he : ExpV ex e) (d : ByteArray) (p : Int) (hb : BareP (ip ++ fd) (e - (fd.length : Int)) d p) :
  ∃ r, r < 9218868437227405312 ∧ LawNum a (sg (decide (sgn = [45])) r) ∧ ((bytesOf d = [] ∧ r = 0) ∨ (bytesOf d ≠ [] ∧ spec_nearest.f k neg d p = some (r : Int) ∧ -400 ≤ p + d.size ∧ p + d.size ≤ 400)) := by
 have hlen : sgn.length + (ip.length + (fr.length + ex.length)) = a.size := by rw [← bytesOf_length, h.eq]; simp [List.length_append]
 have hs1 := sgn_len h.sg
 have hd1 : (bytesOf a).drop sgn.length = ip ++ (fr ++ ex) := by rw [h.eq]; simp
 have hd2 : (bytesOf a).drop (sgn.length + ip.length) = fr ++ ex := drop_app hd1
 have hip : 0 < ip.length := List.length_pos_iff.mpr h.ip0
 have hfdd : Dgs fd := by
  rcases h.fr with ⟨_, rfl, _⟩ | ⟨_, _, h, _⟩
  ·exact dgs_nil
  ·exact h
 have hds : Dgs (ip ++ fd) := dgs_app h.ipd hfdd
 have hN15 : dvL 0 (ip ++ fd) < 10 ^ 15 := Nat.lt_of_lt_of_le (dvL_lt hds 0 0 (by decide)) (Nat.pow_le_pow_right (by decide) (by rw [List.length_append]; omega))
 have hsign : SignAt a (decide (sgn = [45])) sgn.length := by
  rcases h.sg with hs | hs
  ·subst hs
   refine .inr ⟨by simp, rfl, ?_⟩
   obtain ⟨c, r, hcr⟩ := List.exists_cons_of_ne_nil h.ip0
   have hc := h.ipd c (by rw [hcr]; exact List.mem_cons_self)
   have : bt a ((0 : Nat) : Int) = c := bt_drop (r := r ++ (fr ++ ex)) (by rw [List.drop_zero, h.eq, hcr]; rfl)
   rw [show ((0 : Nat) : Int) = 0 from rfl] at this
   rw [this]; exact beq_eq_false_iff_ne.mpr (by omega)
  ·subst hs
   refine .inl ⟨by simp, rfl, ?_⟩
   have : bt a ((0 : Nat) : Int) = 45 := bt_drop (r := ip ++ (fr ++ ex)) (by rw [List.drop_zero, h.eq]; rfl)
   rw [show ((0 : Nat) : Int) = 0 from rfl] at this
   rw [this]; rfl
 have hdg := dg_all hd1 h.ipd
 have hdv : dvc 0 a sgn.length ip.length = dvL 0 ip := dvc_all hd1 h.ipd
 -- the number as a quotient
 have fin : ∀ (K D r : Nat), 0 < D → D = 10 ^ (-(e - (fd.length : Int))).toNat → K = dvL 0 (ip ++ fd) * 10 ^ (e - (fd.length : Int)).toNat * 2 ^ 1074 → dvL 0 (ip ++ fd) * 10 ^ (e - (fd.length : Int)).toNat ≤ 10 ^ 37 → (-15 ≤ e - (fd.length : Int) ∧ e - (fd.length : Int) ≤ 22) → Shape a sgn.length ip.length r → r < 9218868437227405312 →
   (dvL 0 (ip ++ fd) = 0 → r = 0) → (0 < dvL 0 (ip ++ fd) → ∀ lo, Fl.V lo * D ≤ K → K < Fl.V (lo + 1) * D → lo + (Fl.up lo K D).toNat = r) →
   ∃ r, r < 9218868437227405312 ∧ LawNum a (sg (decide (sgn = [45])) r) ∧ ((bytesOf d = [] ∧ r = 0) ∨ (bytesOf d ≠ [] ∧ spec_nearest.f k neg d p = some (r : Int) ∧ -400 ≤ p + d.size ∧ p + d.size ≤ 400)) := by
  intro K D r hD hDe hKe hsm hpw hsh hfin h0 hpos
  refine ⟨r, hfin, ⟨_, _, _, r, by omega, by omega, hsign, hdg, hsh, rfl⟩, ?_⟩
  rcases hb with ⟨b1, b2, b3⟩ | ⟨t, b1, b2, b3, b4⟩
  ·exact .inl ⟨b1, h0 b3⟩
  ·have ht : t + d.size ≤ 15 := by rw [List.length_append] at b4; omega
   have hks := k_small hD hKe hsm
   refine .inr ⟨b1, ?_, by omega, by omega⟩
   by_cases hz : dvL 0 (ip ++ fd) = 0
   ·refine near_of k hk neg d (by omega) p (by omega) K D r hD ?_ hks ?_
    ·rw [hKe, hDe]
     exact bare_cross t b2 b3
    ·intro lo h1 h2
     rw [h0 hz]
     exact zero_near (zmul hKe hz) hD lo h1
   ·refine near_of k hk neg d (by omega) p (by omega) K D r hD ?_ hks (hpos (by omega))
    rw [hKe, hDe]
    exact bare_cross t b2 b3
 have hfin0 : (0 : Nat) < 9218868437227405312 := by decide
 have hNle : dvL 0 (ip ++ fd) ≤ 10 ^ 37 := Nat.le_of_lt (Nat.lt_of_lt_of_le hN15 (Nat.pow_le_pow_right (by decide) (by decide)))
 have hN53 : dvL 0 (ip ++ fd) < 9007199254740992 := Nat.lt_trans hN15 (by decide)
 have noexp : ex = [] → e = 0 := fun hex => by
  rcases he with ⟨_, he⟩ | ⟨c, sg', qs, hh, _⟩
  ·exact he
  ·rw [hex] at hh; cases hh
 rcases h.fr with ⟨rfl, rfl, rfl⟩ | ⟨rfl, hf0, hfd, rfl⟩
 ·simp only [List.length_nil, List.append_nil, List.nil_append] at *
  rw [show e - ((0 : Nat) : Int) = e by omega] at *
  rcases he with ⟨rfl, rfl⟩ | ⟨c, sg', qs, rfl, hsg, hq0, hqd, hc, hq15, hee⟩
  ·-- a whole number
   have hsz : sgn.length + ip.length = a.size := by simp at hlen; omega
   refine fin _ 1 (floatOfInt .f64 ((dvL 0 ip : Nat) : Int)) (by decide) rfl (Eq.refl _) (by simp; exact hNle) (by omega) (.inl ⟨hsz, by rw [hdv]⟩) ?_ ?_ ?_
   ·by_cases hz : dvL 0 ip = 0
    ·rw [hz, int0]; decide
    ·have := (Fl.wh_int _ (by omega) hN53).fin; rwa [Fl.infV] at this
   ·intro hz; rw [hz, int0]
   ·intro hp lo h1 h2
    have hv := (Fl.wh_int _ hp hN53).v
    have e0 : dvL 0 ip * 10 ^ (0 : Int).toNat * 2 ^ 1074 = dvL 0 ip * 2 ^ 1074 := by rw [show (0 : Int).toNat = 0 from rfl, Nat.pow_zero, Nat.mul_one]
    rw [e0] at h1 h2 ⊢
    generalize dvL 0 ip * 2 ^ 1074 = K at *
    have hlo : lo = floatOfInt .f64 ((dvL 0 ip : Nat) : Int) := Fl.one_lo h1 h2 (by rw [hv, Nat.mul_one]; exact Nat.le_refl _) (by have := Fl.V_step (floatOfInt .f64 ((dvL 0 ip : Nat) : Int)); rw [hv] at this; rw [Nat.mul_one]; exact this)
    rw [hlo, up_exact hv]; rfl
  ·-- a whole number times a power of ten
   rcases hx with hx | ⟨_, hx⟩
   ·cases hx
   obtain ⟨h45, h22⟩ := hx c sg' qs rfl hsg hq0 hqd
   rw [if_neg h45] at hee
   subst hee
   have hql : 0 < qs.length := List.length_pos_iff.mpr hq0
   have hb1 : bt a ((sgn.length + ip.length : Nat) : Int) = c := bt_drop hd2
   have hd3 : (bytesOf a).drop (sgn.length + ip.length + 1) = sg' ++ qs := drop_next hd2
   simp only [List.length_cons, List.length_append] at hlen
   have hy := wh_pt (dvL 0 qs) (by omega)
   have hK : dvL 0 ip * 10 ^ ((dvL 0 qs : Nat) : Int).toNat ≤ 10 ^ 37 := by
    rw [Int.toNat_natCast]
    have : dvL 0 ip * 10 ^ dvL 0 qs ≤ 10 ^ 15 * 10 ^ 22 := Nat.mul_le_mul (Nat.le_of_lt hN15) (Nat.pow_le_pow_right (by decide) h22)
    rw [← Nat.pow_add] at this
    exact this
   have shape : ∀ r, floatBits .mul .f64 (floatOfInt .f64 ((dvL 0 ip : Nat) : Int)) (PFnFjFloat.pt (dvL 0 qs)) = some r → Shape a sgn.length ip.length r := fun r hr => by
    rcases hsg with rfl | rfl | rfl
    ·have hdg3 := dg_all (r := []) (by rw [List.append_nil]; exact hd3) hqd
     have hdv3 : dvc 0 a (sgn.length + ip.length + 1) qs.length = dvL 0 qs := dvc_all (r := []) (by rw [List.append_nil]; exact hd3) hqd
     refine .inr (.inr ⟨sgn.length + ip.length + 1, qs.length, .inl ⟨rfl, ?_⟩, by rw [hb1]; exact hc, hql, hdg3, (by simp only [List.length_nil, List.length_cons] at hlen; omega), by rw [hdv3]; exact h22, by rw [hdv, hdv3]; exact hr⟩)
     have h0 := (hdg3 0 hql).1
     have h1 := (hdg3 0 hql).2
     rw [Nat.add_zero] at h0 h1
     omega
    ·have hd4 : (bytesOf a).drop (sgn.length + ip.length + 2) = qs := drop_next (i := sgn.length + ip.length + 1) hd3
     have h43 : bt a ((sgn.length + ip.length + 1 : Nat) : Int) = 43 := bt_drop (i := sgn.length + ip.length + 1) hd3
     have hdg3 := dg_all (r := []) (by rw [List.append_nil]; exact hd4) hqd
     have hdv3 : dvc 0 a (sgn.length + ip.length + 2) qs.length = dvL 0 qs := dvc_all (r := []) (by rw [List.append_nil]; exact hd4) hqd
     exact .inr (.inr ⟨sgn.length + ip.length + 2, qs.length, .inr ⟨h43, rfl⟩, by rw [hb1]; exact hc, hql, hdg3, (by simp only [List.length_nil, List.length_cons] at hlen; omega), by rw [hdv3]; exact h22, by rw [hdv, hdv3]; exact hr⟩)
    ·exact absurd rfl h45
   by_cases hz : dvL 0 ip = 0
   ·refine fin _ 1 0 (by decide) (by rw [show (-((dvL 0 qs : Nat) : Int)).toNat = 0 by omega]) (Eq.refl _) hK (by omega) (shape 0 ?_) hfin0 (fun _ => rfl) (fun h => absurd hz (by omega))
    rw [hz, int0]
    exact Fl.mul_zero hy
   ·have hxw := Fl.wh_int _ (by omega) hN53
    obtain ⟨KK, hKK⟩ : ∃ KK, KK = dvL 0 ip * 10 ^ dvL 0 qs * 2 ^ 1074 := ⟨_, rfl⟩
    obtain ⟨lo, l1, l2⟩ := lo_exists (K := KK) (D := 1) 9218868437227405312 (k_small (by decide) hKK (by rw [Int.toNat_natCast] at hK; exact hK))
    rw [hKK] at l1 l2
    obtain ⟨m1, m2⟩ := Fl.mul_eq hxw hy lo (by rw [Nat.mul_one] at l1; exact l1) (by rw [Nat.mul_one] at l2; exact l2)
    rw [Fl.infV] at m2
    refine fin _ 1 _ (by decide) (by rw [show (-((dvL 0 qs : Nat) : Int)).toNat = 0 by omega]) (Eq.refl _) hK (by omega) (shape _ m1) m2 (fun h => absurd h hz) ?_
    intro _ lo' h1 h2
    rw [Int.toNat_natCast] at h1 h2 ⊢
    rw [Fl.one_lo h1 h2 l1 l2]
 ·-- digits behind a point
  have hex : ex = [] := by
   rcases hx with hx | ⟨hx, _⟩
   ·exact hx
   ·cases hx
  have he0 := noexp hex
  subst hex he0
  have hfl : 0 < fd.length := List.length_pos_iff.mpr hf0
  have hb1 : bt a ((sgn.length + ip.length : Nat) : Int) = 46 := bt_drop (r := fd ++ []) (by rw [hd2]; rfl)
  have hd3 : (bytesOf a).drop (sgn.length + ip.length + 1) = fd ++ [] := drop_next (i := sgn.length + ip.length) (c := 46) (by rw [hd2]; rfl)
  simp only [List.length_cons, List.length_nil, List.append_nil] at hlen
  have hdg3 := dg_all hd3 hfd
  have hdv3 : dvc (dvc 0 a sgn.length ip.length) a (sgn.length + ip.length + 1) fd.length = dvL 0 (ip ++ fd) := by rw [hdv, dvc_all hd3 hfd, dvL_app]
  have hy := wh_pt fd.length (by omega)
  have e1 : (0 - (fd.length : Int)).toNat = 0 := by omega
  have e2 : (-(0 - (fd.length : Int))).toNat = fd.length := by omega
  have hK : dvL 0 (ip ++ fd) * 10 ^ (0 - (fd.length : Int)).toNat ≤ 10 ^ 37 := by rw [e1, Nat.pow_zero, Nat.mul_one]; exact hNle
  have hD : 0 < 10 ^ fd.length := Nat.pow_pos (by decide)
  have shape : ∀ r, floatBits .quo .f64 (floatOfInt .f64 ((dvL 0 (ip ++ fd) : Nat) : Int)) (PFnFjFloat.pt fd.length) = some r → Shape a sgn.length ip.length r := fun r hr =>
   .inr (.inl ⟨fd.length, hfl, h15, hb1, hdg3, by omega, by rw [hdv3]; exact hr⟩)
  by_cases hz : dvL 0 (ip ++ fd) = 0
  ·refine fin _ (10 ^ fd.length) 0 hD (by rw [e2]) (Eq.refl _) hK (by omega) (shape 0 ?_) hfin0 (fun _ => rfl) (fun h => absurd hz (by omega))
   rw [hz, int0]
   exact Fl.div_zero hy
  ·have hxw := Fl.wh_int _ (by omega) hN53
   obtain ⟨KK, hKK⟩ : ∃ KK, KK = dvL 0 (ip ++ fd) * 2 ^ 1074 := ⟨_, rfl⟩
   obtain ⟨lo, l1, l2⟩ := lo_exists (K := KK) (D := 10 ^ fd.length) 9218868437227405312 (k_small hD hKK hNle)
   rw [hKK] at l1 l2
   obtain ⟨m1, m2⟩ := Fl.div_eq hxw hy hD lo l1 l2
   rw [Fl.infV] at m2
   refine fin _ (10 ^ fd.length) _ hD (by rw [e2]) (Eq.refl _) hK (by omega) (shape _ m1) m2 (fun h => absurd h hz) ?_
   intro _ lo' h1 h2
   rw [e1, Nat.pow_zero, Nat.mul_one] at h1 h2 ⊢
   rw [Fl.one_lo h1 h2 l1 l2]
end Go.Proofs.YtaihmpdhaikfkaaGreatDoor.PFnFjFloat
