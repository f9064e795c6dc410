/- Part of the proof of the card in text ZF. -/
import Derived.Test.YtdacgdjjdifneaaGreatDoorV0
import Derived.Test.YtdacgdjjdifneaaGreatDoorV10
import Derived.Test.YtdacgdjjdifneaaGreatDoorV5
import Derived.Test.YtdacgdjjdifneaaGreatDoorZ2
import Derived.Test.YtdacgdjjdifneaaGreatDoorZY
import Derived.Outline
set_option linter.all false
set_option maxHeartbeats 16000000
set_option maxRecDepth 100000
namespace Go.Proofs.YtdacgdjjdifneaaGreatDoor.PFnGjFlattenOften
open Go.RowKit Go.Proofs.YtdacgdjjdifneaaGreatDoorW.PrintWords Go.Proofs.YtdacgdjjdifneaaGreatDoorW.PrintLast Go.Proofs.YtdacgdjjdifneaaGreatDoorW.PrintMore
theorem law_big (s : ByteArray) (w : World) (hs : (s.size : Int) > 2147483647) : Calls Tryz.prog 3 #[.string s] w fun e w' => e = .returned (.bool true) ∧ Below w.heap.size w w' := by
 have h0 : decide (2147483647 < (s.size : Int)) = true := decide_eq_true hs; have h1 : decide (2147483647 < s.size) = true := decide_eq_true (by omega); clear hs; go_enter Tryz.func3, Tryz.ntmps3; go_wp2; go_ret; exact ⟨rfl, Below.refl _ _⟩
abbrev BareC (s : ByteArray) (kind : Int) (ok : Bool) : Prop := ∀ W, Calls Tryz.prog 4 #[.string s] W fun e w' => (∃ (tx : ByteArray) (A2 : Option Addr) (m2 c2 : Nat) (A3 : Option Addr) (m3 c3 : Nat), e = .returned (.tuple #[.agg #[.int .i64 kind, .string tx, .slice A2 m2 c2, .slice A3 m3 c3], .bool ok])) ∧ Below W.heap.size W w'
theorem tzZ30 {P : Prop} (h : P := by
  go_enter Tryz.func3, Tryz.ntmps3; go_wp2_with (first | (go_at_call 4; (with_reducible refine (HB.out _).mono ?_); rintro e9001 w9001 ⟨⟨tx, A2, m2, c2, A3, m3, c3, rfl⟩, hb⟩; have HB2 := sd hb; clear hb)); go_ret; exact ⟨rfl, below_step HB2.out (below_alloc (Below.refl _ _) _)⟩) : P := h
theorem law_not (s : ByteArray) (kind : Int) (w : World) (hs : ¬ (s.size : Int) > 2147483647) (hb : BareC s kind false) : Calls Tryz.prog 3 #[.string s] w fun e w' => e = .returned (.bool true) ∧ Below w.heap.size w w' := by
 have h0 : decide (2147483647 < (s.size : Int)) = false := decide_eq_false hs; have h1 : decide (2147483647 < s.size) = false := decide_eq_false (by omega); have HB := sd hb; clear hs hb; exact tzZ30
theorem law_kind (s : ByteArray) (kind : Int) (w : World) (hs : ¬ (s.size : Int) > 2147483647) (hb : BareC s kind true) (hk : kind ≠ 5 ∨ 1024 < s.size) : Calls Tryz.prog 3 #[.string s] w fun e w' => e = .returned (.bool true) ∧ Below w.heap.size w w' := by
 have h0 : decide (2147483647 < (s.size : Int)) = false := decide_eq_false hs; have h1 : decide (2147483647 < s.size) = false := decide_eq_false (by omega); have HB := sd hb
 by_cases h5 : kind = 5
 ·have h6 : decide (1024 < (s.size : Int)) = true := decide_eq_true (by rcases hk with h | h; exact absurd h5 h; omega); have h7 : decide (1024 < s.size) = true := decide_eq_true (by rcases hk with h | h; exact absurd h5 h; omega); subst h5; clear hs hb hk; exact tzZ30
 ·have h6 : (kind == 5) = false := nb _ _ h5; have h7 : (kind != 5) = true := bne_iff_ne.mpr h5; clear hs hb hk h5; exact tzZ30
abbrev plV (p : S31) (A3 : Option Addr) (c3 : Nat) (A4 : Option Addr) (c4 : Nat) : Value := .agg #[.int .i64 p.f0, .int .i64 p.f1, .int .i64 p.f2, .slice A3 p.f3.length c3, .slice A4 p.f4.length c4]
structure PV31 (W : World) (A3 : Option Addr) (c3 : Nat) (A4 : Option Addr) (c4 : Nat) (p : S31) : Prop where
 r3 : Kd.C k54 W A3 p.f3.length p.f3
 l3 : p.f3.length ≤ c3
 r4 : Kd.C k31 W A4 p.f4.length p.f4
 l4 : p.f4.length ≤ c4
theorem PV31.below {W W2 : World} {A3 A4 : Option Addr} {c3 c4 : Nat} {p : S31} (h : PV31 W A3 c3 A4 c4 p) (hb : Below W.heap.size W W2) : PV31 W2 A3 c3 A4 c4 p := ⟨Kd.C_below h.r3 hb, h.l3, Kd.C_below h.r4 hb, h.l4⟩
abbrev PlaceC (s : ByteArray) (p : S31) : Prop := ∀ W, Calls Tryz.prog 5 #[.string s] W fun e w' => (∃ A3 c3 A4 c4, e = .returned (.tuple #[plV p A3 c3 A4 c4, .bool true]) ∧ PV31 w' A3 c3 A4 c4 p) ∧ Below W.heap.size W w'
abbrev DepC (p : S31) (d : Nat) : Prop := ∀ W A3 c3 A4 c4, PV31 W A3 c3 A4 c4 p → Calls Tryz.prog 6 #[plV p A3 c3 A4 c4] W fun e w' => e = .returned (.int .i64 (d : Int)) ∧ Below W.heap.size W w'
theorem place_c {s : ByteArray} {p : S31} {K : Nat} (h : spec_Places.f K s = some (p.f0, p.f1, p.f2, p.f3, p.f4, true)) : PlaceC s p := fun W =>
 (spec_Places.calls K s _ _ _ _ _ _ W h).mono fun e w' ⟨v3, v4, he, h3, h4, hb⟩ => by
  obtain ⟨A3, c3, e3, g2, g3⟩ := Kd.R_reads h3; obtain ⟨A4, c4, e4, g4, g5⟩ := Kd.R_reads h4; subst e3 e4; exact ⟨⟨A3, c3, A4, c4, he, g3, g2, g5, g4⟩, hb⟩
theorem dep_c {p : S31} {d : Nat} (h : DepthsOk p d) : DepC p d := by
 obtain ⟨K, hK⟩ := h; exact fun W A3 c3 A4 c4 hp => spec_Depths.calls K _ _ _ _ _ _ _ _ _ _ W hp.r3 hp.l3 hp.r4 hp.l4 (hK K (Nat.le_refl _))
def RS (ls : List (List Int)) (t : ByteArray) (r : Nat) : Prop := t.size ≤ 1024 ∧ ((r = 0 ∧ bytesOf t = roundT ls) ∨ ∃ r1 b es, r = r1 + 1 ∧ ArrB (bytesOf t) b es ∧ Ne r1 es ls)
theorem rs_step (hU : UnC) {ls : List (List Int)} {t : ByteArray} {r : Nat} (h : RS ls t (r + 1)) (w : World) (hPW : PW w) : Calls Tryz.prog 7 #[.string t, .string ⟨#[]⟩] w fun x W' => (∃ t2 : ByteArray, x = .returned (.string t2) ∧ RS ls t2 r) ∧ Below w.heap.size w W' := by
 obtain ⟨hz, h | ⟨r1, b, es, hr, hA, hN⟩⟩ := h
 ·omega
 obtain rfl : r = r1 := by omega
 have key : ∃ bs fs, Pc es bs fs ∧ ∀ t2 : ByteArray, bytesOf t2 = roundT bs → t2.size ≤ 1024 → RS ls t2 r := by
  cases r with
  | zero =>
   obtain ⟨hp, rfl⟩ := pc_leaf hN; exact ⟨_, _, hp, fun t2 h1 h2 => ⟨h2, .inl ⟨rfl, h1⟩⟩⟩
  | succ r =>
   obtain ⟨bs, fs, hp, hn⟩ := pc_ne hN; exact ⟨bs, fs, hp, fun t2 h1 h2 => ⟨h2, .inr ⟨r, _, fs, rfl, by rw [h1]; exact round_arr hp, hn⟩⟩⟩
 obtain ⟨bs, fs, hp, hk⟩ := key; have hl := round_len hA hp; rw [bytesOf_length] at hl; refine (impl_c (flat_plain hU t (by omega) hA hp w hPW)).mono fun x W' ⟨⟨t2, h1, h2, h3⟩, h4⟩ => ⟨⟨t2, h1, hk t2 h2 ?_⟩, h4⟩
 rw [← bytesOf_length, h2]; omega
theorem deep_c (hU : UnC) {s : ByteArray} (hs : s.size ≤ 1024) {d : Nat} {b : List Int} {es ls : List (List Int)} (hA : ArrB (bytesOf s) b es) (hn : Ne d es ls) (w : World) (hPW : PW w) : Calls Tryz.prog 7 #[.string s, .string ⟨#[123, 34, 100, 101, 101, 112, 34, 58, 116, 114, 117, 101, 125]⟩] w fun x W' => (∃ t2 : ByteArray, x = .returned (.string t2) ∧ bytesOf t2 = roundT ls) ∧ Below w.heap.size w W' :=
 (impl_c (flat_deep hU s (by omega) hA hn w hPW)).mono fun x W' ⟨⟨t2, h1, h2, h3⟩, h4⟩ => ⟨⟨t2, h1, h2⟩, h4⟩
theorem law_yes (hU : UnC) (s : ByteArray) (w : World) (hPW : PW w) (hsz : s.size ≤ 1024) (hb : BareC s 5 true) (p : S31) (d : Nat) (b : List Int) (es ls : List (List Int)) (hA : ArrB (bytesOf s) b es) (hN : Ne d es ls) (hd : d ≤ 2000) (hP : PlaceC s p) (hD : DepC p (d + 1)) (n : S25) (hn : DepOk n)
  (hR : ∀ t : ByteArray, bytesOf t = roundT ls → TextC 8 t n true) : Calls Tryz.prog 3 #[.string s] w fun e w' => e = .returned (.bool true) ∧ Below w.heap.size w w' := by
 have h0 : decide (2147483647 < (s.size : Int)) = false := decide_eq_false (by omega); have h1 : decide (2147483647 < s.size) = false := decide_eq_false (by omega); have h2 : decide (1024 < (s.size : Int)) = false := decide_eq_false (by omega); have h3 : decide (1024 < s.size) = false := decide_eq_false (by omega); obtain ⟨d1, hd1⟩ : ∃ d1, d1 = d + 1 := ⟨_, rfl⟩
 have HS0 := sd (show RS ls s d1 from ⟨hsz, .inr ⟨d, b, es, hd1, hA, hN⟩⟩); have HD1 := sd (show d1 ≤ 2001 by omega); rw [← hd1] at hD; have HU := sd hU; have HPW := sd hPW; have HB := sd hb; have HP := sd hP; have HD := sd hD; have HN := sd hn; have HR := sd hR; have HA := sd (And.intro hsz (And.intro hA hN)); clear hU hPW hsz hb hA hN hd hP hD hn hR hd1; go_enter Tryz.func3, Tryz.ntmps3; go_upto_region 4 with (first | (go_at_call 4; (with_reducible refine (HB.out _).mono ?_); rintro e0 w2 ⟨⟨tx, A2, m2, c2, A3, m3, c3, rfl⟩, hb⟩; have HB2 := sd hb; clear hb))
 have HB3 := sd (below_step HB2.out (below_alloc (Below.refl _ _) (.cells #[.int .i64 5, .string tx, .slice A2 m2 c2, .slice A3 m3 c3] 25))); have c0 := (blk_cell (blk_new w2 (.cells #[.int .i64 5, .string tx, .slice A2 m2 c2, .slice A3 m3 c3] 25)) 0).trans rfl; clear HB2; generalize w2.alloc (.cells #[.int .i64 5, .string tx, .slice A2 m2 c2, .slice A3 m3 c3] 25) = w3 at *; go_upto_region 7 with (first | (go_at_call 5; (with_reducible refine (HP.out _).mono ?_); rintro e0 w4 ⟨⟨E3, e3, E4, e4, rfl, hp⟩, hb⟩; have HB4 := sd (below_step HB3.out hb); have HPV := sd hp; clear hb hp))
 go_upto_region 9 with (first | (go_at_call 6; (with_reducible refine (HD.out _ _ _ _ _ (HPV.out.below (below_alloc (Below.refl _ _) _))).mono ?_); rintro e0 w5 ⟨rfl, hb⟩; have HB5 := sd (below_step (below_step HB4.out (below_alloc (Below.refl _ _) _)) hb); clear hb))
 clear HB4 HPV HB3 c0; go_loopw [7, 8] (fun o k wr => ∃ (t : ByteArray) (r : Nat), o = .string t ∧ k = .int .i64 (r : Int) ∧ Aside0 (RS ls t r ∧ r ≤ 2001) ∧ Aside0 (Below w.heap.size w wr)) (fun _ k _ => (intOf k).toNat)
 case atStart => exact ⟨s, d1, rfl, rfl, ⟨HS0.out, HD1.out⟩, HB5⟩
 case round =>
  clear HS0 HB5; obtain ⟨t, r, rfl, rfl, HT, HB5⟩ := hrel
  by_cases hr0 : r = 0
  ·skip
   subst hr0; have HTX := sd (show bytesOf t = roundT ls from by
    rcases HT.out.1.2 with ⟨_, h⟩ | ⟨r1, _, _, h, _⟩
    ·exact h
    ·omega)
   go_upto_region 13 with (first | (go_at_call 8; (with_reducible refine (HR.out t HTX.out _).mono ?_); rintro e0 w6 ⟨⟨G2, g2, G3, g3, rfl, hnv⟩, hb⟩; have HB6 := sd (below_step HB5.out hb); have HN6 := sd hnv; clear hb hnv))
   have HG7 := sd (NB.new w6 (.int .i64 n.f0) (.string n.f1) (.slice G2 n.f2.length g2) (.slice G3 n.f3.length g3)); have HB7 := sd (below_step HB6.out (below_alloc (Below.refl _ _) (.cells #[.int .i64 n.f0, .string n.f1, .slice G2 n.f2.length g2, .slice G3 n.f3.length g3] 25))); have HN7 := sd (HN6.out.below (below_alloc (Below.refl _ _) (.cells #[.int .i64 n.f0, .string n.f1, .slice G2 n.f2.length g2, .slice G3 n.f3.length g3] 25))); clear HB6 HN6; generalize w6.heap.size = gb at *; generalize w6.alloc (.cells #[.int .i64 n.f0, .string n.f1, .slice G2 n.f2.length g2, .slice G3 n.f3.length g3] 25) = w7 at *
   go_upto_region 14 with (first | (go_at_call 7; (with_reducible refine (deep_c HU.out HA.out.1 HA.out.2.1 HA.out.2.2 _ (HPW.out.keep HB7.out)).mono ?_); rintro e0 w8 ⟨⟨t2, rfl, ht2⟩, hb⟩; have HB8 := sd (below_step HB7.out hb); have HG8 := sd (HG7.out.below hb); have HN8 := sd (HN7.out.below hb); have HT2 := sd ht2; clear hb ht2) | (go_at_call 8; (with_reducible refine (HR.out t2 HT2.out _).mono ?_); rintro e0 w9 ⟨⟨I2, i2, I3, i3, rfl, hnv⟩, hb⟩; have HB9 := sd (below_step HB8.out hb); have HG9 := sd (HG8.out.below hb); have HN9 := sd (HN8.out.below hb); have HM9 := sd hnv; clear hb hnv))
   have HI := sd (NB.new w9 (.int .i64 n.f0) (.string n.f1) (.slice I2 n.f2.length i2) (.slice I3 n.f3.length i3)); have HG := sd (HG9.out.alloc (.cells #[.int .i64 n.f0, .string n.f1, .slice I2 n.f2.length i2, .slice I3 n.f3.length i3] 25)); have HB10 := sd (below_step HB9.out (below_alloc (Below.refl _ _) (.cells #[.int .i64 n.f0, .string n.f1, .slice I2 n.f2.length i2, .slice I3 n.f3.length i3] 25))); have HN10 := sd (HN9.out.below (below_alloc (Below.refl _ _) (.cells #[.int .i64 n.f0, .string n.f1, .slice I2 n.f2.length i2, .slice I3 n.f3.length i3] 25))); have HM10 := sd (HM9.out.below (below_alloc (Below.refl _ _) (.cells #[.int .i64 n.f0, .string n.f1, .slice I2 n.f2.length i2, .slice I3 n.f3.length i3] 25))); clear HB9 HG9 HN9 HM9 HB8 HG8 HN8 HG7 HN7 HB7; generalize w9.heap.size = ib at *
   generalize w9.alloc (.cells #[.int .i64 n.f0, .string n.f1, .slice I2 n.f2.length i2, .slice I3 n.f3.length i3] 25) = w10 at *; obtain ⟨p0, p1, p2, p3⟩ := HI.out.cells; obtain ⟨q0, q1, q2, q3⟩ := HG.out.cells; go_wp2_with (first | (go_at_call 9; (with_reducible refine (same_c HN.out _ HN10.out HM10.out).mono ?_); rintro e0 w11 ⟨rfl, hb⟩; have HB11 := sd (below_step HB10.out hb); clear hb)); go_ret; exact ⟨rfl, HB11.out⟩
  ·skip
   obtain ⟨r2, hr2⟩ : ∃ r2, r = r2 + 1 := ⟨r - 1, by omega⟩
   have HR2 := sd hr2; have y1 : decide ((0 : Int) < (r : Int)) = true := decide_eq_true (by omega); have y2 : decide (0 < r) = true := decide_eq_true (by omega); have y3 : wrap64 ((r : Int) - 1) = (r2 : Int) := by rw [hr2, Go.IntWalk.wrap64_in _ (by have := HT.out.2; omega)]; omega
   have HT2 := sd (show RS ls t (r2 + 1) from by rw [← hr2]; exact HT.out.1); clear hr0 hr2; go_wp2_with (first | (go_at_call 7; (with_reducible refine (rs_step HU.out HT2.out _ (HPW.out.keep HB5.out)).mono ?_); rintro e0 w6 ⟨⟨t2, rfl, ht2⟩, hb⟩; have HB6 := sd (below_step HB5.out hb); have HT3 := sd ht2; clear hb ht2)); refine ⟨⟨t2, r2, rfl, by first | rfl | rw [y3], ⟨HT3.out, by have := HT.out.2; have := HR2.out; omega⟩, HB6⟩, ?_⟩; (try rw [y3]); simp only [intOf, Int.toNat_natCast]; have := HR2.out; omega
theorem law_calls (hU : UnC) (s : ByteArray) (w : World) (hPW : PW w) : Calls Tryz.prog 3 #[.string s] w fun e w' => e = .returned (.bool true) ∧ Below w.heap.size w w' := by
 by_cases hs : (s.size : Int) > 2147483647
 ·exact law_big s w hs
 obtain ⟨K, n, ok, hf, hDep, hok⟩ := gjText_f s; have htx : TextC 10 s n ok := text_c (hf K (Nat.le_refl _))
 cases ok with
 | false =>
  exact law_not s n.f0 w hs fun W => (gb_false s n htx W).mono fun e w' ⟨⟨A2, c2, A3, c3, he⟩, hb⟩ => ⟨⟨_, _, _, _, _, _, _, he⟩, hb⟩
 | true =>
  obtain ⟨hsz, p, l, j, htxt, hV, hRl, hpl, hkind⟩ := hok rfl; have h0 : 0 < s.size := by
   obtain ⟨wl, v, e, _, _⟩ := htxt; have := congrArg List.length e; rw [bytesOf_length] at this; have := v_len1 hV; simp at *; omega
  obtain ⟨u, hu⟩ := uniq_c hDep; have hbare : BareC s n.f0 (u && !(decide (Blk (bt s 0))) && !(decide (Blk (bt s ((s.size - 1 : Nat) : Int))))) := fun W =>
   (gb_true s hsz h0 n u _ _ _ _ rfl (s.size - 1) (by omega) rfl htx hu (blk_c _) (blk_c _) W).mono fun e w' ⟨⟨A2, c2, A3, c3, he⟩, hb⟩ => ⟨⟨_, _, _, _, _, _, _, he⟩, hb⟩
  cases hb : (u && !(decide (Blk (bt s 0))) && !(decide (Blk (bt s ((s.size - 1 : Nat) : Int))))) with
  | false =>
   rw [hb] at hbare; exact law_not s n.f0 w hs hbare
  | true =>
   rw [hb] at hbare; simp only [Bool.and_eq_true, Bool.not_eq_true', decide_eq_false_iff_not] at hb
   by_cases hk : n.f0 ≠ 5 ∨ 1024 < s.size
   ·exact law_kind s n.f0 w hs hbare hk
   ·have h5 : n.f0 = 5 := Classical.byContradiction fun h => hk (.inl h); have hle : s.size ≤ 1024 := Classical.byContradiction fun h => hk (.inr (by omega)); rw [h5] at hbare; obtain ⟨d, b, es, ls, hA, hN, hD, hd⟩ := law_text htxt hV hRl (by rw [← hkind]; exact h5) hsz hb.1.2 hb.2; obtain ⟨ks, hVk, _⟩ := arr_v (round_arr (pc_leaves (ne_leaves hN))); have hlen := ne_len d hA hN; rw [bytesOf_length] at hlen; have hread : ∃ n2 : S25, DepOk n2 ∧ ∀ t : ByteArray, bytesOf t = roundT ls → TextC 8 t n2 true := by
     by_cases ht : ∃ t : ByteArray, bytesOf t = roundT ls
     ·obtain ⟨t0, h0⟩ := ht; obtain ⟨K2, n2, ok2, g1, g2, _, g4⟩ := read_f t0 (by rw [← bytesOf_length, h0]; omega); have hok2 := g4 ⟨_, by rw [h0]; exact hVk⟩; subst hok2; refine ⟨n2, g2, fun t ht => ?_⟩; obtain rfl : t = t0 := bytesOf_inj (ht.trans h0.symm); exact read_c (g1 K2 (Nat.le_refl _))
     ·exact ⟨n, hDep, fun t h => absurd ⟨t, h⟩ ht⟩
    obtain ⟨n2, hn2, hR⟩ := hread; exact law_yes hU s w hPW hle hbare p d b es ls hA hN (by omega) (place_c (hpl 1000000 (Nat.le_refl _))) (dep_c hD) n2 hn2 hR
end Go.Proofs.YtdacgdjjdifneaaGreatDoor.PFnGjFlattenOften
