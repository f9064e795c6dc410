/- Part of the proof that laws.FnFjFloat answers true for every input (the card: text ZF). -/
import Derived.Test.YtaihmpdhaikfkaaGreatDoorZC
import Derived.Test.YtaihmpdhaikfkaaGreatDoorZB
import Derived.Test.YtaihmpdhaikfkaaGreatDoorV14
import Derived.Outline
set_option linter.all false
/- parseRawNumber: the run of a number's signs, or a word, or an error. -/
namespace Go.Proofs.YtaihmpdhaikfkaaGreatDoor.PFnFjFloat
open Go.RowKit Go.Proofs.YtaihmpdhaikfkaaGreatDoorW.PrintWords Go.Proofs.YtaihmpdhaikfkaaGreatDoorW.PrintLast Go.Proofs.YtaihmpdhaikfkaaGreatDoorW.PrintMore
theorem fold_l0 (a b : ByteArray) (hab : a.size = b.size) (hs : a.size < 2 ^ 40) : ∀ (m i k : Nat), a.size - i ≤ m → i ≤ a.size → 2 * m + 2 ≤ k → ∃ r, fastjson_zzFold.l0 k a b (i : Int) = some r := by
 intro m
 induction m with
 | zero =>
  intro i k hm hi hk
  obtain ⟨k, rfl⟩ : ∃ j, k = j + 1 := ⟨k - 1, by omega⟩
  exact ⟨true, by simp only [fastjson_zzFold.l0]; rw [if_neg (by omega)]⟩
 | succ m ih =>
  intro i k hm hi hk
  obtain ⟨k, rfl⟩ : ∃ j, k = j + 2 := ⟨k - 2, by omega⟩
  by_cases hlt : i < a.size
  ·have hw : wrap64 ((i : Int) + 1) = ((i + 1 : Nat) : Int) := by rw [Go.IntWalk.wrap64_in _ (by omega)]; omega
   have step : ∀ (c : Int) (x : Bool), ∃ r, fastjson_zzFold.j1 (k + 1) a b (i : Int) c x = some r := fun c x => by
    obtain ⟨r, hr⟩ := ih (i + 1) k (by omega) (by omega) (by omega)
    cases x
    ·simp only [fastjson_zzFold.j1]
     rw [if_neg (by simp), if_pos (by omega), if_pos (by omega)]
     by_cases h : c = bt b (i : Int)
     ·rw [if_pos h, hw]; exact ⟨r, hr⟩
     ·rw [if_neg h]; exact ⟨_, rfl⟩
    ·simp only [fastjson_zzFold.j1]
     rw [if_pos trivial, if_pos (by omega), if_pos (by omega)]
     by_cases h : (c + 32) % 256 = bt b (i : Int)
     ·rw [if_pos h, hw]; exact ⟨r, hr⟩
     ·rw [if_neg h]; exact ⟨_, rfl⟩
   simp only [fastjson_zzFold.l0]
   rw [if_pos (by omega), if_pos (by omega)]
   split
   ·exact step _ _
   ·exact step _ _
  ·exact ⟨true, by simp only [fastjson_zzFold.l0]; rw [if_neg (by omega)]⟩
theorem fold_calls (a b : ByteArray) (hs : a.size < 2 ^ 40) (w : World) : Calls Tryz.prog 49 #[.string a, .string b] w fun e w' => ∃ r : Bool, e = .returned (.bool r) ∧ Below w.heap.size w w' := by
 obtain ⟨r, hr⟩ : ∃ r, fastjson_zzFold.f (2 * a.size + 2) a b = some r := by
  unfold fastjson_zzFold.f
  by_cases h : (a.size : Int) = (b.size : Int)
  ·rw [if_pos h]; exact fold_l0 a b (by omega) hs a.size 0 _ (by omega) (by omega) (by omega)
  ·rw [if_neg h]; exact ⟨_, rfl⟩
 exact (fastjson_zzFold.calls _ a b r w hr).mono fun e w' ⟨h1, h2⟩ => ⟨r, h1, h2.below⟩
/-- n is how many signs of numbers stand at the beginning. -/
structure NumRun (s : ByteArray) (n : Nat) : Prop where
 le : n ≤ s.size
 all : ∀ j, j < n → NumC (bt s (j : Int))
 stop : n < s.size → ¬ NumC (bt s (n : Int))
def Low (s : ByteArray) (n : Nat) : Prop := n = 0 ∨ (n = 1 ∧ (bt s 0 = 45 ∨ bt s 0 = 43))
def NumP (s : ByteArray) (w : World) (e : Ending) (w' : World) : Prop :=
 Below w.heap.size w w' ∧ ∃ n, NumRun s n ∧ ((n = s.size ∧ e = .returned (.tuple #[.string s, .string ⟨#[]⟩, .nilIface])) ∨
  (n < s.size ∧ ¬ Low s n ∧ e = .returned (.tuple #[.string (s.extract 0 n), .string (s.extract n s.size), .nilIface])) ∨
  (n < s.size ∧ Low s n ∧ ((∃ ss tail : ByteArray, e = .returned (.tuple #[.string ss, .string tail, .nilIface]) ∧ ss.size ≤ s.size ∧ tail.size + 1 ≤ s.size) ∨ ∃ (a b : ByteArray) (ea : Addr), e = .returned (.tuple #[.string a, .string b, .iface 101 (.pointer (some ea))]))))
theorem run_step {s : ByteArray} {k : Nat} (h : ∀ j, j < k → NumC (bt s (j : Int))) (hc : NumC (bt s (k : Int))) : ∀ j, j < k + 1 → NumC (bt s (j : Int)) := fun j hj => by
 by_cases e : j = k
 ·subst e; exact hc
 ·exact h j (by omega)
/-- The five signs that are no digits. -/
theorem numC_cases {c : Int} (h : NumC c) : (decide (48 ≤ c) = true ∧ decide (c ≤ 57) = true) ∨ c = 46 ∨ c = 45 ∨ c = 101 ∨ c = 69 ∨ c = 43 := by
 rcases h with ⟨h1, h2⟩ | h | h | h | h | h
 ·exact .inl ⟨decide_eq_true h1, decide_eq_true h2⟩
 all_goals simp [h]
theorem numC_not {c : Int} (h : ¬ NumC c) : (decide (48 ≤ c) = false ∨ (decide (48 ≤ c) = true ∧ decide (c ≤ 57) = false)) ∧ (c == 46) = false ∧ (c == 45) = false ∧ (c == 101) = false ∧ (c == 69) = false ∧ (c == 43) = false := by
 unfold NumC at h
 refine ⟨?_, beq_eq_false_iff_ne.mpr (by omega), beq_eq_false_iff_ne.mpr (by omega), beq_eq_false_iff_ne.mpr (by omega), beq_eq_false_iff_ne.mpr (by omega), beq_eq_false_iff_ne.mpr (by omega)⟩
 by_cases a : 48 ≤ c
 ·exact .inr ⟨decide_eq_true a, decide_eq_false (by omega)⟩
 ·exact .inl (decide_eq_false a)
instance (c : Int) : Decidable (NumC c) := by unfold NumC; infer_instance
theorem cut40 {s : ByteArray} (i j : Nat) (h : s.size < 2 ^ 40) : (s.extract i j).size < 2 ^ 40 := Nat.lt_of_le_of_lt (cut_le s i j) h
theorem low_cases (s : ByteArray) (k : Nat) : ((((k : Int) == 0) = true ∨ (((k : Int) == 0) = false ∧ ((k : Int) == 1) = true ∧ ((bt s 0 == 45) = true ∨ ((bt s 0 == 45) = false ∧ (bt s 0 == 43) = true)))) ∧ Aside0 (Low s k)) ∨
  ((((k : Int) == 0) = false ∧ (((k : Int) == 1) = false ∨ (((k : Int) == 1) = true ∧ (bt s 0 == 45) = false ∧ (bt s 0 == 43) = false))) ∧ Aside0 (¬ Low s k)) := by
 by_cases a : k = 0
 ·exact .inl ⟨.inl (beq_iff_eq.mpr (by omega)), ⟨.inl a⟩⟩
 ·have a0 : ((k : Int) == 0) = false := beq_eq_false_iff_ne.mpr (by omega)
  by_cases b : k = 1
  ·have b1 : ((k : Int) == 1) = true := beq_iff_eq.mpr (by omega)
   by_cases c : bt s 0 = 45
   ·exact .inl ⟨.inr ⟨a0, b1, .inl (beq_iff_eq.mpr c)⟩, ⟨.inr ⟨b, .inl c⟩⟩⟩
   ·by_cases d : bt s 0 = 43
    ·exact .inl ⟨.inr ⟨a0, b1, .inr ⟨beq_eq_false_iff_ne.mpr c, beq_iff_eq.mpr d⟩⟩, ⟨.inr ⟨b, .inr d⟩⟩⟩
    ·refine .inr ⟨⟨a0, .inr ⟨b1, beq_eq_false_iff_ne.mpr c, beq_eq_false_iff_ne.mpr d⟩⟩, ⟨?_⟩⟩
     rintro (h | ⟨_, h | h⟩)
     ·exact a h
     ·exact c h
     ·exact d h
  ·refine .inr ⟨⟨a0, .inl (beq_eq_false_iff_ne.mpr (by omega))⟩, ⟨?_⟩⟩
   rintro (h | ⟨h, _⟩)
   ·exact a h
   ·exact b h
theorem three (s : ByteArray) (k : Nat) (hk : k < s.size) : (decide (3 ≤ ((s.size - k : Nat) : Int)) = true ∧ (((k : Int) + 3 ≤ (s.size : Int)) = True) ∧ Aside0 (k + 3 ≤ s.size)) ∨ decide (3 ≤ ((s.size - k : Nat) : Int)) = false := by
 by_cases h : 3 ≤ s.size - k
 ·exact .inl ⟨decide_eq_true (by omega), eq_true (by omega), ⟨by omega⟩⟩
 ·exact .inr (decide_eq_false (by omega))
theorem k3_facts {s : ByteArray} {k : Nat} (hk : k < s.size) (hs : s.size < 2 ^ 40) : IntKind.i64.wrap ((k : Int) + 3) = (k : Int) + 3 ∧ wrap64 ((k : Int) + 3) = (k : Int) + 3 ∧ ((0 ≤ (k : Int) + 3) = True) ∧ (((k : Int) ≤ (k : Int) + 3) = True) ∧ ((k : Int) + 3).toNat = k + 3 ∧ (((k : Int) ≤ (s.size : Int)) = True) := by
 obtain ⟨a1, a2⟩ := wrap_both (x := (k : Int) + 3) (by omega)
 exact ⟨a1, a2, eq_true (by omega), eq_true (by omega), by omega, eq_true (by omega)⟩
theorem num_err {s a b : ByteArray} {w W : World} {k : Nat} {ea : Addr} (h : NumRun s k) (hl : Low s k) (hk : k < s.size) (hb : Below w.heap.size w W) : NumP s w (.returned (.tuple #[.string a, .string b, .iface 101 (.pointer (some ea))])) W :=
 ⟨hb, k, h, .inr (.inr ⟨hk, hl, .inr ⟨a, b, ea, rfl⟩⟩)⟩
theorem num_word {s : ByteArray} {w W : World} {k : Nat} (h : NumRun s k) (hl : Low s k) (hk : k < s.size) (h3 : k + 3 ≤ s.size) (hb : Below w.heap.size w W) : NumP s w (.returned (.tuple #[.string (s.extract 0 (k + 3)), .string (s.extract (k + 3) s.size), .nilIface])) W :=
 ⟨hb, k, h, .inr (.inr ⟨hk, hl, .inl ⟨_, _, rfl, cut_le _ _ _, cut_lt (by omega) h3 (Nat.le_refl _)⟩⟩)⟩
set_option maxHeartbeats 8000000 in
set_option maxRecDepth 100000 in
theorem rawNum (s : ByteArray) (hs : s.size < 2 ^ 40) (w : World) : Calls Tryz.prog 50 #[.string s] w (NumP s w) := by
 have HS := sd hs
 go_enter Tryz.func50, Tryz.ntmps50
 go_wp2
 go_loop [0, 11] (fun v i => ∃ k : Nat, v = .string s ∧ i = .int .i64 k ∧ Aside0 (k ≤ s.size ∧ ∀ j, j < k → NumC (bt s (j : Int)))) (fun _ i => s.size - (intOf i).toNat)
 case atStart => exact ⟨0, rfl, rfl, ⟨Nat.zero_le _, fun j hj => absurd hj (Nat.not_lt_zero _)⟩⟩
 case round =>
  obtain ⟨k, rfl, rfl, HK⟩ := hrel
  by_cases hlt : k < s.size
  ·have hx := bt_nat s k
   have t1 : decide ((k : Int) < (s.size : Int)) = true := decide_eq_true (by omega)
   have t2 : decide (k < s.size) = true := decide_eq_true hlt
   have q1 : (0 ≤ (k : Int)) = True := eq_true (by omega)
   have q2 : ((k : Int) < (s.size : Int)) = True := eq_true (by omega)
   by_cases hc : NumC (bt s (k : Int))
   ·have HC := sd (run_step HK.out.2 hc)
    have hb : -9223372036854775808 ≤ (k : Int) + 1 ∧ (k : Int) + 1 ≤ 9223372036854775807 := by omega
    obtain ⟨w1, w2⟩ := wrap_both hb
    clear hb
    rcases numC_cases hc with ⟨c1, c2⟩ | c | c | c | c | c
    all_goals
     clear hc
     go_wp2
     go_round
     case rel => exact ⟨k + 1, rfl, by go_num, ⟨hlt, HC.out⟩⟩
     case measure => simp [intOf]; omega
   ·have HC := sd hc
    obtain ⟨hd, c1, c2, c3, c4, c5⟩ := numC_not hc
    clear hc
    have HB := sd (Below.refl w.heap.size w)
    have hx0 : ∀ h : 0 < s.size, ((s[0]'h).toNat : Int) = bt s 0 := bt_nat s 0
    have z0 : (0 < s.size) = True := eq_true (by omega)
    have hlt := sd hlt
    obtain ⟨g1, g2, g3, g4, g5, g6⟩ := k3_facts hlt.out HS.out
    have RN := sd (NumRun.mk (Nat.le_of_lt hlt.out) HK.out.2 (fun _ => HC.out))
    rcases low_cases s k with ⟨hlow, HL⟩ | ⟨⟨l1, hlow⟩, HL⟩
    ·rcases three s k hlt.out with ⟨v1, v2, v3⟩ | v1
     ·rcases hlow with l1 | ⟨l1, l2, l3 | ⟨l3, l4⟩⟩
      all_goals
       rcases hd with d1 | ⟨d1, d2⟩
       all_goals
        go_wp2_with (first | (go_at_call 49; (with_reducible refine (fold_calls _ _ (cut40 _ _ HS.out) _).mono ?_); rintro e0 W ⟨r, rfl, hb⟩; have HB := sd (below_step HB.out hb); clear hb; cases r) | (go_at_call 32; (with_reducible refine (err_new _ _).mono ?_); rintro e0 W ⟨ea, rfl, hb⟩; have HB := sd (below_step HB.out hb); clear hb))
        all_goals first
         | (go_ret3; exact num_err RN.out HL.out hlt.out HB.out)
         | (go_quiet (fail); go_wp2; go_ret3; exact num_word RN.out HL.out hlt.out v3.out (below_draws HB.out _))
     ·rcases hlow with l1 | ⟨l1, l2, l3 | ⟨l3, l4⟩⟩
      all_goals
       rcases hd with d1 | ⟨d1, d2⟩
       all_goals
        go_wp2_with (first | (go_at_call 49; (with_reducible refine (fold_calls _ _ (cut40 _ _ HS.out) _).mono ?_); rintro e0 W ⟨r, rfl, hb⟩; have HB := sd (below_step HB.out hb); clear hb; cases r) | (go_at_call 32; (with_reducible refine (err_new _ _).mono ?_); rintro e0 W ⟨ea, rfl, hb⟩; have HB := sd (below_step HB.out hb); clear hb))
        go_ret3
        exact num_err RN.out HL.out hlt.out HB.out
    ·rcases hlow with l2 | ⟨l2, l3, l4⟩
     all_goals
      rcases hd with d1 | ⟨d1, d2⟩
      all_goals
       go_wp2
       go_ret3
       exact ⟨Below.refl _ _, k, RN.out, .inr (.inl ⟨hlt.out, HL.out, rfl⟩)⟩
  ·have t1 : decide ((k : Int) < (s.size : Int)) = false := decide_eq_false (by omega)
   have t2 : decide (k < s.size) = false := decide_eq_false hlt
   go_wp2
   go_ret3
   have hk : k = s.size := by have := HK.out.1; omega
   subst hk
   exact ⟨Below.refl _ _, s.size, ⟨Nat.le_refl _, HK.out.2, fun h => absurd h (Nat.lt_irrefl _)⟩, .inl ⟨rfl, rfl⟩⟩
/-- r is s without the blanks at its beginning. -/
def SkipP (s r : ByteArray) : Prop := ∃ w, bytesOf s = w ++ bytesOf r ∧ Ws w ∧ NoBlk (bytesOf r)
theorem SkipP.le {s r : ByteArray} (h : SkipP s r) : r.size ≤ s.size := by
 obtain ⟨w, h, _⟩ := h
 have := congrArg List.length h
 rw [List.length_append, bytesOf_length, bytesOf_length] at this
 omega
theorem bytesOf_rest (a : ByteArray) (i : Nat) : bytesOf (a.extract i a.size) = (bytesOf a).drop i := by
 rw [bytesOf_extract, ← bytesOf_length, List.take_length]
theorem blk_or {c : Int} : Blk c ↔ (c = 32 ∨ c = 10 ∨ c = 9 ∨ c = 13) := by unfold Blk; omega
theorem ws_nil : Ws [] := fun c hc => by cases hc
theorem noBlk_nil : NoBlk [] := fun c r hr => by cases hr
theorem slow_l0 (a : ByteArray) (hn : a.size < 2 ^ 39) : ∀ (s : List Int) (i k : Nat), (bytesOf a).drop i = s → s.length < k →
  ∃ (w : List Int) (r : ByteArray), s = w ++ bytesOf r ∧ Ws w ∧ NoBlk (bytesOf r) ∧ fastjson_skipWSSlow.l0 k a (i : Int) = some r := by
 intro s
 induction s with
 | nil =>
  intro i k h hk
  obtain ⟨k, rfl⟩ : ∃ m, k = m + 1 := ⟨k - 1, by simp at hk; omega⟩
  have := sz_ge h
  refine ⟨[], ⟨#[]⟩, rfl, ws_nil, noBlk_nil, ?_⟩
  simp only [fastjson_skipWSSlow.l0]
  rw [if_neg (by omega)]
 | cons c r ih =>
  intro i k h hk
  obtain ⟨k, rfl⟩ : ∃ m, k = m + 1 := ⟨k - 1, by simp at hk; omega⟩
  have hlt := sz_lt h
  simp only [fastjson_skipWSSlow.l0]
  rw [if_pos (by omega), if_pos (by omega), bt_drop h, w64_1 (by omega)]
  by_cases hb : Blk c
  ·obtain ⟨w, r', e, hw, hr, he⟩ := ih (i + 1) k (drop_next h) (by simp at hk; omega)
   refine ⟨c :: w, r', by rw [e]; rfl, ?_, hr, ?_⟩
   ·intro x hx
    rcases List.mem_cons.mp hx with rfl | hx
    ·exact hb
    ·exact hw x hx
   ·rw [he]
    rcases blk_or.1 hb with e | e | e | e <;> simp [e]
  ·have hb' : ¬ (c = 32 ∨ c = 10 ∨ c = 9 ∨ c = 13) := fun h => hb (blk_or.2 h)
   refine ⟨[], a.extract i a.size, by rw [bytesOf_rest, h]; rfl, ws_nil, ?_, ?_⟩
   ·rw [bytesOf_rest, h]
    intro c' r' e
    injection e with e1 e2
    rw [← e1]; exact hb
   ·rw [if_neg (by omega), if_neg (by omega), if_neg (by omega), if_neg (by omega), if_pos (by omega), Int.toNat_natCast]
theorem slow_f (a : ByteArray) (hn : a.size < 2 ^ 39) : ∃ k r, fastjson_skipWSSlow.f k a = some r ∧ SkipP a r := by
 by_cases h0 : a.size = 0
 ·refine ⟨1, a, by unfold fastjson_skipWSSlow.f; rw [if_pos (by omega)]; simp [fastjson_skipWSSlow.j0], [], rfl, ws_nil, ?_⟩
  have : bytesOf a = [] := List.eq_nil_of_length_eq_zero (by rw [bytesOf_length]; exact h0)
  rw [this]; exact noBlk_nil
 ·obtain ⟨c, r, hc⟩ : ∃ c r, bytesOf a = c :: r := by
   cases hb : bytesOf a with
   | nil => have := congrArg List.length hb; rw [bytesOf_length] at this; exact absurd this h0
   | cons c r => exact ⟨c, r, rfl⟩
  have hd : (bytesOf a).drop 0 = c :: r := hc
  have hb0 : bt a 0 = c := bt_drop hd
  by_cases hb : Blk c
  ·obtain ⟨w, r', e, hw, hr, he⟩ := slow_l0 a hn r 1 (r.length + 1) (drop_next hd) (by omega)
   refine ⟨r.length + 2, r', ?_, c :: w, by rw [hc, e]; rfl, ?_, hr⟩
   ·unfold fastjson_skipWSSlow.f
    rw [if_neg (by omega), if_pos (by omega), hb0]
    have hj : fastjson_skipWSSlow.j0 (r.length + 2) a false = some r' := by
     simp only [fastjson_skipWSSlow.j0]
     rw [if_neg (by simp)]
     exact he
    rcases blk_or.1 hb with e | e | e | e <;> simp [e, hj]
   ·intro x hx
    rcases List.mem_cons.mp hx with rfl | hx
    ·exact hb
    ·exact hw x hx
  ·have hb' : ¬ (c = 32 ∨ c = 10 ∨ c = 9 ∨ c = 13) := fun h => hb (blk_or.2 h)
   refine ⟨1, a, ?_, [], rfl, ws_nil, ?_⟩
   ·unfold fastjson_skipWSSlow.f
    rw [if_neg (by omega), if_pos (by omega), hb0, if_neg (by omega), if_neg (by omega), if_neg (by omega)]
    have : (c != 13) = true := bne_iff_ne.mpr (by omega)
    rw [this]
    simp [fastjson_skipWSSlow.j0]
   ·rw [hc]
    intro c' r' e
    injection e with e1 e2
    rw [← e1]; exact hb
theorem skip_f (a : ByteArray) (hn : a.size < 2 ^ 39) : ∃ k r, fastjson_skipWS.f k a = some r ∧ SkipP a r := by
 obtain ⟨k, r, hr, hs⟩ := slow_f a hn
 unfold fastjson_skipWS.f
 by_cases h0 : (a.size : Int) = 0
 ·refine ⟨1, a, by rw [if_pos h0], [], rfl, ws_nil, ?_⟩
  have : bytesOf a = [] := List.eq_nil_of_length_eq_zero (by rw [bytesOf_length]; omega)
  rw [this]; exact noBlk_nil
 ·by_cases h32 : bt a 0 > 32
  ·refine ⟨1, a, by rw [if_neg h0, if_pos (by omega), if_pos h32], [], rfl, ws_nil, ?_⟩
   intro c r' e
   have : bt a 0 = c := bt_drop (i := 0) (show (bytesOf a).drop 0 = c :: r' from e)
   unfold Blk
   omega
  ·exact ⟨k, r, by rw [if_neg h0, if_pos (by omega), if_neg h32, hr]; rfl, hs⟩
/-- skipWS. -/
theorem skip_calls (s : ByteArray) (hs : s.size < 2 ^ 39) (w : World) : Calls Tryz.prog 28 #[.string s] w fun e w' => ∃ r : ByteArray, e = .returned (.string r) ∧ SkipP s r ∧ Below w.heap.size w w' := by
 obtain ⟨k, r, hr, hp⟩ := skip_f s hs
 exact (fastjson_skipWS.calls k s r w hr).mono fun e w' ⟨h1, h2⟩ => ⟨r, h1, hp, h2.below⟩
/-- From w on, the cache is now B1, n1, m1. -/
structure Run (w W : World) (pb : Nat) (bs : Value) (B : Option Nat) (n : Nat) (B1 : Option Nat) (n1 m1 : Nat) : Prop where
 st : St W pb bs B1 n1 m1
 fr : Fr w W pb B n
 up : Up w B n B1 n1
 old : ∀ b, B = some b → b ≠ pb ∧ b < w.heap.size
section
variable {w W W2 : World} {pb n m n1 m1 n2 m2 : Nat} {bs : Value} {B B1 B2 : Option Nat}
theorem Run.start (h : St w pb bs B n m) : Run w w pb bs B n B n m := ⟨h, Fr.refl _ _ _ _, Up.refl _ _ _, fun _ hb => h.ne hb⟩
theorem Run.below (h : Run w W pb bs B n B1 n1 m1) (hb : Below W.heap.size W W2) : Run w W2 pb bs B n B1 n1 m1 := ⟨h.st.below hb, h.fr.below hb (fun b e => (h.old b e).2), h.up, h.old⟩
theorem Run.then_ (h : Run w W pb bs B n B1 n1 m1) (hs : St W2 pb bs B2 n2 m2) (hf : Fr W W2 pb B1 n1) (hu : Up W B1 n1 B2 n2) : Run w W2 pb bs B n B2 n2 m2 :=
 ⟨hs, h.fr.trans h.up hf h.old, h.up.trans hu h.fr.size, h.old⟩
theorem Run.gv {g c : Nat} (h : Run w W pb bs B n B1 n1 m1) (hg : GvP W W2 pb bs B1 n1 g c) : Run w W2 pb bs B n (some g) (n1 + 1) c := h.then_ hg.st hg.fr hg.up
/-- What is new for a later world is new for the first. -/
theorem Run.newL (h : Run w W pb bs B n B1 n1 m1) {vb vo : Nat} (hn : NewL W B1 n1 vb vo) : NewL w B n vb vo := by
 rcases hn with h1 | ⟨h1, h2⟩
 ·exact .inl (Nat.le_trans h.fr.size h1)
 ·rcases h.up.2 with e | ⟨b', e, hb⟩
  ·exact .inr ⟨h1.trans e, by have := h.up.1; omega⟩
  ·rw [e] at h1; exact .inl (by have := Option.some.inj h1; omega)
theorem Run.set (h : Run w W pb bs B n B1 n1 m1) {vb vo : Nat} (hl : Loc W pb B1 n1 vb vo) (hn : NewL w B n vb vo) (i : Nat) (hi : i < 5) (u : Value) : Run w (W.setCell ⟨vb, vo + i, none⟩ u) pb bs B n B1 n1 m1 ∧ Loc (W.setCell ⟨vb, vo + i, none⟩ u) pb B1 n1 vb vo ∧
  ∀ j, (W.setCell ⟨vb, vo + i, none⟩ u).cell? ⟨vb, vo + j, none⟩ = if j = i then some u else W.cell? ⟨vb, vo + j, none⟩ := by
 obtain ⟨h1, h2, h3⟩ := hl.set h.st i hi u
 exact ⟨⟨h1, h.fr.set hn i u, h.up, h.old⟩, h2, h3⟩
end
/-- What a part of the parser returns: a Value's place, what is behind it, the cache; or an error. -/
def PvP (T : Int → Prop) (w : World) (pb : Nat) (bs : Value) (B : Option Nat) (n : Nat) (s : ByteArray) (e : Ending) (w' : World) : Prop :=
 Fr w w' pb B n ∧ ((∃ (vb vo : Nat) (tail : ByteArray) (B' : Option Nat) (n' m' : Nat), e = .returned (.tuple #[.pointer (some ⟨vb, vo, none⟩), .string tail, .nilIface]) ∧ tail.size + 1 ≤ s.size ∧ n' + tail.size ≤ n + s.size ∧ Run w w' pb bs B n B' n' m' ∧ Loc w' pb B' n' vb vo ∧
   ∃ (t : Int) (ss : ByteArray), w'.cell? ⟨vb, vo + 4, none⟩ = some (.int .i64 t) ∧ w'.cell? ⟨vb, vo + 3, none⟩ = some (.string ss) ∧ ss.size ≤ s.size ∧ T t ∧ NewL w B n vb vo) ∨
  ∃ (a : ByteArray) (ea : Addr), e = .returned (.tuple #[.pointer none, .string a, .iface 101 (.pointer (some ea))]))
/-- parseValue, for texts of at most N bytes. -/
def VC (T : ByteArray → Int → Prop) (pb : Nat) (bs : Value) (N : Nat) : Prop := ∀ (s : ByteArray) (w : World) (B : Option Nat) (n m : Nat) (d : Int), s.size ≤ N → St w pb bs B n m → n + s.size < 2 ^ 36 → 0 ≤ d → d ≤ 300 →
 Calls Tryz.prog 30 #[.pointer (some ⟨pb, 1, none⟩), .string s, .int .i64 d] w (PvP (T s) w pb bs B n s)
theorem VC.use {T : ByteArray → Int → Prop} {pb N : Nat} {bs : Value} (h : VC T pb bs N) (s : ByteArray) (w : World) (B : Option Nat) (n m : Nat) (d : Int) (h1 : s.size ≤ N) (h2 : St w pb bs B n m) (h3 : n + s.size < 2 ^ 36) (h4 : 0 ≤ d) (h5 : d ≤ 300) :
  Calls Tryz.prog 30 #[.pointer (some ⟨pb, 1, none⟩), .string s, .int .i64 d] w (PvP (T s) w pb bs B n s) := h s w B n m d h1 h2 h3 h4 h5
/-- While an array is read: its Value at ab, ao, with l elements. -/
structure ArrI (w W : World) (pb : Nat) (bs : Value) (B : Option Nat) (n : Nat) (B1 : Option Nat) (n1 m1 ab ao : Nat) (V : Value) (l : Nat) : Prop where
 run : Run w W pb bs B n B1 n1 m1
 loc : Loc W pb B1 n1 ab ao
 new : NewL w B n ab ao
 typ : W.cell? ⟨ab, ao + 4, none⟩ = some (.int .i64 2)
 str : W.cell? ⟨ab, ao + 3, none⟩ = some (.string ⟨#[]⟩)
 cell : W.cell? ⟨ab, ao + 2, none⟩ = some V
 own : ∃ xs, W.ownsRow w.heap.size 46 1 V l xs
section
variable {w W W2 : World} {pb n m n1 m1 n2 m2 ab ao l : Nat} {bs V : Value} {B B1 B2 : Option Nat}
theorem own_far {W : World} {base : Nat} {V : Value} {l : Nat} {xs : List Value} (ho : W.ownsRow base 46 1 V l xs) (h : St W pb bs B1 n1 m1) : ∀ k, V.ownBlock = some k → k ≠ pb ∧ some k ≠ B1 ∧ k < W.heap.size := by
 intro k hk
 obtain ⟨cells, hc⟩ := own_typed ho k hk
 refine ⟨fun e => ?_, fun e => ?_, blk_lt hc⟩
 ·subst e; rw [h.hp] at hc; simp at hc
 ·rcases h.hb with ⟨h0, _⟩ | ⟨b, cur, h0, h1, _⟩
  ·rw [h0] at e; cases e
  ·rw [h0] at e
   obtain rfl := Option.some.inj e
   rw [h1] at hc; simp at hc
theorem ArrI.below (h : ArrI w W pb bs B n B1 n1 m1 ab ao V l) (hb : Below W.heap.size W W2) : ArrI w W2 pb bs B n B1 n1 m1 ab ao V l := by
 obtain ⟨hl, hc⟩ := h.loc.below hb
 obtain ⟨xs, ho⟩ := h.own
 exact ⟨h.run.below hb, hl, h.new, (hc 4).trans h.typ, (hc 3).trans h.str, (hc 2).trans h.cell, xs, own_move ho (fun k hk => hb.block k (own_far ho h.run.st k hk).2.2)⟩
theorem ArrI.then_ (h : ArrI w W pb bs B n B1 n1 m1 ab ao V l) (hr : Run W W2 pb bs B1 n1 B2 n2 m2) : ArrI w W2 pb bs B n B2 n2 m2 ab ao V l := by
 obtain ⟨hl, hc⟩ := h.loc.step hr.fr hr.up
 obtain ⟨xs, ho⟩ := h.own
 exact ⟨h.run.then_ hr.st hr.fr hr.up, hl, h.new, (hc 4 (by omega)).trans h.typ, (hc 3 (by omega)).trans h.str, (hc 2 (by omega)).trans h.cell, xs, own_move ho (fun k hk => by
  obtain ⟨h1, h2, h3⟩ := own_far ho h.run.st k hk
  exact hr.fr.blk k h3 h1 h2)⟩
/-- An element more. -/
theorem ArrI.push {W1 : World} {V' : Value} {xs : List Value} (h : ArrI w W pb bs B n B1 n1 m1 ab ao V l) (hg : W.grownBy W1 V.ownBlock) (ho : W1.ownsRow w.heap.size 46 1 V' (l + 1) xs) : ArrI w (W1.setCell ⟨ab, ao + 2, none⟩ V') pb bs B n B1 n1 m1 ab ao V' (l + 1) := by
 obtain ⟨ys, ho0⟩ := h.own
 have hf := own_far ho0 h.run.st
 have hst : St W1 pb bs B1 n1 m1 := h.run.st.grown hg (fun e => (hf pb e.symm).1 rfl) (fun b hb e => (hf b e.symm).2.1 hb.symm)
 have hfr : Fr w W1 pb B n := h.run.fr.grown hg (fun k hk => (ho0.lt k hk).1) (fun b hb => (h.run.old b hb).2)
 have hne : some ab ≠ V.ownBlock := fun e => by
  obtain ⟨cells, hc⟩ := own_typed ho0 ab e.symm
  obtain ⟨cur, hc2, _⟩ := h.loc.blk
  rw [hc2] at hc; simp at hc
 obtain ⟨hl, hc⟩ := h.loc.grown hg hne
 have hrun : Run w W1 pb bs B n B1 n1 m1 := ⟨hst, hfr, h.run.up, h.run.old⟩
 obtain ⟨r1, r2, r3⟩ := hrun.set hl h.new 2 (by omega) V'
 refine ⟨r1, r2, h.new, ?_, ?_, ?_, xs, ?_⟩
 ·rw [r3, if_neg (by omega), hc]; exact h.typ
 ·rw [r3, if_neg (by omega), hc]; exact h.str
 ·rw [r3, if_pos rfl]
 ·refine own_move ho (fun k hk => Below.heap_setCell W1 _ _ k ?_)
  intro e
  have e' : k = ab := e
  subst e'
  obtain ⟨cells, hcc⟩ := own_typed ho k hk
  obtain ⟨cur, hc2, _⟩ := hl.blk
  rw [hc2] at hcc; simp at hcc
/-- The elements' cell behind an append. -/
theorem ArrI.at_ {W1 : World} (h : ArrI w W pb bs B n B1 n1 m1 ab ao V l) (hg : W.grownBy W1 V.ownBlock) : W1.cell? ⟨ab, ao + 2, none⟩ = some V ∧ W1.frozen? ⟨ab, ao + 2, none⟩ = false := by
 obtain ⟨ys, ho0⟩ := h.own
 have hne : some ab ≠ V.ownBlock := fun e => by
  obtain ⟨cells, hc⟩ := own_typed ho0 ab e.symm
  obtain ⟨cur, hc2, _⟩ := h.loc.blk
  rw [hc2] at hc; simp at hc
 obtain ⟨hl, hc⟩ := h.loc.grown hg hne
 exact ⟨(hc 2).trans h.cell, (hl.cell 2 (by omega)).2⟩
theorem ArrI.now (h : ArrI w W pb bs B n B1 n1 m1 ab ao V l) : W.cell? ⟨ab, ao + 2, none⟩ = some V ∧ W.frozen? ⟨ab, ao + 2, none⟩ = false := ⟨h.cell, (h.loc.cell 2 (by omega)).2⟩
end
/-- A goal at which the walk stands still. -/
def Hold (p : Prop) : Prop := p
theorem hold_mk {p : Prop} (h : Hold p) : p := h
theorem hold_of {p : Prop} (h : p) : Hold p := h
theorem own_slice {w : World} {base e size n : Nat} {v : Value} {xs : List Value} (h : w.ownsRow base e size v n xs) : ∃ A l c, v = .slice A l c := by
 rcases h.2 with ⟨h, _⟩ | ⟨g, cap, cur, h, _⟩
 ·exact ⟨_, _, _, h⟩
 ·exact ⟨_, _, _, h⟩
theorem new_cell (w : World) (v : Value) (t : TypeId) : ∀ (j : Nat) (u : Value), [v][j]? = some u → (w.alloc (.cells #[v] t)).cell? ((⟨w.heap.size, 0, none⟩ : Addr).add j) = some u := by
 intro j u hj
 have hadd : (⟨w.heap.size, 0, none⟩ : Addr).add j = ⟨w.heap.size, j, none⟩ := by unfold Addr.add; split <;> simp_all
 rw [hadd, blk_cell (t := t) (cs := #[v]) (blk_new w _)]
 simpa using hj
theorem one_ptr (a : Addr) : ∀ u ∈ [Value.pointer (some a)], u.oneCell' = true := fun u hu => by rw [List.mem_singleton.1 hu]; rfl
/-- How a text goes on: by one sign, by another, by none of them. -/
theorem head_cases2 (s : ByteArray) (c c' : Int) : (((s.size : Int) == 0) = true) ∨ (((s.size : Int) == 0) = false ∧ ((0 < s.size) = True) ∧ (((1 : Int) ≤ (s.size : Int)) = True) ∧ (∀ h : 0 < s.size, ((s[0]'h).toNat : Int) = bt s 0) ∧ Aside0 (0 < s.size) ∧ ((bt s 0 == c) = true ∨ ((bt s 0 == c) = false ∧ ((bt s 0 == c') = true ∨ (bt s 0 == c') = false)))) := by
 by_cases h : s.size = 0
 ·exact .inl (beq_iff_eq.mpr (by omega))
 ·refine .inr ⟨beq_eq_false_iff_ne.mpr (by omega), eq_true (by omega), eq_true (by omega), bt_nat s 0, ⟨by omega⟩, ?_⟩
  cases bt s 0 == c
  ·cases bt s 0 == c'
   ·exact .inr ⟨rfl, .inr rfl⟩
   ·exact .inr ⟨rfl, .inl rfl⟩
  ·exact .inl rfl
/-- How a text begins. -/
theorem head_cases (s : ByteArray) (c : Int) : (((s.size : Int) == 0) = true) ∨ (((s.size : Int) == 0) = false ∧ ((0 < s.size) = True) ∧ (((1 : Int) ≤ (s.size : Int)) = True) ∧ (∀ h : 0 < s.size, ((s[0]'h).toNat : Int) = bt s 0) ∧ Aside0 (0 < s.size) ∧ ((bt s 0 == c) = true ∨ (bt s 0 == c) = false)) := by
 by_cases h : s.size = 0
 ·exact .inl (beq_iff_eq.mpr (by omega))
 ·refine .inr ⟨beq_eq_false_iff_ne.mpr (by omega), eq_true (by omega), eq_true (by omega), bt_nat s 0, ⟨by omega⟩, ?_⟩
  cases bt s 0 == c
  ·exact .inr rfl
  ·exact .inl rfl
theorem lt39 {n : Nat} {s : ByteArray} (h : n + s.size + 1 < 2 ^ 36) : s.size < 2 ^ 39 := by omega
theorem gv_bound {n : Nat} {s : ByteArray} (h : n + s.size + 1 < 2 ^ 36) : (n + 1) * 80 ≤ 140737488355328 := by omega
/-- What a Value just taken holds, in the walk's spelling. -/
theorem gv_cells {w w' : World} {pb : Nat} {bs : Value} {B : Option Nat} {n g c : Nat} (h : GvP w w' pb bs B n g c) :
  w'.cell? ⟨g, n * 5 + 4, none⟩ = some (.int .i64 0) ∧ w'.frozen? ⟨g, n * 5 + 4, none⟩ = false ∧ w'.cell? ⟨g, n * 5 + 2, none⟩ = some (.slice none 0 0) ∧ w'.frozen? ⟨g, n * 5 + 2, none⟩ = false :=
 ⟨(h.zero 4 (by omega)).trans rfl, (h.loc.cell 4 (by omega)).2, (h.zero 2 (by omega)).trans rfl, (h.loc.cell 2 (by omega)).2⟩
theorem info46 : (Tryz.prog.info? 46).map (fun i => (i.zero, i.size, i.bytes)) = some (some (.pointer none), 1, 8) := by kernel_rfl
theorem arr_start {w W1 W2 : World} {pb n m g c : Nat} {bs : Value} {B : Option Nat} (h : Run w W1 pb bs B n B n m) (hg : GvP W1 W2 pb bs B n g c) :
  ArrI w ((W2.setCell ⟨g, n * 5 + 4, none⟩ (.int .i64 2)).setCell ⟨g, n * 5 + 2, none⟩ (.slice none 0 0)) pb bs B n (some g) (n + 1) c g (n * 5) (.slice none 0 0) 0 := by
 have hn := h.newL hg.new
 obtain ⟨r1, l1, c1⟩ := (h.gv hg).set hg.loc hn 4 (by omega) (.int .i64 2)
 obtain ⟨r2, l2, c2⟩ := r1.set l1 hn 2 (by omega) (.slice none 0 0)
 refine ⟨r2, l2, hn, ?_, ?_, ?_, [], World.ownsRow_nil _ _ _ _⟩
 ·rw [c2, if_neg (by omega), c1, if_pos rfl]
 ·rw [c2, if_neg (by omega), c1, if_neg (by omega)]; exact (hg.zero 3 (by omega)).trans rfl
 ·rw [c2, if_pos rfl]
/-- An array is returned. -/
theorem pv_arr {w W W2 : World} {pb n n1 m1 ab ao l : Nat} {bs V : Value} {B B1 : Option Nat} {s s1 : ByteArray} (h : ArrI w W pb bs B n B1 n1 m1 ab ao V l) (hs : s1.size ≤ s.size) (hp : 0 < s1.size) (hb : Below W.heap.size W W2) (hn : n1 + s1.size ≤ n + s.size + 1 := by omega) :
  PvP (fun t => t = 2) w pb bs B n s (.returned (.tuple #[.pointer (some ⟨ab, ao, none⟩), .string (s1.extract 1 s1.size), .nilIface])) W2 := by
 have h2 := h.below hb
 have hz : (s1.extract 1 s1.size).size = s1.size - 1 := by rw [size_cut]; omega
 exact ⟨h2.run.fr, .inl ⟨ab, ao, _, B1, n1, m1, rfl, by rw [hz]; omega, by rw [hz]; omega, h2.run, h2.loc, 2, ⟨#[]⟩, h2.typ, h2.str, Nat.zero_le _, rfl, h2.new⟩⟩
theorem arr39 {n n1 l : Nat} {s t : ByteArray} (h : n1 + t.size ≤ n + s.size + 1 ∧ l + t.size ≤ s.size) (hn : n + s.size + 1 < 2 ^ 36) : t.size < 2 ^ 39 := by omega
theorem arr_le {n n1 l : Nat} {s t t1 : ByteArray} (hp : SkipP t t1) (h : n1 + t.size ≤ n + s.size + 1 ∧ l + t.size ≤ s.size) : t1.size ≤ s.size := by have := hp.le; omega
theorem arr36 {n n1 l : Nat} {s t t1 : ByteArray} (hp : SkipP t t1) (h : n1 + t.size ≤ n + s.size + 1 ∧ l + t.size ≤ s.size) (hn : n + s.size + 1 < 2 ^ 36) : n1 + t1.size < 2 ^ 36 := by have := hp.le; omega
theorem arr_next {n n1 n2 l : Nat} {s t t1 tail : ByteArray} (hp : SkipP t t1) (h : n1 + t.size ≤ n + s.size + 1 ∧ l + t.size ≤ s.size) (h1 : tail.size + 1 ≤ t1.size) (h2 : n2 + tail.size ≤ n1 + t1.size) : n2 + tail.size ≤ n + s.size + 1 ∧ l + 1 + tail.size ≤ s.size ∧ tail.size < t.size := by have := hp.le; omega
theorem tail39 {n n2 l : Nat} {s t tail : ByteArray} (h : n2 + tail.size ≤ n + s.size + 1 ∧ l + 1 + tail.size ≤ s.size ∧ tail.size < t.size) (hn : n + s.size + 1 < 2 ^ 36) : tail.size < 2 ^ 39 := by omega
theorem arr_len {n n1 l : Nat} {s t : ByteArray} (h : n1 + t.size ≤ n + s.size + 1 ∧ l + t.size ≤ s.size) (hn : n + s.size + 1 < 2 ^ 36) : l + 1 ≤ maxLen := by simp only [maxLen]; omega
theorem arr_bytes {n n1 l : Nat} {s t : ByteArray} (h : n1 + t.size ≤ n + s.size + 1 ∧ l + t.size ≤ s.size) (hn : n + s.size + 1 < 2 ^ 36) : (l + 1) * 8 ≤ 140737488355328 := by omega
theorem arr_base {w W : World} {pb n n1 m1 ab ao l : Nat} {bs V : Value} {B B1 : Option Nat} {o : Obj} (h : ArrI w W pb bs B n B1 n1 m1 ab ao V l) : w.heap.size ≤ (W.alloc o).heap.size := by rw [World.size_alloc]; exact Nat.le_succ_of_le h.run.fr.size
theorem cut1 (t : ByteArray) : (t.extract 1 t.size).size = t.size - 1 := by rw [size_cut]; omega
section
variable {n n2 l : Nat} {s t tail t2 : ByteArray}
theorem arr_rel (hp : SkipP tail t2) (h : n2 + tail.size ≤ n + s.size + 1 ∧ l + 1 + tail.size ≤ s.size ∧ tail.size < t.size) : n2 + (t2.extract 1 t2.size).size ≤ n + s.size + 1 ∧ l + 1 + (t2.extract 1 t2.size).size ≤ s.size := by
 have := hp.le
 rw [cut1]; omega
theorem arr_meas (hp : SkipP tail t2) (h : n2 + tail.size ≤ n + s.size + 1 ∧ l + 1 + tail.size ≤ s.size ∧ tail.size < t.size) : strLen (.string (t2.extract 1 t2.size)) < strLen (.string t) := by
 have := hp.le
 show (t2.extract 1 t2.size).size < t.size
 rw [cut1]; omega
theorem arr_sz (hp : SkipP tail t2) (h : n2 + tail.size ≤ n + s.size + 1 ∧ l + 1 + tail.size ≤ s.size ∧ tail.size < t.size) : t2.size ≤ s.size := by have := hp.le; omega
theorem arr_fin (hp : SkipP tail t2) (h : n2 + tail.size ≤ n + s.size + 1 ∧ l + 1 + tail.size ≤ s.size ∧ tail.size < t.size) : n2 + t2.size ≤ n + s.size + 1 := by have := hp.le; omega
end
set_option maxHeartbeats 8000000 in
set_option maxRecDepth 100000 in
theorem arr_calls (T : ByteArray → Int → Prop) (pb : Nat) (bs : Value) (s : ByteArray) (w : World) (B : Option Nat) (n m : Nat) (d : Int) (hV : VC T pb bs s.size) (hS : St w pb bs B n m) (hn : n + s.size + 1 < 2 ^ 36) (h0 : 0 ≤ d) (h1 : d ≤ 300) :
  Calls Tryz.prog 46 #[.pointer (some ⟨pb, 1, none⟩), .string s, .int .i64 d] w (PvP (fun t => t = 2) w pb bs B n s) := by
 have HV := sd hV
 have HN := sd hn
 have RU := sd (Run.start hS)
 clear hV hS hn
 go_enter Tryz.func46, Tryz.ntmps46
 go_wp2_with (first | (go_at_call 28; (with_reducible refine (skip_calls s (lt39 HN.out) w).mono ?_); rintro e0 W1 ⟨s1, rfl, hp, hb⟩; have HP := sd hp; have R1 := sd (RU.out.below hb); clear hp hb; rcases head_cases s1 93 with t0 | ⟨t0, z0, z1, hx, hpos, (t93 | t93)⟩) | (go_at_call 32; (with_reducible refine (err_new _ _).mono ?_); rintro e0 W ⟨ea, rfl, hb⟩; have RE := sd (R1.out.fr.below hb (fun b e => (R1.out.old b e).2)); clear hb) | (go_at_call 48; (with_reducible refine (gv_any _ pb bs B n m R1.out.st (gv_bound HN.out)).mono ?_); rintro e0 W2 ⟨g, c, rfl, hg⟩; have HG := sd hg; obtain ⟨k4, f4, k2, f2⟩ := gv_cells hg; clear hg))
 ·go_ret3
  exact ⟨RE.out, .inr ⟨_, _, rfl⟩⟩
 ·have AS := sd (arr_start R1.out HG.out)
  go_quiet (fail)
  go_wp2
  go_ret3
  exact pv_arr AS.out (HP.out.le) hpos.out (below_draws (Below.refl _ _) _) (by have := HP.out.le; omega)
 ·have AS := sd (arr_start R1.out HG.out)
  obtain ⟨i0, hi, hz0, hz1, hz2⟩ := info_parts info46
  clear k4 f4 k2 f2 z0 z1 hx t93 t0
  go_loopw [1] (fun v wr => ∃ (t : ByteArray) (B1 : Option Nat) (n1 m1 : Nat) (Vx : Value) (l : Nat), v = .string t ∧ Aside0 (ArrI w wr pb bs B n B1 n1 m1 g (n * 5) Vx l) ∧ Aside0 (n1 + t.size ≤ n + s.size + 1 ∧ l + t.size ≤ s.size)) (fun v _ => strLen v)
  case atStart => exact ⟨s1, _, _, _, _, 0, rfl, AS, ⟨by have := HP.out.le; omega, by have := HP.out.le; omega⟩⟩
  case round =>
   clear AS HG
   obtain ⟨t, B1, n1, m1, Vx, l, rfl, AI, HT⟩ := hrel
   go_wp2_with (first | (go_at_call 28; (with_reducible refine (skip_calls t (arr39 HT.out HN.out) _).mono ?_); rintro e0 W3 ⟨t1, rfl, hp, hb⟩; have HP1 := sd hp; have A3 := sd (AI.out.below hb); clear hp hb) | (go_at_call 30; (with_reducible refine (HV.out.use t1 _ B1 n1 m1 d (arr_le HP1.out HT.out) A3.out.run.st (arr36 HP1.out HT.out HN.out) h0 h1).mono ?_); rintro e0 W4 ⟨hfr, hcs⟩; have RF := sd (A3.out.run.fr.trans A3.out.run.up hfr A3.out.run.old); clear hfr; rcases hcs with ⟨vb, vo, tail, B2, n2, m2, rfl, ht1, ht2, hr, hl, _⟩ | ⟨a, ea, rfl⟩; have A4 := sd (A3.out.then_ hr); obtain ⟨kc, kf⟩ := A4.out.now; have HZ := sd (arr_next HP1.out HT.out ht1 ht2); clear hr hl ht1 ht2 HP1) | (at_builtin; refine hold_mk ?_) | (go_at_call 32; (with_reducible refine (err_new _ _).mono ?_); rintro e0 W ⟨ea, rfl, hb⟩; have RE := sd (RF.out.below hb (fun b e => (RU.out.old b e).2)); clear hb))
   ·refine hold_of ?_
    obtain ⟨xs, ho⟩ := A4.out.own
    refine wpList_append_own _ rfl _ _ 84 rfl w.heap.size 46 i0 (.pointer none) 1 8 Tryz.underlying84 hi hz0 hz1 hz2 rfl (by decide) Vx l xs rfl (ho.alloc _) ⟨_, 0, none⟩ 1 1 [.pointer (some ⟨vb, vo, none⟩)] rfl rfl (new_cell _ _ _) (one_ptr _) (arr_len HT.out HN.out) (arr_bytes HT.out HN.out) (arr_base A4.out) ?_
    intro Vx' W5 ho5 hg5 _
    obtain ⟨Ax, lx, cx, hvx⟩ := own_slice ho5
    subst hvx
    have A5 := sd ((A4.out.below (below_alloc (Below.refl _ _) _)).push hg5 ho5)
    obtain ⟨kc5, kf5⟩ := (A4.out.below (below_alloc (Below.refl _ _) _)).at_ hg5
    clear ho ho5 hg5 kc kf
    go_wp2_with (first | (go_at_call 28; (with_reducible refine (skip_calls tail (tail39 HZ.out HN.out) _).mono ?_); rintro e0 W6 ⟨t2, rfl, hp, hb⟩; have HP2 := sd hp; have A6 := sd (A5.out.below hb); have RF := sd A6.out.run.fr; clear hp hb kc5 kf5; rcases head_cases2 t2 44 93 with t0 | ⟨t0, z0, z1, hx, hpos, (t44 | ⟨t44, (t93 | t93)⟩)⟩) | (go_at_call 32; (with_reducible refine (err_new _ _).mono ?_); rintro e0 W ⟨ea, rfl, hb⟩; have RE := sd (RF.out.below hb (fun b e => (RU.out.old b e).2)); clear hb))
    ·go_ret3
     exact ⟨RE.out, .inr ⟨_, _, rfl⟩⟩
    ·go_roundw
     case rel => exact ⟨_, B2, n2, m2, _, l + 1, rfl, A6, ⟨arr_rel HP2.out HZ.out⟩⟩
     case measure => exact arr_meas HP2.out HZ.out
    ·go_ret3
     exact pv_arr A6.out (arr_sz HP2.out HZ.out) hpos.out (Below.refl _ _) (arr_fin HP2.out HZ.out)
    ·go_ret3
     exact ⟨RE.out, .inr ⟨_, _, rfl⟩⟩
   ·go_ret3
    exact ⟨RE.out, .inr ⟨_, _, rfl⟩⟩
/-- The members' row. -/
def KvRow (base : Nat) (W : World) (A : Option Addr) (l c : Nat) : Prop :=
 (A = none ∧ l = 0 ∧ c = 0) ∨ ∃ G cur, A = some ⟨G, 0, none⟩ ∧ base ≤ G ∧ W.heap[G]? = some (.cells cur 127 (0, 0)) ∧ cur.size = 2 * c ∧ l ≤ c ∧ c ≤ maxLen
/-- While an object is read. -/
structure ObjI (w W : World) (pb : Nat) (bs : Value) (B : Option Nat) (n : Nat) (B1 : Option Nat) (n1 m1 ab ao : Nat) (A : Option Addr) (l c : Nat) : Prop where
 run : Run w W pb bs B n B1 n1 m1
 loc : Loc W pb B1 n1 ab ao
 new : NewL w B n ab ao
 typ : W.cell? ⟨ab, ao + 4, none⟩ = some (.int .i64 1)
 str : W.cell? ⟨ab, ao + 3, none⟩ = some (.string ⟨#[]⟩)
 cell : W.cell? ⟨ab, ao, none⟩ = some (.slice A l c)
 row : KvRow w.heap.size W A l c
section
variable {w W W2 : World} {pb n m n1 m1 n2 m2 ab ao l c : Nat} {bs : Value} {B B1 B2 : Option Nat} {A : Option Addr}
theorem Env.of_heap {a b : World} (h : Env a b) : Env a b := h
theorem Run.of_heap (h : Run w W pb bs B n B1 n1 m1) (e : W2.heap = W.heap) (he : Env W W2) : Run w W2 pb bs B n B1 n1 m1 :=
 ⟨h.st.of_heap e, ⟨h.fr.env.then_ he, by rw [e]; exact h.fr.size, fun k hk hp hb => by rw [e]; exact h.fr.blk k hk hp hb, fun b cur hb hc => by rw [e]; exact h.fr.old b cur hb hc⟩, h.up, h.old⟩
theorem cell_of_heap (e : W2.heap = W.heap) (p : Addr) : W2.cell? p = W.cell? p := World.cell?_of_block (by rw [e])
theorem Loc.of_heap {vb vo : Nat} (h : Loc W pb B1 n1 vb vo) (e : W2.heap = W.heap) : Loc W2 pb B1 n1 vb vo := ⟨by rw [e]; exact h.lt, h.ne, h.inb, by rw [e]; exact h.blk⟩
theorem ObjI.of_heap (h : ObjI w W pb bs B n B1 n1 m1 ab ao A l c) (e : W2.heap = W.heap) (he : Env W W2) : ObjI w W2 pb bs B n B1 n1 m1 ab ao A l c :=
 ⟨h.run.of_heap e he, h.loc.of_heap e, h.new, (cell_of_heap e _).trans h.typ, (cell_of_heap e _).trans h.str, (cell_of_heap e _).trans h.cell, by unfold KvRow; rw [e]; exact h.row⟩
/-- The members' block is none of the others. -/
theorem ObjI.far (h : ObjI w W pb bs B n B1 n1 m1 ab ao A l c) {G : Nat} {cur : Array Value} (hc : W.heap[G]? = some (.cells cur 127 (0, 0))) : G ≠ pb ∧ some G ≠ B1 ∧ G ≠ ab ∧ G < W.heap.size := by
 refine ⟨fun e => ?_, fun e => ?_, fun e => ?_, blk_lt hc⟩
 ·subst e; rw [h.run.st.hp] at hc; simp at hc
 ·rcases h.run.st.hb with ⟨h0, _⟩ | ⟨b, cur, h0, h1, _⟩
  ·rw [h0] at e; cases e
  ·rw [h0] at e
   obtain rfl := Option.some.inj e
   rw [h1] at hc; simp at hc
 ·subst e
  obtain ⟨cur2, hc2, _⟩ := h.loc.blk
  rw [hc2] at hc; simp at hc
theorem ObjI.below (h : ObjI w W pb bs B n B1 n1 m1 ab ao A l c) (hb : Below W.heap.size W W2) : ObjI w W2 pb bs B n B1 n1 m1 ab ao A l c := by
 obtain ⟨hl, hc⟩ := h.loc.below hb
 refine ⟨h.run.below hb, hl, h.new, (hc 4).trans h.typ, (hc 3).trans h.str, (hc 0).trans h.cell, ?_⟩
 rcases h.row with h0 | ⟨G, cur, h0, h1, h2, h3⟩
 ·exact .inl h0
 ·exact .inr ⟨G, cur, h0, h1, blk_below h2 hb, h3⟩
theorem ObjI.then_ (h : ObjI w W pb bs B n B1 n1 m1 ab ao A l c) (hr : Run W W2 pb bs B1 n1 B2 n2 m2) : ObjI w W2 pb bs B n B2 n2 m2 ab ao A l c := by
 obtain ⟨hl, hc⟩ := h.loc.step hr.fr hr.up
 refine ⟨h.run.then_ hr.st hr.fr hr.up, hl, h.new, (hc 4 (by omega)).trans h.typ, (hc 3 (by omega)).trans h.str, (hc 0 (by omega)).trans h.cell, ?_⟩
 rcases h.row with h0 | ⟨G, cur, h0, h1, h2, h3⟩
 ·exact .inl h0
 ·obtain ⟨f1, f2, f3, f4⟩ := h.far h2
  exact .inr ⟨G, cur, h0, h1, (hr.fr.blk G f4 f1 f2).trans h2, h3⟩
theorem ObjI.now (h : ObjI w W pb bs B n B1 n1 m1 ab ao A l c) : W.frozen? ⟨ab, ao, none⟩ = false := (h.loc.cell 0 (by omega)).2
/-- A store into a member. -/
theorem ObjI.kvset {G j : Nat} (h : ObjI w W pb bs B n B1 n1 m1 ab ao (some ⟨G, 0, none⟩) l c) (u : Value) : ObjI w (W.setCell ⟨G, j, none⟩ u) pb bs B n B1 n1 m1 ab ao (some ⟨G, 0, none⟩) l c := by
 rcases h.row with ⟨h0, _⟩ | ⟨G', cur, h0, h1, h2, h3⟩
 ·cases h0
 have e : G = G' := by have := Option.some.inj h0; exact congrArg Addr.block this
 subst e
 obtain ⟨f1, f2, f3, f4⟩ := h.far h2
 have hlt : ∀ b, B = some b → b < w.heap.size := fun b hb => (h.run.old b hb).2
 have hg : W.grownBy (W.setCell ⟨G, j, none⟩ u) (some G) := ⟨rfl, rfl, rfl, by rw [World.size_setCell]; exact Nat.le_refl _, fun k hk hne => Below.heap_setCell W _ u k (fun e => hne (congrArg some e))⟩
 have hst := h.run.st.grown hg (fun e => f1 (Option.some.inj e).symm) (fun b hb e => f2 (by rw [hb]; exact e.symm))
 have hfr := h.run.fr.grown hg (fun k hk => by have := Option.some.inj hk; omega) hlt
 obtain ⟨hl, hc⟩ := h.loc.grown hg (fun e => f3 (Option.some.inj e).symm)
 exact ⟨⟨hst, hfr, h.run.up, h.run.old⟩, hl, h.new, (hc 4).trans h.typ, (hc 3).trans h.str, (hc 0).trans h.cell, .inr ⟨G, _, rfl, h1, blk_set h2 j u, by rw [Array.size_setIfInBounds]; exact h3.1, h3.2⟩⟩
/-- A member's cells are there. -/
theorem ObjI.kv {G : Nat} (h : ObjI w W pb bs B n B1 n1 m1 ab ao (some ⟨G, 0, none⟩) (l + 1) c) (i : Nat) (hi : i < 2) : (∃ v, W.cell? ⟨G, l * 2 + i, none⟩ = some v) ∧ W.frozen? ⟨G, l * 2 + i, none⟩ = false := by
 rcases h.row with ⟨h0, _⟩ | ⟨G', cur, h0, h1, h2, h3, h4, _⟩
 ·cases h0
 have e : G = G' := by have := Option.some.inj h0; exact congrArg Addr.block this
 subst e
 rw [blk_cell h2]
 exact ⟨⟨cur[l * 2 + i]'(by omega), Array.getElem?_eq_getElem (by omega)⟩, blk_frozen h2 _⟩
theorem ObjI.kv_k {G : Nat} (h : ObjI w W pb bs B n B1 n1 m1 ab ao (some ⟨G, 0, none⟩) (l + 1) c) : (∃ v, W.cell? ⟨G, l * 2, none⟩ = some v) ∧ W.frozen? ⟨G, l * 2, none⟩ = false := h.kv 0 (by omega)
/-- A member's value is stored behind a part of the parser that may have failed. -/
theorem ObjI.kv_v {G : Nat} (h : ObjI w W pb bs B n B1 n1 m1 ab ao (some ⟨G, 0, none⟩) (l + 1) c) (hf : Fr W W2 pb B1 n1) :
  (∃ v, W2.cell? ⟨G, l * 2 + 1, none⟩ = some v) ∧ W2.frozen? ⟨G, l * 2 + 1, none⟩ = false ∧ ∀ u, Fr w (W2.setCell ⟨G, l * 2 + 1, none⟩ u) pb B n := by
 obtain ⟨⟨v, hv⟩, hz⟩ := h.kv 1 (by omega)
 rcases h.row with ⟨h0, _⟩ | ⟨G', cur, h0, h1, h2, h3, h4, _⟩
 ·cases h0
 have e : G = G' := by have := Option.some.inj h0; exact congrArg Addr.block this
 subst e
 obtain ⟨f1, f2, f3, f4⟩ := h.far h2
 have hk := hf.blk G f4 f1 f2
 have hfr := h.run.fr.trans h.run.up hf h.run.old
 have hg : W2.grownBy (W2.setCell ⟨G, l * 2 + 1, none⟩ (.int .i64 0)) (some G) := ⟨rfl, rfl, rfl, by rw [World.size_setCell]; exact Nat.le_refl _, fun k hk hne => Below.heap_setCell W2 _ _ k (fun e => hne (congrArg some e))⟩
 refine ⟨⟨v, (World.cell?_of_block hk).trans hv⟩, (World.frozen?_of_block hk).trans hz, fun u => ?_⟩
 exact hfr.grown (row := some G) ⟨rfl, rfl, rfl, by rw [World.size_setCell]; exact Nat.le_refl _, fun k hk hne => Below.heap_setCell W2 _ u k (fun e => hne (congrArg some e))⟩ (fun k hk => by have := Option.some.inj hk; omega) (fun b hb => (h.run.old b hb).2)
theorem ObjI.hdr (h : ObjI w W pb bs B n B1 n1 m1 ab ao A l c) {A' : Option Addr} {l' c' : Nat} (hrow : KvRow w.heap.size W A' l' c') : ObjI w (W.setCell ⟨ab, ao, none⟩ (.slice A' l' c')) pb bs B n B1 n1 m1 ab ao A' l' c' := by
 obtain ⟨r1, r2, r3⟩ := h.run.set h.loc h.new 0 (by omega) (.slice A' l' c')
 refine ⟨r1, r2, h.new, ?_, ?_, ?_, ?_⟩
 ·have := r3 4; rw [if_neg (by omega)] at this; exact this.trans h.typ
 ·have := r3 3; rw [if_neg (by omega)] at this; exact this.trans h.str
 ·have := r3 0; rw [if_pos rfl] at this; exact this
 ·rcases hrow with h0 | ⟨G, cur, h0, h1, h2, h3⟩
  ·exact .inl h0
  ·exact .inr ⟨G, cur, h0, h1, blk_far h2 (h.far h2).2.2.1 _, h3⟩
/-- getKV. -/
theorem gk_any (h : ObjI w W pb bs B n B1 n1 m1 ab ao A l c) (hb : (l + 1) * 24 ≤ 140737488355328) :
  Calls Tryz.prog 73 #[.pointer (some ⟨ab, ao, none⟩)] W fun e w' => ∃ G c', e = .returned (.pointer (some ⟨G, l * 2, none⟩)) ∧ ObjI w w' pb bs B n B1 n1 m1 ab ao (some ⟨G, 0, none⟩) (l + 1) c' := by
 have hs9 : w.heap.size ≤ W.heap.size := h.run.fr.size
 have zk : ∀ (olds : List Value) (q : Nat), olds.length = l * 2 → ((olds ++ zKv).toArray ++ Builtin.zeroCells zKv.toArray q).size = 2 * (l + 1 + q) := fun olds q ho => by
  rw [Array.size_append, size_zeroCells, List.size_toArray, List.length_append, ho]
  show l * 2 + 2 + q * 2 = _
  omega
 have grow : ∀ (olds : List Value), olds.length = l * 2 → (A = none ∧ l = 0 ∧ olds = [] ∨ ∃ b, A = some b ∧ olds.length = l * 2 ∧ ∀ j v, olds[j]? = some v → W.cell? (b.add j) = some v) → c = l →
   Calls Tryz.prog 73 #[.pointer (some ⟨ab, ao, none⟩)] W fun e w' => ∃ G c', e = .returned (.pointer (some ⟨G, l * 2, none⟩)) ∧ ObjI w w' pb bs B n B1 n1 m1 ab ao (some ⟨G, 0, none⟩) (l + 1) c' := by
  intro olds ho hA hcl
  subst hcl
  refine (gk_grow W ab ao A c olds h.cell h.now hA hb).mono ?_
  rintro e w' ⟨g, c', W3, rfl, k1, k2, hG, hh, he⟩
  have h3 := h.below hG.bel
  have h4 := h3.hdr (A' := some ⟨g, 0, none⟩) (l' := c + 1) (c' := c') (.inr ⟨g, _, rfl, Nat.le_trans hs9 hG.ge, hG.blk, by rw [zk olds _ ho]; omega, k1, k2⟩)
  refine ⟨g, c', rfl, h4.of_heap hh ?_⟩
  have hb3 := Env.of_below hG.bel
  exact ⟨he.1.trans hb3.1.symm, he.2.1.trans hb3.2.1.symm, he.2.2.trans hb3.2.2.symm⟩
 rcases h.row with ⟨rfl, rfl, rfl⟩ | ⟨G, cur, rfl, h1, h2, h3, h4, h5⟩
 ·exact grow [] rfl (.inl ⟨rfl, rfl, rfl⟩) rfl
 ·by_cases hlt : l < c
  ·refine (gk_room W ab ao G l c h.cell h.now hlt (by simp only [maxLen] at h5; omega)).mono ?_
   rintro e w' ⟨rfl, hh, he⟩
   have h4 := h.hdr (A' := some ⟨G, 0, none⟩) (l' := l + 1) (c' := c) (.inr ⟨G, cur, rfl, h1, h2, h3, by omega, h5⟩)
   exact ⟨G, c, rfl, h4.of_heap hh he⟩
  ·have hcl : c = l := by omega
   refine grow cur.toList (by rw [Array.length_toList]; omega) (.inr ⟨_, rfl, by rw [Array.length_toList]; omega, fun j v hj => ?_⟩) hcl
   have hadd : (⟨G, 0, none⟩ : Addr).add j = ⟨G, j, none⟩ := by unfold Addr.add; split <;> simp_all
   rw [hadd, blk_cell h2]
   simpa using hj
end
section
variable {w W1 W2 W3 : World} {pb n m g c : Nat} {bs : Value} {B : Option Nat}
/-- What 'reset' asks of an empty Value whose kind is written. -/
theorem reset_cells (hg : GvP W1 W2 pb bs B n g c) (u : Value) :
  (W2.setCell ⟨g, n * 5 + 4, none⟩ u).cell? ⟨g, n * 5, none⟩ = some (.slice none 0 0) ∧ (W2.setCell ⟨g, n * 5 + 4, none⟩ u).frozen? ⟨g, n * 5, none⟩ = false ∧
  (W2.setCell ⟨g, n * 5 + 4, none⟩ u).cell? ⟨g, n * 5 + 1, none⟩ = some (.bool false) ∧ (W2.setCell ⟨g, n * 5 + 4, none⟩ u).frozen? ⟨g, n * 5 + 1, none⟩ = false := by
 obtain ⟨h1, h2, h3⟩ := hg.loc.set hg.st 4 (by omega) u
 refine ⟨?_, (h2.cell 0 (by omega)).2, ?_, (h2.cell 1 (by omega)).2⟩
 ·have := h3 0; rw [if_neg (by omega)] at this; exact this.trans ((hg.zero 0 (by omega)).trans rfl)
 ·have := h3 1; rw [if_neg (by omega)] at this; exact this.trans ((hg.zero 1 (by omega)).trans rfl)
theorem obj_start (h : Run w W1 pb bs B n B n m) (hg : GvP W1 W2 pb bs B n g c) (hh : W3.heap = (((W2.setCell ⟨g, n * 5 + 4, none⟩ (.int .i64 1)).setCell ⟨g, n * 5, none⟩ (.slice none 0 0)).setCell ⟨g, n * 5 + 1, none⟩ (.bool false)).heap) (he : Env (W2.setCell ⟨g, n * 5 + 4, none⟩ (.int .i64 1)) W3) :
  ObjI w W3 pb bs B n (some g) (n + 1) c g (n * 5) none 0 0 := by
 have hn := h.newL hg.new
 obtain ⟨r1, l1, c1⟩ := (h.gv hg).set hg.loc hn 4 (by omega) (.int .i64 1)
 obtain ⟨r2, l2, c2⟩ := r1.set l1 hn 0 (by omega) (.slice none 0 0)
 obtain ⟨r3, l3, c3⟩ := r2.set l2 hn 1 (by omega) (.bool false)
 have hr := r3.of_heap (W2 := W3) hh he
 refine ⟨hr, l3.of_heap hh, hn, ?_, ?_, ?_, .inl ⟨rfl, rfl, rfl⟩⟩
 ·rw [cell_of_heap hh]
  have e := c3 4; rw [if_neg (by omega), c2, if_neg (by omega), c1, if_pos rfl] at e
  exact e
 ·rw [cell_of_heap hh]
  have e := c3 3; rw [if_neg (by omega), c2, if_neg (by omega), c1, if_neg (by omega)] at e
  exact e.trans ((hg.zero 3 (by omega)).trans rfl)
 ·rw [cell_of_heap hh]
  have e := c3 0; rw [if_neg (by omega), c2, if_pos rfl] at e
  exact e
end
/-- An object is returned. -/
theorem pv_obj {w W W2 : World} {pb n n1 m1 ab ao l c : Nat} {bs : Value} {B B1 : Option Nat} {A : Option Addr} {s s1 : ByteArray} (h : ObjI w W pb bs B n B1 n1 m1 ab ao A l c) (hs : s1.size ≤ s.size) (hp : 0 < s1.size) (hb : Below W.heap.size W W2) (hn : n1 + s1.size ≤ n + s.size + 1) :
  PvP (fun t => t = 1) w pb bs B n s (.returned (.tuple #[.pointer (some ⟨ab, ao, none⟩), .string (s1.extract 1 s1.size), .nilIface])) W2 := by
 have h2 := h.below hb
 have hz := cut1 s1
 exact ⟨h2.run.fr, .inl ⟨ab, ao, _, B1, n1, m1, rfl, by rw [hz]; omega, by rw [hz]; omega, h2.run, h2.loc, 1, ⟨#[]⟩, h2.typ, h2.str, Nat.zero_le _, rfl, h2.new⟩⟩
/-- How a text begins: by a sign, or not. -/
theorem head_ne (s : ByteArray) (c : Int) : (((s.size : Int) == 0) = true) ∨ (((s.size : Int) == 0) = false ∧ ((0 < s.size) = True) ∧ (((1 : Int) ≤ (s.size : Int)) = True) ∧ (∀ h : 0 < s.size, ((s[0]'h).toNat : Int) = bt s 0) ∧ Aside0 (0 < s.size) ∧ (((bt s 0 == c) = true ∧ (bt s 0 != c) = false) ∨ ((bt s 0 == c) = false ∧ (bt s 0 != c) = true))) := by
 rcases head_cases s c with h | ⟨h1, h2, h3, h4, h5, h6 | h6⟩
 ·exact .inl h
 ·exact .inr ⟨h1, h2, h3, h4, h5, .inl ⟨h6, by rw [bne, h6]; rfl⟩⟩
 ·exact .inr ⟨h1, h2, h3, h4, h5, .inr ⟨h6, by rw [bne, h6]; rfl⟩⟩
theorem obj_b24 {n n1 l : Nat} {s t : ByteArray} (h : n1 + t.size ≤ n + s.size + 1 ∧ l + t.size ≤ s.size) (hn : n + s.size + 1 < 2 ^ 36) : (l + 1) * 24 ≤ 140737488355328 := by omega
theorem obj_k40 {n n1 l : Nat} {s t t1 : ByteArray} (h1 : t1.size ≤ t.size) (h : n1 + t.size ≤ n + s.size + 1 ∧ l + t.size ≤ s.size) (hn : n + s.size + 1 < 2 ^ 36) : (t1.extract 1 t1.size).size < 2 ^ 40 := by rw [cut1]; omega
theorem rawP_form {s : ByteArray} {w w' : World} {e : Ending} (h : RawP s w e w') : Below w.heap.size w w' ∧ ∃ (x tl : ByteArray) (er : Value), e = .returned (.tuple #[.string x, .string tl, er]) ∧ ((er = .nilIface ∧ x.size ≤ s.size ∧ tl.size + 1 ≤ s.size) ∨ ∃ ea : Addr, er = .iface 101 (.pointer (some ea))) := by
 obtain ⟨hb, ⟨ss, tl, rfl, h1, h2⟩ | ⟨a, b, ea, rfl⟩⟩ := h
 ·exact ⟨hb, _, _, _, rfl, .inl ⟨rfl, h1, h2⟩⟩
 ·exact ⟨hb, _, _, _, rfl, .inr ⟨ea, rfl⟩⟩
theorem pvP_form {T : Int → Prop} {w w' : World} {pb n : Nat} {bs : Value} {B : Option Nat} {s : ByteArray} {e : Ending} (h : PvP T w pb bs B n s e w') : Fr w w' pb B n ∧ ∃ (vp : Option Addr) (tl : ByteArray) (er : Value), e = .returned (.tuple #[.pointer vp, .string tl, er]) ∧
  ((er = .nilIface ∧ ∃ (B' : Option Nat) (n' m' : Nat), tl.size + 1 ≤ s.size ∧ n' + tl.size ≤ n + s.size ∧ Run w w' pb bs B n B' n' m') ∨ ∃ ea : Addr, er = .iface 101 (.pointer (some ea))) := by
 obtain ⟨hf, ⟨vb, vo, tail, B', n', m', rfl, h1, h2, hr, _⟩ | ⟨a, ea, rfl⟩⟩ := h
 ·exact ⟨hf, _, _, _, rfl, .inl ⟨rfl, B', n', m', h1, h2, hr⟩⟩
 ·exact ⟨hf, _, _, _, rfl, .inr ⟨ea, rfl⟩⟩
section
variable {n n1 n2 l : Nat} {s t t1 t2 t4 tail1 tail2 : ByteArray}
theorem obj_h2 (h1 : t1.size ≤ t.size) (h2 : tail1.size + 1 ≤ (t1.extract 1 t1.size).size) : tail1.size + 2 ≤ t.size := by rw [cut1] at h2; omega
theorem obj_39 (h2 : tail1.size + 2 ≤ t.size) (h : n1 + t.size ≤ n + s.size + 1 ∧ l + t.size ≤ s.size) (hn : n + s.size + 1 < 2 ^ 36) : tail1.size < 2 ^ 39 := by omega
theorem obj_h3 (hp : SkipP tail1 t2) (h2 : tail1.size + 2 ≤ t.size) : t2.size + 2 ≤ t.size := by have := hp.le; omega
theorem obj_39b (h3 : t2.size + 2 ≤ t.size) (h : n1 + t.size ≤ n + s.size + 1 ∧ l + t.size ≤ s.size) (hn : n + s.size + 1 < 2 ^ 36) : (t2.extract 1 t2.size).size < 2 ^ 39 := by rw [cut1]; omega
theorem obj_h4 (hp : SkipP (t2.extract 1 t2.size) t4) (h3 : t2.size + 2 ≤ t.size) (h0 : 0 < t2.size) : t4.size + 3 ≤ t.size := by have := hp.le; rw [cut1] at this; omega
theorem obj_le (h4 : t4.size + 3 ≤ t.size) (h : n1 + t.size ≤ n + s.size + 1 ∧ l + t.size ≤ s.size) : t4.size ≤ s.size := by omega
theorem obj_36 (h4 : t4.size + 3 ≤ t.size) (h : n1 + t.size ≤ n + s.size + 1 ∧ l + t.size ≤ s.size) (hn : n + s.size + 1 < 2 ^ 36) : n1 + t4.size < 2 ^ 36 := by omega
theorem obj_h5 (h4 : t4.size + 3 ≤ t.size) (h : n1 + t.size ≤ n + s.size + 1 ∧ l + t.size ≤ s.size) (g1 : tail2.size + 1 ≤ t4.size) (g2 : n2 + tail2.size ≤ n1 + t4.size) : n2 + tail2.size ≤ n + s.size + 1 ∧ l + 1 + tail2.size ≤ s.size ∧ tail2.size < t.size := by omega
end
set_option maxHeartbeats 8000000 in
set_option maxRecDepth 100000 in
theorem obj_calls (T : ByteArray → Int → Prop) (pb : Nat) (bs : Value) (s : ByteArray) (w : World) (B : Option Nat) (n m : Nat) (d : Int) (hV : VC T pb bs s.size) (hS : St w pb bs B n m) (hn : n + s.size + 1 < 2 ^ 36) (h0 : 0 ≤ d) (h1 : d ≤ 300) :
  Calls Tryz.prog 45 #[.pointer (some ⟨pb, 1, none⟩), .string s, .int .i64 d] w (PvP (fun t => t = 1) w pb bs B n s) := by
 have HV := sd hV
 have HN := sd hn
 have RU := sd (Run.start hS)
 clear hV hS hn
 go_enter Tryz.func45, Tryz.ntmps45
 go_wp2_with (first | (go_at_call 28; (with_reducible refine (skip_calls s (lt39 HN.out) w).mono ?_); rintro e0 W1 ⟨s1, rfl, hp, hb⟩; have HP := sd hp; have R1 := sd (RU.out.below hb); clear hp hb; rcases head_cases s1 125 with t0 | ⟨t0, z0, z1, hx, hpos, (t125 | t125)⟩) | (go_at_call 32; (with_reducible refine (err_new _ _).mono ?_); rintro e0 W ⟨ea, rfl, hb⟩; have RE := sd (R1.out.fr.below hb (fun b e => (R1.out.old b e).2)); clear hb) | (go_at_call 48; (with_reducible refine (gv_any _ pb bs B n m R1.out.st (gv_bound HN.out)).mono ?_); rintro e0 W2 ⟨g, c, rfl, hg⟩; have HG := sd hg; obtain ⟨k4, f4, k2, f2⟩ := gv_cells hg; obtain ⟨j0, j1, j2, j3⟩ := reset_cells hg (.int .i64 1); clear hg k2 f2) | (go_at_call 72; (with_reducible refine (reset_nil _ g (n * 5) j0 j1 _ j2 j3).mono ?_); rintro e0 W3 ⟨rfl, hh, he⟩; have OS := sd (obj_start R1.out HG.out hh he); clear hh he j0 j1 j2 j3 k4 f4))
 ·go_ret3
  exact ⟨RE.out, .inr ⟨_, _, rfl⟩⟩
 ·go_quiet (fail)
  go_wp2
  go_ret3
  exact pv_obj OS.out HP.out.le hpos.out (below_draws (Below.refl _ _) _) (by have := HP.out.le; omega)
 ·clear z0 z1 hx t125 t0
  go_loopw [1] (fun v wr => ∃ (t : ByteArray) (B1 : Option Nat) (n1 m1 : Nat) (A : Option Addr) (l c1 : Nat), v = .string t ∧ Aside0 (ObjI w wr pb bs B n B1 n1 m1 g (n * 5) A l c1) ∧ Aside0 (n1 + t.size ≤ n + s.size + 1 ∧ l + t.size ≤ s.size)) (fun v _ => strLen v)
  case atStart => exact ⟨s1, _, _, _, _, 0, _, rfl, OS, ⟨by have := HP.out.le; omega, by have := HP.out.le; omega⟩⟩
  case round =>
   clear OS HG
   obtain ⟨t, B1, n1, m1, A, l, c1, rfl, AI, HT⟩ := hrel
   go_wp2_with (first | (go_at_call 73; (with_reducible refine (gk_any AI.out (obj_b24 HT.out HN.out)).mono ?_); rintro e0 W4 ⟨G, c2, rfl, ha⟩; have A2 := sd ha; clear ha) | (go_at_call 28; (with_reducible refine (skip_calls t (arr39 HT.out HN.out) _).mono ?_); rintro e0 W5 ⟨t1, rfl, hp, hb⟩; have H1 := sd hp.le; have A3 := sd (A2.out.below hb); have RF := sd A3.out.run.fr; clear hp hb; rcases head_ne t1 34 with t0 | ⟨t0, z0, z1, hx, hpos, (⟨t34, u34⟩ | ⟨t34, u34⟩)⟩) | (go_at_call 74; (with_reducible refine (rawKey (t1.extract 1 t1.size) (obj_k40 H1.out HT.out HN.out) _ (fun W => rawStr _ (obj_k40 H1.out HT.out HN.out) W)).mono ?_); rintro e0 W6 hraw; obtain ⟨hb, x, tail1, er, rfl, hcs⟩ := rawP_form hraw; have A4 := sd (A3.out.below hb); obtain ⟨⟨kv0, kc0⟩, kf0⟩ := A4.out.kv_k; have A5 := sd (A4.out.kvset (j := l * 2) (.string x)); have RF := sd A5.out.run.fr; clear hb z0 z1 hx t0 hraw; rcases hcs with ⟨rfl, g1, g2⟩ | ⟨ea, rfl⟩; have H2 := sd (obj_h2 H1.out g2); clear g1 g2) | (go_at_call 28; (with_reducible refine (skip_calls tail1 (obj_39 H2.out HT.out HN.out) _).mono ?_); rintro e0 W7 ⟨t2, rfl, hp, hb⟩; have H3 := sd (obj_h3 hp H2.out); have A6 := sd (A5.out.below hb); have RF := sd A6.out.run.fr; clear hp hb kc0 kf0; rcases head_ne t2 58 with t0 | ⟨t0, z0, z1, hx, hpos, (⟨t58, u58⟩ | ⟨t58, u58⟩)⟩) | (go_at_call 28; (with_reducible refine (skip_calls (t2.extract 1 t2.size) (obj_39b H3.out HT.out HN.out) _).mono ?_); rintro e0 W8 ⟨t4, rfl, hp, hb⟩; have H4 := sd (obj_h4 hp H3.out hpos.out); have A7 := sd (A6.out.below hb); clear hp hb z0 z1 hx t0) | (go_at_call 30; (with_reducible refine (HV.out.use t4 _ B1 n1 m1 d (obj_le H4.out HT.out) A7.out.run.st (obj_36 H4.out HT.out HN.out) h0 h1).mono ?_); rintro e0 W9 hpv; obtain ⟨hfr, vp, tail2, er, rfl, hcs⟩ := pvP_form hpv; obtain ⟨⟨kv1, kc1⟩, kf1, hrf⟩ := A7.out.kv_v hfr; have RF := sd (hrf (.pointer vp)); clear hpv hfr hrf; rcases hcs with ⟨rfl, B2, n2, m2, g1, g2, hr⟩ | ⟨ea, rfl⟩; have A8 := sd ((A7.out.then_ hr).kvset (j := l * 2 + 1) (.pointer vp)); have H5 := sd (obj_h5 H4.out HT.out g1 g2); clear g1 g2 hr) | (go_at_call 28; (with_reducible refine (skip_calls tail2 (tail39 H5.out HN.out) _).mono ?_); rintro e0 W10 ⟨t5, rfl, hp, hb⟩; have H6 := sd hp; have A9 := sd (A8.out.below hb); have RF := sd A9.out.run.fr; clear hp hb kc1 kf1; rcases head_cases2 t5 44 125 with t0 | ⟨t0, z0, z1, hx, hpos, (t44 | ⟨t44, (t93 | t93)⟩)⟩) | (go_at_call 32; (with_reducible refine (err_new _ _).mono ?_); rintro e0 W ⟨ea, rfl, hb⟩; have RE := sd (RF.out.below hb (fun b e => (RU.out.old b e).2)); clear hb))
   all_goals first
    | (go_ret3; exact ⟨RE.out, .inr ⟨_, _, rfl⟩⟩)
    | (go_quiet (fail); go_wp2; go_ret3; exact pv_obj A9.out (arr_sz H6.out H5.out) hpos.out (below_draws (Below.refl _ _) _) (arr_fin H6.out H5.out))
    | skip
   go_roundw
   case rel => exact ⟨_, B2, n2, m2, _, l + 1, _, rfl, A9, ⟨arr_rel H6.out H5.out⟩⟩
   case measure => exact arr_meas H6.out H5.out
end Go.Proofs.YtaihmpdhaikfkaaGreatDoor.PFnFjFloat
