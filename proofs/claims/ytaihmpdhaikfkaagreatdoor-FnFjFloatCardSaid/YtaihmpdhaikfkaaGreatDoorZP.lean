/- Part of the proof that laws.FnFjFloat answers true for every input (the card: text ZF). -/
import Derived.Test.YtaihmpdhaikfkaaGreatDoorZO
import Derived.Laws.Externs
set_option linter.all false
/- The reference's Nearest and NearestTo (functions 13 and 5). -/
namespace Go.Proofs.YtaihmpdhaikfkaaGreatDoor.PFnFjFloat
open Go.RowKit Go.Proofs.YtaihmpdhaikfkaaGreatDoorW.PrintWords Go.Proofs.YtaihmpdhaikfkaaGreatDoorW.PrintLast Go.Proofs.YtaihmpdhaikfkaaGreatDoorW.PrintMore
theorem run_frombits (n : Int) (W : World) : (callFunc 26 #[.int .u64 n]).run Tryz.prog W = .ok (.value (.float .f64 n.toNat)) W := by
 rw [run_callFunc_extern Tryz.func26 (by kernel_rfl) (by kernel_rfl) (by kernel_rfl) (e := Extern.MathFloatBits.float64frombits) (by kernel_rfl)]
 rfl
/-- A float's word with its sign. -/
def sgb (neg : Bool) (b : Nat) : Nat := if neg then b + 9223372036854775808 else b
theorem or_sign (b : Nat) (h : b < 9223372036854775808) : (Go.bits .or .u64 (b : Int) 9223372036854775808).toNat = b + 9223372036854775808 := by
 rw [show (9223372036854775808 : Int) = ((9223372036854775808 : Nat) : Int) by rfl, bits_or_u64_nat _ _ (by omega) (by decide), Nat.or_comm, nat_join 63 9223372036854775808 b (by decide) (by omega), Int.toNat_natCast, Nat.add_comm]
theorem sgb_t (b : Nat) : sgb true b = b + 9223372036854775808 := rfl
theorem sgb_f (b : Nat) : sgb false b = b := rfl
theorem f_t (x b : Nat) (h : x = b + 9223372036854775808) : (Value.float .f64 x) = .float .f64 (sgb true b) := by rw [h]; rfl
theorem f_f (x b : Nat) (h : x = b) : (Value.float .f64 x) = .float .f64 (sgb false b) := by rw [h]; rfl
theorem empty_iff (d : ByteArray) : d.toList = [] ↔ bytesOf d = [] := by
 unfold bytesOf
 rw [ByteArray.toList_eq, List.map_eq_nil_iff]
theorem neg_cell {w W : World} {v d p : Value} {t : TypeId} (h : Below (w.alloc (.cells #[v, d, p] t)).heap.size (w.alloc (.cells #[v, d, p] t)) W) : W.cell? ⟨w.heap.size, 0, none⟩ = some v := by
 have h1 : (w.alloc (.cells #[v, d, p] t)).cell? ⟨w.heap.size, 0, none⟩ = some v := by simp
 exact (h.cell (p := ⟨w.heap.size, 0, none⟩) (World.block_lt_of_cell? _ _ h1)).trans h1
theorem near_c (neg : Bool) (d : ByteArray) (p : Int) (b : Nat) (hb : b < 9223372036854775808) (h0 : d.toList ≠ []) (h1 : -400 ≤ p + (d.size : Int)) (h2 : p + (d.size : Int) ≤ 400) (w : World)
  (hn : ∀ W, Calls Tryz.prog 25 #[.agg #[.bool neg, .string d, .int .i64 p]] W fun e w' => e = .returned (.int .u64 (b : Int)) ∧ Below W.heap.size W w') :
  Calls Tryz.prog 13 #[.agg #[.bool neg, .string d, .int .i64 p]] w fun e w' => e = .returned (.float .f64 (sgb neg b)) ∧ Below w.heap.size w w' := by
 have hf := run_frombits
 have HN := sd hn
 have ho := or_sign b hb
 have w1 : wrap64 (p + (d.size : Int)) = p + (d.size : Int) := Go.IntWalk.wrap64_in _ (by omega)
 have e1 : d.toList.isEmpty = false := by cases h : d.toList with
  | nil => exact absurd h h0
  | cons a b => rfl
 have e2 : decide (p + (d.size : Int) < -400) = false := decide_eq_false (by omega)
 have e3 : decide (400 < p + (d.size : Int)) = false := decide_eq_false (by omega)
 clear hn h1 h2
 cases neg
 ·go_enter Tryz.func13, Tryz.ntmps13
  go_wp2_with (first | (go_at_call 25; (with_reducible refine (HN.out _).mono ?_); rintro e0 W ⟨rfl, hb⟩; have kn := neg_cell hb; have HB := sd hb; clear hb))
  go_wp2
  go_ret
  exact ⟨rfl, below_step (below_alloc (Below.refl _ _) _) HB.out⟩
 ·go_enter Tryz.func13, Tryz.ntmps13
  go_wp2_with (first | (go_at_call 25; (with_reducible refine (HN.out _).mono ?_); rintro e0 W ⟨rfl, hb⟩; have kn := neg_cell hb; have HB := sd hb; clear hb))
  go_wp2
  go_ret
  exact ⟨by rw [sgb_t]; rfl, below_step (below_alloc (Below.refl _ _) _) HB.out⟩
theorem near_quiet (neg : Bool) (d : ByteArray) (p : Int) (b : Nat) (hp : -8000000000000000000 ≤ p + (d.size : Int) ∧ p + (d.size : Int) ≤ 8000000000000000000) (h : (b = 0 ∧ (d.toList = [] ∨ (d.toList ≠ [] ∧ p + (d.size : Int) < -400))) ∨ (b = 9218868437227405312 ∧ d.toList ≠ [] ∧ -400 ≤ p + (d.size : Int) ∧ 400 < p + (d.size : Int))) (w : World) :
  Calls Tryz.prog 13 #[.agg #[.bool neg, .string d, .int .i64 p]] w fun e w' => e = .returned (.float .f64 (sgb neg b)) ∧ Below w.heap.size w w' := by
 have hf := run_frombits
 have ho := or_sign 0 (by decide)
 have ho2 := or_sign 9218868437227405312 (by decide)
 have w1 : wrap64 (p + (d.size : Int)) = p + (d.size : Int) := Go.IntWalk.wrap64_in _ (by omega)
 have ee : d.toList ≠ [] → d.toList.isEmpty = false := fun h0 => by cases h : d.toList with
  | nil => exact absurd h h0
  | cons a b => rfl
 rcases h with ⟨rfl, h0 | ⟨h0, h1⟩⟩ | ⟨rfl, h0, h1, h2⟩
 ·have e1 : d.toList.isEmpty = true := by rw [h0]; rfl
  clear ee
  cases neg <;> go_enter Tryz.func13, Tryz.ntmps13 <;> go_wp2 <;> go_ret
  ·exact ⟨by rw [sgb_f]; rfl, below_alloc (Below.refl _ _) _⟩
  ·exact ⟨by rw [sgb_t]; rfl, below_alloc (Below.refl _ _) _⟩
 ·have e1 := ee h0
  have e2 : decide (p + (d.size : Int) < -400) = true := decide_eq_true h1
  clear ee h1
  cases neg <;> go_enter Tryz.func13, Tryz.ntmps13 <;> go_wp2 <;> go_ret
  ·exact ⟨by rw [sgb_f]; rfl, below_alloc (Below.refl _ _) _⟩
  ·exact ⟨by rw [sgb_t]; rfl, below_alloc (Below.refl _ _) _⟩
 ·have e1 := ee h0
  have e2 : decide (p + (d.size : Int) < -400) = false := decide_eq_false (by omega)
  have e3 : decide (400 < p + (d.size : Int)) = true := decide_eq_true h2
  clear ee h1 h2
  cases neg <;> go_enter Tryz.func13, Tryz.ntmps13 <;> go_wp2 <;> go_ret
  ·exact ⟨by rw [sgb_f]; rfl, below_alloc (Below.refl _ _) _⟩
  ·exact ⟨by rw [sgb_t]; rfl, below_alloc (Below.refl _ _) _⟩
theorem near_all (k : Nat) (hk : 20000000000000000000 ≤ k) (neg : Bool) (d : ByteArray) (hd : d.size ≤ 800) (p : Int) (hp : -2000000000000000 ≤ p ∧ p ≤ 2000000000000000) :
  ∃ b : Nat, (bytesOf d = [] → b = 0) ∧ (bytesOf d ≠ [] → -400 ≤ p + (d.size : Int) → p + (d.size : Int) ≤ 400 → spec_nearest.f k neg d p = some (b : Int)) ∧ ∀ w, Calls Tryz.prog 13 #[.agg #[.bool neg, .string d, .int .i64 p]] w fun e w' => e = .returned (.float .f64 (sgb neg b)) ∧ Below w.heap.size w w' := by
 by_cases h0 : d.toList = []
 ·exact ⟨0, fun _ => rfl, fun h => absurd ((empty_iff d).mp h0) h, fun w => near_quiet neg d p 0 (by omega) (.inl ⟨rfl, .inl h0⟩) w⟩
 have h0' : bytesOf d ≠ [] := fun h => h0 ((empty_iff d).mpr h)
 by_cases h1 : p + (d.size : Int) < -400
 ·exact ⟨0, fun _ => rfl, fun _ h => by omega, fun w => near_quiet neg d p 0 (by omega) (.inl ⟨rfl, .inr ⟨h0, h1⟩⟩) w⟩
 by_cases h2 : 400 < p + (d.size : Int)
 ·exact ⟨9218868437227405312, fun h => absurd h h0', fun _ _ h => by omega, fun w => near_quiet neg d p _ (by omega) (.inr ⟨rfl, h0, by omega, h2⟩) w⟩
 ·obtain ⟨r, h3, h4, _, _⟩ := nearest_f k hk neg d (by omega) p (by omega)
  have hb : r + (Fl.up r (kOf d p) (dOf p)).toNat < 9223372036854775808 := by
   have : (Fl.up r (kOf d p) (dOf p)).toNat ≤ 1 := Bool.toNat_le _
   omega
  generalize r + (Fl.up r (kOf d p) (dOf p)).toNat = b at h3 hb
  exact ⟨b, fun h => absurd h h0', fun _ _ _ => h3, fun w => near_c neg d p b hb h0 (by omega) (by omega) w (fun W => spec_nearest.calls k neg d p b W h3)⟩
theorem nt_no (s : ByteArray) (neg : Bool) (d : ByteArray) (p : Int) (ok : Bool) (h : ok = false ∨ (ok = true ∧ 800 < (s.size : Int))) (hv : ∀ W, Calls Tryz.prog 12 #[.string s] W fun e w' => e = .returned (.tuple #[.agg #[.bool neg, .string d, .int .i64 p], .bool ok]) ∧ Below W.heap.size W w') (w : World) :
  Calls Tryz.prog 5 #[.string s] w fun e w' => e = .returned (.tuple #[.float .f64 0, .bool false]) ∧ Below w.heap.size w w' := by
 have HV := sd hv
 clear hv
 rcases h with rfl | ⟨rfl, h⟩
 ·go_enter Tryz.func5, Tryz.ntmps5
  go_wp2_with (first | (go_at_call 12; (with_reducible refine (HV.out _).mono ?_); rintro e0 W ⟨rfl, hb⟩; have HB := sd hb; clear hb))
  go_wp2
  go_ret2
  exact ⟨rfl, below_alloc HB.out _⟩
 ·have e1 : decide (800 < (s.size : Int)) = true := decide_eq_true h
  have e2 : decide (800 < s.size) = true := decide_eq_true (by omega)
  clear h
  go_enter Tryz.func5, Tryz.ntmps5
  go_wp2_with (first | (go_at_call 12; (with_reducible refine (HV.out _).mono ?_); rintro e0 W ⟨rfl, hb⟩; have HB := sd hb; clear hb))
  go_wp2
  go_ret2
  exact ⟨rfl, below_alloc HB.out _⟩
set_option maxHeartbeats 4000000 in
set_option maxRecDepth 100000 in
theorem nt_yes (s : ByteArray) (neg : Bool) (d : ByteArray) (p : Int) (x : Nat) (h : (s.size : Int) ≤ 800) (hv : ∀ W, Calls Tryz.prog 12 #[.string s] W fun e w' => e = .returned (.tuple #[.agg #[.bool neg, .string d, .int .i64 p], .bool true]) ∧ Below W.heap.size W w')
  (hn : ∀ W, Calls Tryz.prog 13 #[.agg #[.bool neg, .string d, .int .i64 p]] W fun e w' => e = .returned (.float .f64 x) ∧ Below W.heap.size W w') (w : World) :
  Calls Tryz.prog 5 #[.string s] w fun e w' => e = .returned (.tuple #[.float .f64 x, .bool true]) ∧ Below w.heap.size w w' := by
 have HV := sd hv
 have HN := sd hn
 have e1 : decide (800 < (s.size : Int)) = false := decide_eq_false (by omega)
 have e2 : decide (800 < s.size) = false := decide_eq_false (by omega)
 clear hv hn h
 go_enter Tryz.func5, Tryz.ntmps5
 go_wp2_with (first | (go_at_call 12; (with_reducible refine (HV.out _).mono ?_); rintro e0 W ⟨rfl, hb⟩; have HB := sd hb; clear hb) | (go_at_call 13; (with_reducible refine (HN.out _).mono ?_); rintro e0 W2 ⟨rfl, hb⟩; have HB := sd (below_step (below_alloc HB.out _) hb); clear hb))
 go_wp2
 go_ret2
 exact ⟨rfl, HB.out⟩
/-- What the reference's nearest float of a number's text is. -/
def NearP (k : Nat) (s : ByteArray) (x : Nat) : Prop := ∃ sgn ip pt fd fr ex e d p b, NumD (bytesOf s) sgn ip pt fd fr ex ∧ ExpV ex e ∧ BareP (ip ++ fd) (e - (fd.length : Int)) d p ∧ x = sgb (decide (sgn = [45])) b ∧
 (bytesOf d = [] → b = 0) ∧ (bytesOf d ≠ [] → -400 ≤ p + (d.size : Int) → p + (d.size : Int) ≤ 400 → spec_nearest.f k (decide (sgn = [45])) d p = some (b : Int))
theorem nearTo_calls (k : Nat) (hk : 20000000000000000000 ≤ k) (s : ByteArray) (hs : s.size ≤ 65536) :
  ∃ (x : Nat) (right : Bool), (∀ w, Calls Tryz.prog 5 #[.string s] w fun e w' => e = .returned (.tuple #[.float .f64 x, .bool right]) ∧ Below w.heap.size w w') ∧ (right = true → NearP k s x) := by
 obtain ⟨neg, d, p, ok, hv, hd, hok⟩ := value_f s hs k (by omega)
 have hvc : ∀ W, Calls Tryz.prog 12 #[.string s] W fun e w' => e = .returned (.tuple #[.agg #[.bool neg, .string d, .int .i64 p], .bool ok]) ∧ Below W.heap.size W w' := fun W => spec_Value.calls k s neg d p ok W hv
 cases ok with
 | false => exact ⟨0, false, fun w => nt_no s neg d p false (.inl rfl) hvc w, fun h => by cases h⟩
 | true =>
  by_cases h8 : 800 < (s.size : Int)
  ·exact ⟨0, false, fun w => nt_no s neg d p true (.inr ⟨rfl, h8⟩) hvc w, fun h => by cases h⟩
  obtain ⟨sgn, ip, pt, fd, fr, ex, e, hN, hneg, he, hb⟩ := hok rfl
  have hlen : sgn.length + (ip.length + (fr.length + ex.length)) = s.size := by rw [← bytesOf_length, hN.eq]; simp [List.length_append]
  have hfd : fd.length ≤ fr.length := by
   rcases hN.fr with ⟨_, rfl, _⟩ | ⟨_, _, _, rfl⟩ <;> simp
  have heb : -1000000000000000 ≤ e ∧ e ≤ 1000000000000000 := by
   rcases he with ⟨_, rfl⟩ | ⟨_, sg, qs, _, _, _, _, _, h15, he⟩
   ·omega
   ·have : dvL 0 qs < 1000000000000000 := h15
    rw [he]; split <;> omega
  have hpb : -2000000000000000 ≤ p ∧ p ≤ 2000000000000000 := by
   rcases hb with ⟨_, rfl, _⟩ | ⟨t, _, rfl, _, ht⟩
   ·omega
   ·rw [List.length_append] at ht; omega
  obtain ⟨b, b1, b2, b3⟩ := near_all k hk neg d (by omega) p hpb
  exact ⟨_, true, fun w => nt_yes s neg d p _ (by omega) hvc b3 w, fun _ => ⟨sgn, ip, pt, fd, fr, ex, e, d, p, b, hN, he, hb, by rw [hneg], b1, by rw [← hneg]; exact b2⟩⟩
theorem law_big (s : ByteArray) (w : World) (hs : (s.size : Int) > 2147483647) : Calls Tryz.prog 3 #[.string s] w fun e w' => e = .returned (.bool true) ∧ Below w.heap.size w w' := by
 have h0 : decide (2147483647 < (s.size : Int)) = true := decide_eq_true hs
 have h1 : decide (2147483647 < s.size) = true := decide_eq_true (by omega)
 clear hs
 go_enter Tryz.func3, Tryz.ntmps3
 go_wp2
 go_ret
 exact ⟨rfl, Below.refl _ _⟩
/-- What fjText gives, as the walk takes it. -/
abbrev TextC (s : ByteArray) (kind : Int) (tx : ByteArray) (ok : Bool) : Prop := ∀ W, Calls Tryz.prog 4 #[.string s] W fun e w' => ∃ (A2 : Option Addr) (n2 c2 : Nat) (A3 : Option Addr) (n3 c3 : Nat), e = .returned (.tuple #[.agg #[.int .i64 kind, .string tx, .slice A2 n2 c2, .slice A3 n3 c3], .bool ok]) ∧ Below W.heap.size W w'
abbrev NearC (tx : ByteArray) (x : Nat) (right : Bool) : Prop := ∀ W, Calls Tryz.prog 5 #[.string tx] W fun e w' => e = .returned (.tuple #[.float .f64 x, .bool right]) ∧ Below W.heap.size W w'
set_option maxHeartbeats 4000000 in
set_option maxRecDepth 100000 in
theorem law_out (s tx : ByteArray) (kind : Int) (x : Nat) (right : Bool) (w : World) (hs : ¬ (s.size : Int) > 2147483647) (ht : TextC s kind tx false) (hn : NearC tx x right) : Calls Tryz.prog 3 #[.string s] w fun e w' => e = .returned (.bool true) ∧ Below w.heap.size w w' := by
 have h0 : decide (2147483647 < (s.size : Int)) = false := decide_eq_false hs
 have h1 : decide (2147483647 < s.size) = false := decide_eq_false (by omega)
 have HT := sd ht
 have HN := sd hn
 clear hs ht hn
 go_enter Tryz.func3, Tryz.ntmps3
 go_wp2_with (first | (go_at_call 4; (with_reducible refine (HT.out _).mono ?_); rintro e0 w2 ⟨A2, n2, c2, A3, n3, c3, rfl, hb⟩; have HB := sd hb; clear hb) | (go_at_call 5; (with_reducible refine (HN.out _).mono ?_); rintro e0 w3 ⟨rfl, hb⟩; have HB2 := sd (below_step (below_alloc HB.out _) hb); clear hb))
 go_wp2
 go_ret
 exact ⟨rfl, HB2.out⟩
theorem kind_keep {w W : World} {a : Addr} {v : Value} (h : w.cell? a = some v) (hb : Below w.heap.size w W) : W.cell? a = some v := (hb.cell (World.block_lt_of_cell? _ _ h)).trans h
theorem node_cells {w W : World} {k : Int} {t : ByteArray} {a b : Value} (h : Below (w.alloc (.cells #[.int .i64 k, .string t, a, b] 25)).heap.size (w.alloc (.cells #[.int .i64 k, .string t, a, b] 25)) W) :
  W.cell? ⟨w.heap.size, 0, none⟩ = some (.int .i64 k) ∧ W.cell? ⟨w.heap.size, 1, none⟩ = some (.string t) := by
 have h0 : (w.alloc (.cells #[.int .i64 k, .string t, a, b] 25)).cell? ⟨w.heap.size, 0, none⟩ = some (.int .i64 k) := by simp
 have h1 : (w.alloc (.cells #[.int .i64 k, .string t, a, b] 25)).cell? ⟨w.heap.size, 1, none⟩ = some (.string t) := by simp
 exact ⟨(h.cell (p := ⟨w.heap.size, 0, none⟩) (World.block_lt_of_cell? _ _ h0)).trans h0, (h.cell (p := ⟨w.heap.size, 1, none⟩) (World.block_lt_of_cell? _ _ h1)).trans h1⟩
set_option maxHeartbeats 4000000 in
set_option maxRecDepth 100000 in
theorem law_nr (s tx : ByteArray) (x : Nat) (w : World) (hs : ¬ (s.size : Int) > 2147483647) (ht : TextC s 3 tx true) (hn : NearC tx x false) : Calls Tryz.prog 3 #[.string s] w fun e w' => e = .returned (.bool true) ∧ Below w.heap.size w w' := by
 have h0 : decide (2147483647 < (s.size : Int)) = false := decide_eq_false hs
 have h1 : decide (2147483647 < s.size) = false := decide_eq_false (by omega)
 have HT := sd ht
 have HN := sd hn
 clear hs ht hn
 go_enter Tryz.func3, Tryz.ntmps3
 go_wp2_with (first | (go_at_call 4; (with_reducible refine (HT.out _).mono ?_); rintro e0 w2 ⟨A2, n2, c2, A3, n3, c3, rfl, hb⟩; have HB := sd hb; clear hb) | (go_at_call 5; (with_reducible refine (HN.out _).mono ?_); rintro e0 w3 ⟨rfl, hb⟩; obtain ⟨kk, kt⟩ := node_cells hb; have HB2 := sd (below_step (below_alloc HB.out _) hb); clear hb))
 go_wp2
 go_ret
 exact ⟨rfl, HB2.out⟩
set_option maxHeartbeats 4000000 in
set_option maxRecDepth 100000 in
theorem law_nex (s tx : ByteArray) (x : Nat) (w : World) (hs : ¬ (s.size : Int) > 2147483647) (ht : TextC s 3 tx true) (hn : NearC tx x true) (hx : ∀ W, Calls Tryz.prog 6 #[.string tx] W fun e w' => e = .returned (.bool false) ∧ Below W.heap.size W w') :
  Calls Tryz.prog 3 #[.string s] w fun e w' => e = .returned (.bool true) ∧ Below w.heap.size w w' := by
 have h0 : decide (2147483647 < (s.size : Int)) = false := decide_eq_false hs
 have h1 : decide (2147483647 < s.size) = false := decide_eq_false (by omega)
 have HT := sd ht
 have HN := sd hn
 have HX := sd hx
 clear hs ht hn hx
 go_enter Tryz.func3, Tryz.ntmps3
 go_wp2_with (first | (go_at_call 4; (with_reducible refine (HT.out _).mono ?_); rintro e0 w2 ⟨A2, n2, c2, A3, n3, c3, rfl, hb⟩; have HB := sd hb; clear hb) | (go_at_call 5; (with_reducible refine (HN.out _).mono ?_); rintro e0 w3 ⟨rfl, hb⟩; obtain ⟨kk, kt⟩ := node_cells hb; have HB2 := sd (below_step (below_alloc HB.out _) hb); clear hb) | (go_at_call 6; (with_reducible refine (HX.out _).mono ?_); rintro e0 w4 ⟨rfl, hb⟩; have HB3 := sd (below_step HB2.out hb); clear hb))
 go_wp2
 go_ret
 exact ⟨rfl, HB3.out⟩
set_option maxHeartbeats 4000000 in
set_option maxRecDepth 100000 in
theorem law_num (s tx : ByteArray) (x : Nat) (w : World) (hs : ¬ (s.size : Int) > 2147483647) (ht : TextC s 3 tx true) (hn : NearC tx x true) (hx : ∀ W, Calls Tryz.prog 6 #[.string tx] W fun e w' => e = .returned (.bool true) ∧ Below W.heap.size W w')
  (hf : ∀ W, Below w.heap.size w W → Calls Tryz.prog 7 #[.string s] W fun e w' => e = .returned (.tuple #[.float .f64 x, .bool true]) ∧ Below W.heap.size W w') (hxx : (FloatKind.f64.format.order x x == some .eq) = true) :
  Calls Tryz.prog 3 #[.string s] w fun e w' => e = .returned (.bool true) ∧ Below w.heap.size w w' := by
 have h0 : decide (2147483647 < (s.size : Int)) = false := decide_eq_false hs
 have h1 : decide (2147483647 < s.size) = false := decide_eq_false (by omega)
 have HT := sd ht
 have HN := sd hn
 have HX := sd hx
 have HF := sd hf
 clear hs ht hn hx hf
 go_enter Tryz.func3, Tryz.ntmps3
 go_wp2_with (first | (go_at_call 4; (with_reducible refine (HT.out _).mono ?_); rintro e0 w2 ⟨A2, n2, c2, A3, n3, c3, rfl, hb⟩; have HB := sd hb; clear hb) | (go_at_call 5; (with_reducible refine (HN.out _).mono ?_); rintro e0 w3 ⟨rfl, hb⟩; obtain ⟨kk, kt⟩ := node_cells hb; have HB2 := sd (below_step (below_alloc HB.out _) hb); clear hb) | (go_at_call 6; (with_reducible refine (HX.out _).mono ?_); rintro e0 w4 ⟨rfl, hb⟩; have kk := kind_keep kk hb; have HB3 := sd (below_step HB2.out hb); clear hb) | (go_at_call 7; (with_reducible refine (HF.out _ HB3.out).mono ?_); rintro e0 w5 ⟨rfl, hb⟩; have kk := kind_keep kk hb; have HB4 := sd (below_step HB3.out hb); clear hb))
 go_wp2
 go_ret
 exact ⟨rfl, HB4.out⟩
set_option maxHeartbeats 4000000 in
set_option maxRecDepth 100000 in
theorem law_not (s tx : ByteArray) (kind : Int) (x y : Nat) (right : Bool) (w : World) (hs : ¬ (s.size : Int) > 2147483647) (ht : TextC s kind tx true) (hk : kind ≠ 3) (hn : NearC tx x right)
  (hf : ∀ W, Below w.heap.size w W → Calls Tryz.prog 7 #[.string s] W fun e w' => (∃ fl : Value, e = .returned (.tuple #[fl, .bool false])) ∧ Below W.heap.size W w')
  (h1 : ∀ W, Below w.heap.size w W → Calls Tryz.prog 7 #[.string ⟨#[49]⟩] W fun e w' => e = .returned (.tuple #[.float .f64 y, .bool true]) ∧ Below W.heap.size W w') :
  Calls Tryz.prog 3 #[.string s] w fun e w' => e = .returned (.bool true) ∧ Below w.heap.size w w' := by
 have h0 : decide (2147483647 < (s.size : Int)) = false := decide_eq_false hs
 have h1' : decide (2147483647 < s.size) = false := decide_eq_false (by omega)
 have HT := sd ht
 have HN := sd hn
 have HF := sd hf
 have H1 := sd h1
 have k3 : (kind == 3) = false := beq_eq_false_iff_ne.mpr hk
 have k3' : (kind != 3) = true := bne_iff_ne.mpr hk
 clear hs ht hn hf h1 hk
 go_enter Tryz.func3, Tryz.ntmps3
 go_wp2_with (first | (go_at_call 4; (with_reducible refine (HT.out _).mono ?_); rintro e0 w2 ⟨A2, n2, c2, A3, n3, c3, rfl, hb⟩; have HB := sd hb; clear hb) | (go_at_call 5; (with_reducible refine (HN.out _).mono ?_); rintro e0 w3 ⟨rfl, hb⟩; obtain ⟨kk, kt⟩ := node_cells hb; have HB2 := sd (below_step (below_alloc HB.out _) hb); clear hb) | (go_at_call 7; (with_reducible refine (HF.out _ HB2.out).mono ?_); rintro e0 w4 ⟨⟨fl, rfl⟩, hb⟩; have kk := kind_keep kk hb; have HB3 := sd (below_step HB2.out hb); clear hb) | (go_at_call 7; (with_reducible refine (H1.out _ HB3.out).mono ?_); rintro e0 w5 ⟨rfl, hb⟩; have HB4 := sd (below_step HB3.out hb); clear hb))
 go_wp2
 go_ret
 exact ⟨rfl, HB4.out⟩
end Go.Proofs.YtaihmpdhaikfkaaGreatDoor.PFnFjFloat
/- The law answers true (function 3). -/
namespace Go.Proofs.YtaihmpdhaikfkaaGreatDoor.PFnFjFloat
open Go.RowKit Go.Proofs.YtaihmpdhaikfkaaGreatDoorW.PrintWords Go.Proofs.YtaihmpdhaikfkaaGreatDoorW.PrintLast Go.Proofs.YtaihmpdhaikfkaaGreatDoorW.PrintMore
open Ieee
theorem sg_sgb (neg : Bool) (r : Nat) (h : r < 9223372036854775808) : sg neg r = sgb neg r := by
 cases neg with
 | false => rfl
 | true =>
  rw [sg_t, sgb_t]
  have e : Op.negFloat .f64 r = r ^^^ 2 ^ 63 := rfl
  have j := nat_join 63 9223372036854775808 r (by decide) (by omega)
  rw [e, Nat.add_comm, ← j, show (9223372036854775808 : Nat) = 2 ^ 63 by decide]
  apply Nat.eq_of_testBit_eq
  intro i
  rw [Nat.testBit_xor, Nat.testBit_or, Nat.testBit_two_pow]
  by_cases hi : 63 = i
  ·subst hi
   rw [Nat.testBit_lt_two_pow (show r < 2 ^ 63 by omega)]; rfl
  ·simp [hi]
theorem order_self (neg : Bool) (r : Nat) (h : r < 9218868437227405312) : (FloatKind.f64.format.order (sgb neg r) (sgb neg r) == some .eq) = true := by
 have e0 : FloatKind.f64.format = double := rfl
 have e1 : double.signWeight = 9223372036854775808 := by decide
 have e2 : double.binade = 4503599627370496 := by decide
 have e3 : double.infRung = 9218868437227405312 := by decide
 have key : ∃ b m e, double.read (sgb neg r) = .number b m e := by
  have hm : sgb neg r % 9223372036854775808 = r := by
   cases neg with
   | false => rw [sgb_f]; omega
   | true => rw [sgb_t]; omega
  unfold Format.read
  simp only [e1, e2, e3, hm]
  split
  ·exact ⟨_, _, _, rfl⟩
  ·first | exact ⟨_, _, _, rfl⟩ | (rw [if_pos h]; exact ⟨_, _, _, rfl⟩)
 obtain ⟨b, m, e, hr⟩ := key
 rw [e0]
 unfold Format.order
 rw [hr]
 unfold Datum.order
 simp
theorem one_num : LawNum ⟨#[49]⟩ (floatOfInt .f64 ((dvc 0 ⟨#[49]⟩ 0 1 : Nat) : Int)) := by
 refine ⟨false, 0, 1, _, by decide, by decide, .inr ⟨rfl, rfl, by decide⟩, fun k hk => ?_, .inl ⟨rfl, rfl⟩, rfl⟩
 obtain rfl : k = 0 := by omega
 exact ⟨by decide, by decide⟩
theorem one_d : NumD [49] [] [49] false [] [] [] := ⟨rfl, .inl rfl, by simp, fun c hc => by simp at hc; omega, .inl ⟨rfl, rfl, rfl⟩, .inl rfl⟩
theorem one_text : ∀ r, SkipP (⟨#[49]⟩ : ByteArray) r → 0 < r.size ∧ ∃ k, NumTop r k ∧ ∀ ss, bytesOf ss = (bytesOf r).take k → LawNum ss (floatOfInt .f64 ((dvc 0 ⟨#[49]⟩ 0 1 : Nat) : Int)) :=
 num_text (w := []) (l := [49]) (v := []) (tx := ⟨#[49]⟩) rfl (fun c hc => by cases hc) (fun c hc => by cases hc) rfl (fun c hc => by simp at hc; subst hc; exact .inl ⟨by decide, by decide⟩) [] [49] false [] [] [] one_d _ one_num
theorem law_calls (s : ByteArray) (w : World) (hT : Tab w) (hE : EvW w) : Calls Tryz.prog 3 #[.string s] w fun e w' => e = .returned (.bool true) ∧ Below w.heap.size w w' := by
 by_cases hs : (s.size : Int) > 2147483647
 ·exact law_big s w hs
 obtain ⟨kt, r1, r2, r3, r4, r5, ht, hsz, hok⟩ := fjText_f s
 have htc : TextC s r1 r2 r5 := fun W => (laws_fjText.calls kt s r1 r2 r3 r4 r5 W ht).mono fun e w' ⟨v2, v3, he, h2, h3, hb⟩ => by
  obtain ⟨A2, c2, rfl⟩ := Kd.R_slice h2
  obtain ⟨A3, c3, rfl⟩ := Kd.R_slice h3
  exact ⟨A2, _, c2, A3, _, c3, he, hb⟩
 obtain ⟨k, hk⟩ : ∃ k, k = 20000000000000000000 := ⟨_, rfl⟩
 obtain ⟨x, right, hn, hnear⟩ := nearTo_calls k (by omega) r2 hsz
 cases r5 with
 | false => exact law_out s r2 r1 x right w hs htc hn
 | true =>
  obtain ⟨h4, wl, l, v, e, hw, hv, hcase⟩ := hok rfl
  have hs30 : s.size < 2 ^ 30 := by omega
  rcases hcase with ⟨rfl, htx, hnc⟩ | ⟨hk3, hnl⟩
  ·cases right with
   | false => exact law_nr s r2 x w hs htc hn
   | true =>
    obtain ⟨sgn, ip, pt, fd, fr, ex, ee, d, p, b, hN, he, hb, hx, b1, b2⟩ := hnear rfl
    obtain ⟨bx, hbx, hbt⟩ := exactly_of r2 hsz k (by omega) sgn ip pt fd fr ex hN
    have hxc : ∀ W, Calls Tryz.prog 6 #[.string r2] W fun e w' => e = .returned (.bool bx) ∧ Below W.heap.size W w' := fun W => spec_Exactly.calls k r2 bx W hbx
    cases bx with
    | false => exact law_nex s r2 x w hs htc hn hxc
    | true =>
     obtain ⟨h15, hex⟩ := hbt rfl
     obtain ⟨r, hr, hln, hres⟩ := num_res r2 hsz k (by omega) (decide (sgn = [45])) sgn ip pt fd fr ex hN h15 hex ee he d p hb
     have hbr : b = r := by
      rcases hres with ⟨h5, rfl⟩ | ⟨h5, h6, h7, h8⟩
      ·exact b1 h5
      ·have h9 := (b2 h5 h7 h8).symm.trans h6
       injection h9 with h9
       omega
     subst hbr
     rw [sg_sgb _ _ (by omega), ← hx] at hln
     refine law_num s r2 x w hs htc hn hxc (fun W hbW => fj_num s hs30 x (num_text e hw hv htx hnc sgn ip pt fd fr ex (by rw [← htx]; exact hN) x hln) W (hT.below hbW)) ?_
     rw [hx]; exact order_self _ _ hr
  ·exact law_not s r2 r1 x _ right w hs htc hk3 hn (fun W hbW => fj_not s hs30 (not_text e hw hnl) W (hE.below hbW)) (fun W hbW => fj_num _ (by decide) _ one_text W (hT.below hbW))
end Go.Proofs.YtaihmpdhaikfkaaGreatDoor.PFnFjFloat
