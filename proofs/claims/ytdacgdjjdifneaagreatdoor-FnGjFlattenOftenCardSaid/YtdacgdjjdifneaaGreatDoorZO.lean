/- Part of the proof of the card in text ZF. -/
import Derived.Test.YtdacgdjjdifneaaGreatDoorZE
import Derived.Outline
import Derived.Lib.Strings
import Derived.Test.YtdacgdjjdifneaaGreatDoorZJ
import Derived.Lib.AppendStr
import Derived.Laws.IdiomCopy
import Derived.Test.YtdacgdjjdifneaaGreatDoorV11
import Derived.Laws.Runes
set_option linter.all false
set_option maxHeartbeats 16000000
set_option maxRecDepth 100000
namespace Go.Proofs.YtdacgdjjdifneaaGreatDoor.PFnGjFlattenOften
open Go.RowKit Go.Proofs.YtdacgdjjdifneaaGreatDoorW.PrintWords Go.Proofs.YtdacgdjjdifneaaGreatDoorW.PrintLast Go.Proofs.YtdacgdjjdifneaaGreatDoorW.PrintMore
theorem wrap_both {x : Int} (h : -9223372036854775808 ≤ x ∧ x ≤ 9223372036854775807) : IntKind.i64.wrap x = x ∧ wrap64 x = x := by
 have h2 : wrap64 x = x := Go.IntWalk.wrap64_in _ h; exact ⟨by rw [IntKind.wrap_i64]; omega, h2⟩
def UintP (w : World) (e : Ending) (w' : World) : Prop := Below w.heap.size w w' ∧ ((∃ n : Int, 0 ≤ n ∧ n ≤ 65535 ∧ e = .returned (.tuple #[.int .u64 n, .nilIface])) ∨ e = .returned (.tuple #[.int .u64 0, .iface 107 (.int .i64 2)]))
theorem ne_nil {s : ByteArray} (h : 0 < s.size) : s.toList.isEmpty = false ∧ (s.toList == []) = false ∧ (s.toList = []) = False := by
 have hl : s.data.toList.length = s.size := by simp
 have hn : s.toList ≠ [] := fun e => by rw [Lib.toList_data] at e; rw [e] at hl; simp at hl; omega
 refine ⟨by simpa using hn, by simpa using hn, eq_false hn⟩
theorem bytes_at (w : World) (s : ByteArray) (k : Nat) (hk : k < s.size) : (Lib.bytesWorld w 5 s).cell? ⟨w.heap.size, k, none⟩ = some (.int .u8 (bt s (k : Int))) := by
 rw [Lib.bytesWorld_cell w 5 s k hk, ← bt_c s k hk]; have hl : k < s.data.toList.length := by simpa using hk
 have : s.data.toList.getD k 0 = s[k] := by
  rw [List.getD_eq_getElem?_getD, List.getElem?_eq_getElem hl]; rfl
 rw [this]
inductive Sign (c l : Int) : Prop
 | dig (D : Int) (h1 : decide (48 ≤ c) = true) (h2 : decide (c ≤ 57) = true) (h3 : IntKind.u8.wrap (c - 48) = D) (h0 : 0 ≤ D ∧ D ≤ 15) : Sign c l
 | let_ (q D : Int) (h1 : decide (48 ≤ c) = true) (h2 : decide (c ≤ 57) = false) (h3 : decide (97 ≤ l) = true) (h4 : decide (l ≤ 122) = true) (h5 : IntKind.u8.wrap (l - 97) = q) (h6 : IntKind.u8.wrap (q + 10) = D) (h0 : 0 ≤ D ∧ D ≤ 15) : Sign c l
 | big (q D : Int) (h1 : decide (48 ≤ c) = true) (h2 : decide (c ≤ 57) = false) (h3 : decide (97 ≤ l) = true) (h4 : decide (l ≤ 122) = true) (h5 : IntKind.u8.wrap (l - 97) = q) (h6 : IntKind.u8.wrap (q + 10) = D) (h0 : decide (16 ≤ D) = true) : Sign c l
 | bad1 (h1 : decide (48 ≤ c) = true) (h2 : decide (c ≤ 57) = false) (h3 : decide (97 ≤ l) = true) (h4 : decide (l ≤ 122) = false) : Sign c l
 | bad2 (h1 : decide (48 ≤ c) = true) (h2 : decide (c ≤ 57) = false) (h3 : decide (97 ≤ l) = false) : Sign c l
 | low1 (h1 : decide (48 ≤ c) = false) (h3 : decide (97 ≤ l) = true) (h4 : decide (l ≤ 122) = false) : Sign c l
 | low2 (h1 : decide (48 ≤ c) = false) (h3 : decide (97 ≤ l) = false) : Sign c l
 | low3 (q D : Int) (h1 : decide (48 ≤ c) = false) (h3 : decide (97 ≤ l) = true) (h4 : decide (l ≤ 122) = true) (h5 : IntKind.u8.wrap (l - 97) = q) (h6 : IntKind.u8.wrap (q + 10) = D) (h0 : 0 ≤ D ∧ D ≤ 15) : Sign c l
 | low4 (q D : Int) (h1 : decide (48 ≤ c) = false) (h3 : decide (97 ≤ l) = true) (h4 : decide (l ≤ 122) = true) (h5 : IntKind.u8.wrap (l - 97) = q) (h6 : IntKind.u8.wrap (q + 10) = D) (h0 : decide (16 ≤ D) = true) : Sign c l
theorem u8_in {x : Int} (h0 : 0 ≤ x) (h1 : x ≤ 255) : IntKind.u8.wrap x = x := by rw [IntKind.wrap_u8]; omega
theorem sign_of (c l : Int) (hc : 0 ≤ c ∧ c ≤ 255) : Sign c l := by
 by_cases a : 48 ≤ c
 ·by_cases b : c ≤ 57
  ·exact .dig (c - 48) (decide_eq_true a) (decide_eq_true b) (u8_in (by omega) (by omega)) (by omega)
  ·by_cases d : 97 ≤ l
   ·by_cases e : l ≤ 122
    ·by_cases f : l ≤ 102
     ·exact .let_ (l - 97) (l - 97 + 10) (decide_eq_true a) (decide_eq_false b) (decide_eq_true d) (decide_eq_true e) (u8_in (by omega) (by omega)) (u8_in (by omega) (by omega)) (by omega)
     ·exact .big (l - 97) (l - 97 + 10) (decide_eq_true a) (decide_eq_false b) (decide_eq_true d) (decide_eq_true e) (u8_in (by omega) (by omega)) (u8_in (by omega) (by omega)) (decide_eq_true (by omega))
    ·exact .bad1 (decide_eq_true a) (decide_eq_false b) (decide_eq_true d) (decide_eq_false e)
   ·exact .bad2 (decide_eq_true a) (decide_eq_false b) (decide_eq_false d)
 ·by_cases d : 97 ≤ l
  ·by_cases e : l ≤ 122
   ·by_cases f : l ≤ 102
    ·exact .low3 (l - 97) (l - 97 + 10) (decide_eq_false a) (decide_eq_true d) (decide_eq_true e) (u8_in (by omega) (by omega)) (u8_in (by omega) (by omega)) (by omega)
    ·exact .low4 (l - 97) (l - 97 + 10) (decide_eq_false a) (decide_eq_true d) (decide_eq_true e) (u8_in (by omega) (by omega)) (u8_in (by omega) (by omega)) (decide_eq_true (by omega))
   ·exact .low1 (decide_eq_false a) (decide_eq_true d) (decide_eq_false e)
  ·exact .low2 (decide_eq_false a) (decide_eq_false d)
theorem u64_in {x : Int} (h0 : 0 ≤ x) (h1 : x ≤ 18446744073709551615) : IntKind.u64.wrap x = x := by rw [IntKind.wrap_u64]; omega
theorem step_facts {n D : Int} (hn : 0 ≤ n ∧ n ≤ 4095) (hD : 0 ≤ D ∧ D ≤ 15) : decide (16 ≤ D) = false ∧ decide (1152921504606846976 ≤ n) = false ∧ IntKind.u64.wrap (n * 16) = n * 16 ∧ IntKind.u64.wrap D = D ∧ IntKind.u64.wrap (n * 16 + D) = n * 16 + D ∧ decide (n * 16 + D < n * 16) = false ∧ decide (18446744073709551615 < n * 16 + D) = false :=
 ⟨decide_eq_false (by omega), decide_eq_false (by omega), u64_in (by omega) (by omega), u64_in (by omega) (by omega), u64_in (by omega) (by omega), decide_eq_false (by omega), decide_eq_false (by omega)⟩
theorem n_bound {k : Nat} {n : Int} (h : k ≤ 4 ∧ 0 ≤ n ∧ n < 16 ^ k) (hk : k < 4) : 0 ≤ n ∧ n ≤ 4095 := by
 obtain ⟨_, h0, h⟩ := h; have : k = 0 ∨ k = 1 ∨ k = 2 ∨ k = 3 := by omega
 rcases this with rfl | rfl | rfl | rfl <;> omega
theorem n_next {k : Nat} {n D : Int} (h : k ≤ 4 ∧ 0 ≤ n ∧ n < 16 ^ k) (hk : k < 4) (hD : 0 ≤ D ∧ D ≤ 15) : k + 1 ≤ 4 ∧ 0 ≤ n * 16 + D ∧ n * 16 + D < 16 ^ (k + 1) := by
 obtain ⟨_, h0, h⟩ := h; have : k = 0 ∨ k = 1 ∨ k = 2 ∨ k = 3 := by omega
 rcases this with rfl | rfl | rfl | rfl <;> omega
theorem k_meas {k : Nat} (h : k < 4) : 4 - (intOf (.int .i64 ((k : Int) + 1))).toNat < 4 - (intOf (.int .i64 (k : Int))).toNat := by simp [intOf]; omega
theorem uint_in (s : ByteArray) (hs : s.size = 4) (w : World) : Calls Tryz.prog 85 #[.string s, .int .i64 16, .int .i64 64] w (UintP w) := by
 have kb := fun W => print_bytes (P := Tryz.prog) 9 69 5 Tryz.underlying9 Tryz.underlying69 Tryz.underlying5 s W; have HB := sd (bytes_below (Below.refl w.heap.size w) (Nat.le_refl _) 5 s); have HC := sd (fun k (hk : k < 4) => bytes_at w s k (by omega)); obtain ⟨e1, e2, e3⟩ := ne_nil (s := s) (by omega); have hm1 : IntKind.u64.wrap (IntKind.u64.wrap 18446744073709551616 - 1) = 18446744073709551615 := by rw [IntKind.wrap_u64, IntKind.wrap_u64]; decide
 go_enter Tryz.func85, Tryz.ntmps85; go_wp2; clear kb; generalize Lib.bytesWorld w 5 s = W at HB HC ⊢; go_loop [12, 13, 101] (fun u v i => ∃ (k : Nat) (n : Int), u = .bool false ∧ v = .int .u64 n ∧ i = .int .i64 k ∧ Aside0 (k ≤ 4 ∧ 0 ≤ n ∧ n < 16 ^ k)) (fun _ _ i => 4 - (intOf i).toNat)
 case atStart => exact ⟨0, 0, rfl, rfl, rfl, ⟨by omega, by omega, by decide⟩⟩
 case round =>
  obtain ⟨k, n, rfl, rfl, rfl, HK⟩ := hrel
  by_cases hlt : k < 4
  ·have hc := HC.out k hlt; have t1 : decide ((k : Int) < 4) = true := decide_eq_true (by omega); have t2 : decide (k < 4) = true := decide_eq_true (by omega); have q1 : (0 ≤ (k : Int)) = True := eq_true (by omega); have q2 : ((k : Int) < 4) = True := eq_true (by omega); have hcr := bt_range s (k : Int); generalize bt s (k : Int) = c at hc hcr; have hsg := sign_of c (bits .or .u8 c 32) hcr; have hl := fun W => lower_calls c W; generalize bits .or .u8 c 32 = l at hsg hl; have HL := sd hl; have hw : -9223372036854775808 ≤ (k : Int) + 1 ∧ (k : Int) + 1 ≤ 9223372036854775807 := by omega
   obtain ⟨w1, w2⟩ := wrap_both hw; have HLT := sd hlt; clear hcr hw hlt hl hs
   rcases Bool.eq_false_or_eq_true (c == 95) with c95 | c95
   all_goals
    rcases hsg with ⟨D, h1, h2, h3, h0⟩ | ⟨q, D, h1, h2, h3, h4, h5, h6, h0⟩ | ⟨q, D, h1, h2, h3, h4, h5, h6, h0⟩ | ⟨h1, h2, h3, h4⟩ | ⟨h1, h2, h3⟩ | ⟨h1, h3, h4⟩ | ⟨h1, h3⟩ | ⟨q, D, h1, h3, h4, h5, h6, h0⟩ | ⟨q, D, h1, h3, h4, h5, h6, h0⟩
    all_goals first
     | (obtain ⟨s1, s2, s3, s4, s5, s6, s7⟩ := step_facts (n_bound HK.out HLT.out) h0; have HN := sd (n_next HK.out HLT.out h0); clear h0; go_wp2_with (first | (go_at_call 106; (with_reducible refine (HL.out _).mono ?_); rintro e0 W0 ⟨rfl, rfl⟩)); go_round; (case rel => exact ⟨k + 1, _, rfl, rfl, by go_num, HN⟩); (case measure => exact k_meas HLT.out))
     | (go_wp2_with (first | (go_at_call 106; (with_reducible refine (HL.out _).mono ?_); rintro e0 W0 ⟨rfl, rfl⟩)); go_ret2; exact ⟨HB.out, .inr rfl⟩)
  ·have t1 : decide ((k : Int) < 4) = false := decide_eq_false (by omega); have t2 : decide (k < 4) = false := decide_eq_false hlt; go_wp2; go_ret2; have hk := HK.out; have : k = 4 := by omega
   subst this; exact ⟨HB.out, .inl ⟨n, hk.2.1, by omega, rfl⟩⟩
theorem uint_calls (s : ByteArray) (hs : s.size = 4) (w : World) (hE : EvW w) : Calls Tryz.prog 76 #[.string s, .int .i64 16, .int .i64 64] w fun e w' => Below w.heap.size w w' ∧ ∃ (n : Int) (er : Value), e = .returned (.tuple #[.int .u64 n, er]) ∧ (0 ≤ n ∧ n ≤ 65535) := by
 have HS := sd hs; have HE := sd hE; clear hs hE; go_enter Tryz.func76, Tryz.ntmps76; go_wp2_with (first | (go_at_call 85; (with_reducible refine (uint_in s HS.out _).mono ?_); rintro e0 W ⟨hb, hc⟩; have HB := sd hb; clear hb; rcases hc with ⟨n, h0, h1, rfl⟩ | rfl) | (go_at_call 72; (with_reducible refine (toErr _ s _ _ (by have := HS.out; omega) _ (.inr rfl) _ (HE.out.keep HB.out)).mono ?_); rintro e0 W2 ⟨⟨N, rfl⟩, hb⟩; have HB2 := sd (below_step HB.out hb); clear hb))
 ·go_ret2; exact ⟨HB.out, n, _, rfl, ⟨h0, h1⟩⟩
 ·go_ret2; exact ⟨HB2.out, 0, _, rfl, ⟨by omega, by omega⟩⟩
theorem rune_calls (s : ByteArray) (h4 : 4 ≤ s.size) (hs : s.size ≤ 65536) (w : World) (hE : EvW w) : Calls Tryz.prog 63 #[.string s] w fun e w' => Below w.heap.size w w' ∧ ∃ n : Int, e = .returned (.int .i32 n) ∧ (0 ≤ n ∧ n ≤ 65535) := by
 have HS : Aside0 ((s.extract 0 4).size = 4) := ⟨by rw [ByteArray.size_extract]; omega⟩
 have HE := sd hE; have y1 : ((4 : Int) ≤ (s.size : Int)) = True := eq_true (by omega); have y2 : (4 ≤ s.size) = True := eq_true h4; clear hs hE h4; go_enter Tryz.func63, Tryz.ntmps63; go_wp2_with (first | (go_at_call 76; (with_reducible refine (uint_calls _ HS.out _ HE.out).mono ?_); rintro e0 W ⟨hb, n, er, rfl, hn⟩; have HB := sd hb; have HN := sd hn; clear hb hn)); go_ret; have hw : wrap32 n = n := by have := HN.out; unfold wrap32; omega
 rw [hw]; exact ⟨HB.out, n, rfl, HN.out⟩
def byteCells (xs : List Int) : List Value := xs.map (Value.int .u8)
structure BR (w : World) (base : Nat) (v : Value) (xs : List Int) (g cap : Nat) : Prop where
 val : v = .slice (some ⟨g, 0, none⟩) xs.length cap
 ge : base ≤ g
 lt : g < w.heap.size
 le : xs.length ≤ cap
 max : cap ≤ maxLen
 there : ∀ j, j < cap → (w.cell? ⟨g, j, none⟩).isSome = true ∧ w.frozen? ⟨g, j, none⟩ = false
 cell : ∀ j v, (byteCells xs)[j]? = some v → w.cell? ⟨g, j, none⟩ = some v
theorem byteCells_length (xs : List Int) : (byteCells xs).length = xs.length := List.length_map ..
theorem below_setCells {B g : Nat} {w : World} (hg : B ≤ g) : ∀ (vs : List Value) (o : Nat) (W : World), Below B w W → Below B w (W.setCells g o vs)
 | [], _, _, h => h
 | v :: r, o, W, h => below_setCells hg r (o + 1) _ (h.setCell hg v)
theorem size_setCells (g : Nat) : ∀ (vs : List Value) (o : Nat) (W : World), (W.setCells g o vs).heap.size = W.heap.size
 | [], _, _ => rfl
 | v :: r, o, W => by rw [World.setCells, size_setCells g r, World.size_setCell]
theorem add0 (g j : Nat) : (⟨g, 0, none⟩ : Addr).add j = ⟨g, j, none⟩ := by unfold Addr.add; split <;> simp_all
section
variable {w W : World} {base g cap : Nat} {v : Value} {xs ys : List Int}
theorem BR.below (h : BR w base v xs g cap) (hb : Below w.heap.size w W) : BR W base v xs g cap :=
 ⟨h.val, h.ge, Nat.lt_of_lt_of_le h.lt hb.size, h.le, h.max, fun j hj => by
  rw [hb.cell (p := ⟨g, j, none⟩) h.lt, hb.frozen (p := ⟨g, j, none⟩) h.lt]; exact h.there j hj, fun j v hv => by rw [hb.cell (p := ⟨g, j, none⟩) h.lt]; exact h.cell j v hv⟩
theorem BR.reads (h : BR w base v xs g cap) : Kd.C (Kd.int .u8) w (some ⟨g, 0, none⟩) xs.length xs := by
 have hle := h.le; have hmax := h.max; refine Kd.C_of_reads (d := (0 : Int)) (h1 := fun _ => rfl) ⟨rfl, by simp only [maxLen] at hmax; omega, fun _ => ⟨_, rfl, fun j hj => ?_⟩⟩; rw [add0]; refine h.cell j _ ?_; rw [byteCells, List.getElem?_map, List.getElem?_eq_getElem hj, List.getD_eq_getElem?_getD, List.getElem?_eq_getElem hj]; rfl
theorem BR.room (h : BR w base v xs g cap) (hr : xs.length + ys.length ≤ cap) : BR (w.setCells g xs.length (byteCells ys)) base (.slice (some ⟨g, 0, none⟩) (xs.length + ys.length) cap) (xs ++ ys) g cap := by
 have hl := byteCells_length ys; refine ⟨by rw [List.length_append], h.ge, by rw [size_setCells]; exact h.lt, by rw [List.length_append]; exact hr, h.max, fun j hj => ?_, fun j u hu => ?_⟩
 ·refine ⟨?_, by rw [World.frozen?_setCells]; exact (h.there j hj).2⟩
  by_cases a : xs.length ≤ j ∧ j < xs.length + ys.length
  ·have := World.cell?_setCells_in g (byteCells ys) xs.length w (fun i hi => (h.there _ (by omega)).1) (j - xs.length) (by omega); rw [show xs.length + (j - xs.length) = j by omega] at this; rw [this]; rfl
  ·rw [World.cell?_setCells_out g _ _ w ⟨g, j, none⟩ (fun _ _ => by show j < xs.length ∨ _ ≤ j; omega)]; exact (h.there j hj).1
 ·have hj : j < xs.length + ys.length := by
   have := (List.getElem?_eq_some_iff.1 hu).1; rw [byteCells_length, List.length_append] at this; exact this
  by_cases a : j < xs.length
  ·rw [World.cell?_setCells_out g _ _ w ⟨g, j, none⟩ (fun _ _ => .inl a)]; refine h.cell j u ?_; rw [← hu, byteCells, byteCells, List.map_append, List.getElem?_append_left (by rw [List.length_map]; exact a)]
  ·have := World.cell?_setCells_in g (byteCells ys) xs.length w (fun i hi => (h.there _ (by omega)).1) (j - xs.length) (by omega); rw [show xs.length + (j - xs.length) = j by omega] at this; unfold byteCells at hu this ⊢; rw [List.map_append, List.getElem?_append_right (by rw [List.length_map]; omega), List.length_map] at hu; rw [this, ← hu, List.getElem?_eq_getElem]
theorem BR.grown {W' : World} {c : Nat} (h : BR w base v xs g cap) (hbase : base ≤ w.heap.size) (hW : W'.heap = (w.alloc (.cells ((byteCells xs).toArray ++ (byteCells ys).toArray ++ Builtin.zeroCells #[.int .u8 0] (c - (xs.length + ys.length))) 5)).heap) (hc : xs.length + ys.length ≤ c) (hm : c ≤ maxLen) :
  BR W' base (.slice (some ⟨w.heap.size, 0, none⟩) (xs.length + ys.length) c) (xs ++ ys) w.heap.size c := by
 have hk := blk_new w (.cells ((byteCells xs).toArray ++ (byteCells ys).toArray ++ Builtin.zeroCells #[.int .u8 0] (c - (xs.length + ys.length))) 5); rw [← hW] at hk; have hz : (Builtin.zeroCells #[.int .u8 0] (c - (xs.length + ys.length))).size = c - (xs.length + ys.length) := by rw [size_zeroCells]; show _ * 1 = _; omega
 have hsz : ((byteCells xs).toArray ++ (byteCells ys).toArray ++ Builtin.zeroCells #[.int .u8 0] (c - (xs.length + ys.length))).size = c := by
  rw [Array.size_append, Array.size_append, hz, List.size_toArray, List.size_toArray, byteCells_length, byteCells_length]; omega
 refine ⟨by rw [List.length_append], hbase, blk_lt hk, by rw [List.length_append]; exact hc, hm, fun j hj => ?_, fun j u hu => ?_⟩
 ·rw [blk_cell hk]; exact ⟨by rw [Array.getElem?_eq_getElem (by rw [hsz]; exact hj)]; rfl, blk_frozen hk j⟩
 ·rw [blk_cell hk]; have hj := (List.getElem?_eq_some_iff.1 hu).1; rw [byteCells, List.map_append] at hu hj; rw [Array.getElem?_append_left (by rw [Array.size_append, List.size_toArray, List.size_toArray]; rw [List.length_append] at hj; exact hj), List.append_toArray, List.getElem?_toArray]; exact hu
end
section
variable {P : Program}
theorem run_append_br {w0 w : World} {base g cap : Nat} {v : Value} {xs ys : List Int} (t u ty : TypeId) (i : TypeInfo) (x : Value) (ht : P.underlying t = some (.slice 5)) (hi : P.info? 5 = some i) (hz : i.zero = some (.int .u8 0)) (h1 : i.size = 1) (hby : i.bytes = 1)
  (h : BR w base v xs g cap) (hB : Below base w0 w) (hbase : base ≤ w.heap.size) (h63 : xs.length + ys.length ≤ 140737488355328)
  (hx : (∃ ad c, u = t ∧ x = .slice (some ad) ys.length c ∧ ∀ j v, (byteCells ys)[j]? = some v → w.cell? (ad.add j) = some v) ∨ (∃ s, P.underlying u = some .string ∧ x = .string s ∧ Lib.strCells s = byteCells ys)) :
  ∃ v' w' g' c', (Builtin.append_ #[t, u] ty #[v, x]).run P w = .ok v' w' ∧ BR w' base v' (xs ++ ys) g' c' ∧ Below base w0 w' := by
 obtain ⟨rfl⟩ : v = _ := h.val; have hlen : (byteCells ys).length = ys.length := byteCells_length ys; have hone : ∀ u ∈ byteCells ys, u.oneCell' = true := fun u hu => by
  rw [byteCells, List.mem_map] at hu; obtain ⟨a, _, rfl⟩ := hu; rfl
 by_cases hroom : xs.length + ys.length ≤ cap
 ·have hst := run_storeCells_cells (P := P) g xs.length (byteCells ys) 0 w (fun j hj => (h.there _ (by omega)).1) (fun j hj => (h.there _ (by omega)).2) hone; simp only [Nat.add_zero] at hst; refine ⟨_, _, g, cap, ?_, h.room hroom, below_setCells h.ge _ _ _ hB⟩
  rcases hx with ⟨ad, c, rfl, rfl, hnews⟩ | ⟨s, hu, rfl, hsc⟩
  ·have hf := run_firstCells_some (P := P) w 1 ys.length ad ys.length c (byteCells ys) (by rw [hlen, Nat.mul_one]) hnews; simp [Builtin.append_, run_underlying ht, sizeOf, typeInfo, hi, h1, Builtin.lenOf, hroom, hf, Addr.add_lit, hst]
  ·have hsz : s.size = ys.length := by rw [← Lib.strCells_length, hsc, hlen]
   have hf := Lib.run_firstCells_string (P := P) w 1 s; rw [hsz, hsc] at hf; simp [Builtin.append_, run_underlying ht, run_underlying hu, sizeOf, typeInfo, hi, h1, Builtin.lenOf, hsz, hroom, hf, Addr.add_lit, hst]
 ·have hlo : (byteCells xs).length = xs.length * i.size := by rw [byteCells_length, h1, Nat.mul_one]
  have holds : ∀ j v, (byteCells xs)[j]? = some v → w.cell? ((⟨g, 0, none⟩ : Addr).add j) = some v := fun j v hv => by rw [add0]; exact h.cell j v hv
  have h9 : ((xs.length + ys.length : Nat) : Int) ≤ 9223372036854775807 := by omega
  have hfit : Builtin.nextslicecap (xs.length + ys.length) cap * i.bytes ≤ 281474976710656 := growslice_fits (by omega) (by rw [hby, Nat.mul_one]; exact h63); have hzc : (Value.int .u8 0).cells = #[.int .u8 0] := rfl
  rcases hx with ⟨ad, c, rfl, rfl, hnews⟩ | ⟨s, hu, rfl, hsc⟩
  ·have hr := run_append_grow (P := P) w _ ty 5 i _ ht hi hz ⟨g, 0, none⟩ xs.length cap (byteCells xs) hlo holds ad ys.length c (byteCells ys) (by rw [hlen, h1, Nat.mul_one]) hnews (by omega) h9 hfit; rw [hzc] at hr; refine ⟨_, _, w.heap.size, grownCap w (xs.length + ys.length) cap 5, hr, ?_, ?_⟩
   ·exact h.grown hbase rfl (grownCap_ge w _ _ _) (grownCap_le_maxLen w _ _ _ (by simp only [maxLen]; omega))
   ·exact (below_drew hB).alloc hbase _
  ·have hsz : s.size = ys.length := by rw [← Lib.strCells_length, hsc, hlen]
   have hr := Lib.run_append_grow_string (P := P) w t u ty 5 i _ ht hu hi hz ⟨g, 0, none⟩ xs.length cap (byteCells xs) hlo holds s (by omega) (by rw [hsz]; exact h9) (by rw [hsz]; exact hfit); rw [hzc, hsz, hsc] at hr; refine ⟨_, _, w.heap.size, grownCap w (xs.length + ys.length) cap 5, hr, ?_, ?_⟩
   ·exact h.grown hbase rfl (grownCap_ge w _ _ _) (grownCap_le_maxLen w _ _ _ (by simp only [maxLen]; omega))
   ·exact (below_drew hB).alloc hbase _
theorem wpList_append_br {ops : Array Oper} {rest : List Oper} {o : Oper} {a : Act} {Q : Exit → Act → World → Prop} {w0 w : World} {base g cap : Nat} {v : Value} {xs : List Int} (hgd : o.guard = none) (sl x : Operand) (t u : TypeId)
  (ho : o.op = .call { callee := .builtin .append, args := #[sl, x], argTypes := #[t, u] }) (i : TypeInfo) (ht : P.underlying t = some (.slice 5)) (hi : P.info? 5 = some i) (hz : i.zero = some (.int .u8 0)) (h1 : i.size = 1) (hby : i.bytes = 1)
  (hs : a.eval sl = v) (h : BR w base v xs g cap) (hB : Below base w0 w) (hbase : base ≤ w.heap.size) (ys : List Int) (h63 : xs.length + ys.length ≤ 140737488355328)
  (hx : (∃ ad c, u = t ∧ a.eval x = .slice (some ad) ys.length c ∧ ∀ j v, (byteCells ys)[j]? = some v → w.cell? (ad.add j) = some v) ∨ (∃ s, P.underlying u = some .string ∧ a.eval x = .string s ∧ Lib.strCells s = byteCells ys))
  (hk : ∀ v' w' g' c', BR w' base v' (xs ++ ys) g' c' → Below base w0 w' → wpList P ops Q rest (a.put o.dst v') w') : wpList P ops Q (o :: rest) a w := by
 obtain ⟨v', w', g', c', hr, hbr, hb⟩ := run_append_br (P := P) t u o.type i (a.eval x) ht hi hz h1 hby h hB hbase h63 hx; refine Kd.event_run hgd ?_ (hk v' w' g' c' hbr hb); simp [execOp, ho, resolve, invoke, builtin, hs, hr]
end
theorem BR.take {w : World} {base g cap n : Nat} {v : Value} {xs : List Int} (h : BR w base v xs g cap) (hn : n ≤ xs.length) : BR w base (.slice (some ⟨g, 0, none⟩) n cap) (xs.take n) g cap := by
 have hl : (xs.take n).length = n := by rw [List.length_take]; omega
 refine ⟨by rw [hl], h.ge, h.lt, by rw [hl]; have := h.le; omega, h.max, h.there, fun j v hv => h.cell j v ?_⟩; rw [← hv, byteCells, byteCells, List.map_take, List.getElem?_take]; have hj := (List.getElem?_eq_some_iff.1 hv).1; rw [byteCells_length, hl] at hj; rw [if_pos hj]
section
variable {w W W2 : World} {b : Value} {L : Nat}
end
theorem strCells_bytes (s : ByteArray) : Lib.strCells s = byteCells (bytesOf s) := by simp [Lib.strCells, byteCells, bytesOf]
theorem decr (n m : Int) (w : World) : Calls Tryz.prog 65 #[.int .i32 n, .int .i32 m] w fun e w' => Below w.heap.size w w' ∧ ∃ r : Int, e = .returned (.int .i32 r) := by
 obtain ⟨r, hr⟩ : ∃ r, utf16_DecodeRune.f n m = some r := by
  unfold utf16_DecodeRune.f
  repeat' split
  all_goals exact ⟨_, rfl⟩
 exact (utf16_DecodeRune.calls n m r w hr).mono fun e w' ⟨h1, h2⟩ => ⟨h2.below, r, h1⟩
theorem surr (n : Int) (w : World) : Calls Tryz.prog 64 #[.int .i32 n] w fun e w' => Below w.heap.size w w' ∧ ∃ r : Bool, e = .returned (.bool r) := by
 obtain ⟨r, hr⟩ : ∃ r, utf16_IsSurrogate.f n = some r := by
  unfold utf16_IsSurrogate.f
  split
  ·exact ⟨_, rfl⟩
  ·exact ⟨_, rfl⟩
 exact (utf16_IsSurrogate.calls n r w hr).mono fun e w' ⟨h1, h2⟩ => ⟨h2.below, r, h1⟩
end Go.Proofs.YtdacgdjjdifneaaGreatDoor.PFnGjFlattenOften
