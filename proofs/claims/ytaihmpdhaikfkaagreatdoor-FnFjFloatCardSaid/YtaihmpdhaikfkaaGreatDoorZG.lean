/- Part of the proof that laws.FnFjFloat answers true for every input (the card: text ZF). -/
import Derived.Test.YtaihmpdhaikfkaaGreatDoorZD
import Derived.Outline
import Derived.Lib.AppendStr
import Derived.Laws.IdiomCopy
import Derived.Test.YtaihmpdhaikfkaaGreatDoorV15
import Derived.Laws.Runes
import Derived.Deep.CutBlock
import Derived.Deep.DeepCutAuto
set_option linter.all false
/- strconv.ParseUint of four signs to the base 16: a number, or a syntax error. -/
namespace Go.Proofs.YtaihmpdhaikfkaaGreatDoor.PFnFjFloat
open Go.RowKit Go.Proofs.YtaihmpdhaikfkaaGreatDoorW.PrintWords Go.Proofs.YtaihmpdhaikfkaaGreatDoorW.PrintLast Go.Proofs.YtaihmpdhaikfkaaGreatDoorW.PrintMore
/-- What the inner reader gives. -/
def UintP (w : World) (e : Ending) (w' : World) : Prop := Below w.heap.size w w' ∧ ((∃ n : Int, 0 ≤ n ∧ n ≤ 65535 ∧ e = .returned (.tuple #[.int .u64 n, .nilIface])) ∨ e = .returned (.tuple #[.int .u64 0, .iface 144 (.int .i64 2)]))
theorem ne_nil {s : ByteArray} (h : 0 < s.size) : s.toList.isEmpty = false ∧ (s.toList == []) = false ∧ (s.toList = []) = False := by
 have hl : s.data.toList.length = s.size := by simp
 have hn : s.toList ≠ [] := fun e => by rw [Lib.toList_data] at e; rw [e] at hl; simp at hl; omega
 refine ⟨by simpa using hn, by simpa using hn, eq_false hn⟩
theorem bytes_at (w : World) (s : ByteArray) (k : Nat) (hk : k < s.size) : (Lib.bytesWorld w 5 s).cell? ⟨w.heap.size, k, none⟩ = some (.int .u8 (bt s (k : Int))) := by
 rw [Lib.bytesWorld_cell w 5 s k hk, ← bt_nat s k hk]
 have hl : k < s.data.toList.length := by simpa using hk
 have : s.data.toList.getD k 0 = s[k] := by
  rw [List.getD_eq_getElem?_getD, List.getElem?_eq_getElem hl]
  rfl
 rw [this]
/-- What a sign is: a digit D, or none. -/
inductive Sign (c l : Int) : Prop
 | dig (D : Int) (h1 : decide (48 ≤ c) = true) (h2 : decide (c ≤ 57) = true) (h3 : IntKind.u8.wrap (c - 48) = D) (h0 : 0 ≤ D ∧ D ≤ 15) : Sign c l
 | let_ (q D : Int) (h1 : decide (48 ≤ c) = true) (h2 : decide (c ≤ 57) = false) (h3 : decide (97 ≤ l) = true) (h4 : decide (l ≤ 122) = true) (h5 : IntKind.u8.wrap (l - 97) = q) (h6 : IntKind.u8.wrap (q + 10) = D) (h0 : 0 ≤ D ∧ D ≤ 15) : Sign c l
 | big (q D : Int) (h1 : decide (48 ≤ c) = true) (h2 : decide (c ≤ 57) = false) (h3 : decide (97 ≤ l) = true) (h4 : decide (l ≤ 122) = true) (h5 : IntKind.u8.wrap (l - 97) = q) (h6 : IntKind.u8.wrap (q + 10) = D) (h0 : decide (16 ≤ D) = true) : Sign c l
 | bad1 (h1 : decide (48 ≤ c) = true) (h2 : decide (c ≤ 57) = false) (h3 : decide (97 ≤ l) = true) (h4 : decide (l ≤ 122) = false) : Sign c l
 | bad2 (h1 : decide (48 ≤ c) = true) (h2 : decide (c ≤ 57) = false) (h3 : decide (97 ≤ l) = false) : Sign c l
 | low1 (h1 : decide (48 ≤ c) = false) (h3 : decide (97 ≤ l) = true) (h4 : decide (l ≤ 122) = false) : Sign c l
 | low2 (h1 : decide (48 ≤ c) = false) (h3 : decide (97 ≤ l) = false) : Sign c l
 | low3 (q D : Int) (h1 : decide (48 ≤ c) = false) (h3 : decide (97 ≤ l) = true) (h4 : decide (l ≤ 122) = true) (h5 : IntKind.u8.wrap (l - 97) = q) (h6 : IntKind.u8.wrap (q + 10) = D) (h0 : 0 ≤ D ∧ D ≤ 15) : Sign c l
 | low4 (q D : Int) (h1 : decide (48 ≤ c) = false) (h3 : decide (97 ≤ l) = true) (h4 : decide (l ≤ 122) = true) (h5 : IntKind.u8.wrap (l - 97) = q) (h6 : IntKind.u8.wrap (q + 10) = D) (h0 : decide (16 ≤ D) = true) : Sign c l
theorem u8_in {x : Int} (h0 : 0 ≤ x) (h1 : x ≤ 255) : IntKind.u8.wrap x = x := by rw [IntKind.wrap_u8]; omega
theorem sign_of (c l : Int) (hc : 0 ≤ c ∧ c ≤ 255) : Sign c l := by
 by_cases a : 48 ≤ c
 ·by_cases b : c ≤ 57
  ·exact .dig (c - 48) (decide_eq_true a) (decide_eq_true b) (u8_in (by omega) (by omega)) (by omega)
  ·by_cases d : 97 ≤ l
   ·by_cases e : l ≤ 122
    ·by_cases f : l ≤ 102
     ·exact .let_ (l - 97) (l - 97 + 10) (decide_eq_true a) (decide_eq_false b) (decide_eq_true d) (decide_eq_true e) (u8_in (by omega) (by omega)) (u8_in (by omega) (by omega)) (by omega)
     ·exact .big (l - 97) (l - 97 + 10) (decide_eq_true a) (decide_eq_false b) (decide_eq_true d) (decide_eq_true e) (u8_in (by omega) (by omega)) (u8_in (by omega) (by omega)) (decide_eq_true (by omega))
    ·exact .bad1 (decide_eq_true a) (decide_eq_false b) (decide_eq_true d) (decide_eq_false e)
   ·exact .bad2 (decide_eq_true a) (decide_eq_false b) (decide_eq_false d)
 ·by_cases d : 97 ≤ l
  ·by_cases e : l ≤ 122
   ·by_cases f : l ≤ 102
    ·exact .low3 (l - 97) (l - 97 + 10) (decide_eq_false a) (decide_eq_true d) (decide_eq_true e) (u8_in (by omega) (by omega)) (u8_in (by omega) (by omega)) (by omega)
    ·exact .low4 (l - 97) (l - 97 + 10) (decide_eq_false a) (decide_eq_true d) (decide_eq_true e) (u8_in (by omega) (by omega)) (u8_in (by omega) (by omega)) (decide_eq_true (by omega))
   ·exact .low1 (decide_eq_false a) (decide_eq_true d) (decide_eq_false e)
  ·exact .low2 (decide_eq_false a) (decide_eq_false d)
theorem u64_in {x : Int} (h0 : 0 ≤ x) (h1 : x ≤ 18446744073709551615) : IntKind.u64.wrap x = x := by rw [IntKind.wrap_u64]; omega
/-- A digit more. -/
theorem step_facts {n D : Int} (hn : 0 ≤ n ∧ n ≤ 4095) (hD : 0 ≤ D ∧ D ≤ 15) : decide (16 ≤ D) = false ∧ decide (1152921504606846976 ≤ n) = false ∧ IntKind.u64.wrap (n * 16) = n * 16 ∧ IntKind.u64.wrap D = D ∧ IntKind.u64.wrap (n * 16 + D) = n * 16 + D ∧ decide (n * 16 + D < n * 16) = false ∧ decide (65535 < n * 16 + D) = false :=
 ⟨decide_eq_false (by omega), decide_eq_false (by omega), u64_in (by omega) (by omega), u64_in (by omega) (by omega), u64_in (by omega) (by omega), decide_eq_false (by omega), decide_eq_false (by omega)⟩
theorem n_bound {k : Nat} {n : Int} (h : k ≤ 4 ∧ 0 ≤ n ∧ n < 16 ^ k) (hk : k < 4) : 0 ≤ n ∧ n ≤ 4095 := by
 obtain ⟨_, h0, h⟩ := h
 have : k = 0 ∨ k = 1 ∨ k = 2 ∨ k = 3 := by omega
 rcases this with rfl | rfl | rfl | rfl <;> omega
theorem n_next {k : Nat} {n D : Int} (h : k ≤ 4 ∧ 0 ≤ n ∧ n < 16 ^ k) (hk : k < 4) (hD : 0 ≤ D ∧ D ≤ 15) : k + 1 ≤ 4 ∧ 0 ≤ n * 16 + D ∧ n * 16 + D < 16 ^ (k + 1) := by
 obtain ⟨_, h0, h⟩ := h
 have : k = 0 ∨ k = 1 ∨ k = 2 ∨ k = 3 := by omega
 rcases this with rfl | rfl | rfl | rfl <;> omega
theorem k_meas {k : Nat} (h : k < 4) : 4 - (intOf (.int .i64 ((k : Int) + 1))).toNat < 4 - (intOf (.int .i64 (k : Int))).toNat := by simp [intOf]; omega
set_option maxHeartbeats 8000000 in
set_option maxRecDepth 100000 in
theorem uint_in (s : ByteArray) (hs : s.size = 4) (w : World) : Calls Tryz.prog 87 #[.string s, .int .i64 16, .int .i64 16] w (UintP w) := by
 have kb := fun W => print_bytes (P := Tryz.prog) 9 40 5 Tryz.underlying9 Tryz.underlying40 Tryz.underlying5 s W
 have HB := sd (bytes_below (Below.refl w.heap.size w) (Nat.le_refl _) 5 s)
 have HC := sd (fun k (hk : k < 4) => bytes_at w s k (by omega))
 obtain ⟨e1, e2, e3⟩ := ne_nil (s := s) (by omega)
 go_enter Tryz.func87, Tryz.ntmps87
 go_wp2
 clear kb
 generalize Lib.bytesWorld w 5 s = W at HB HC ⊢
 go_loop [12, 13, 101] (fun u v i => ∃ (k : Nat) (n : Int), u = .bool false ∧ v = .int .u64 n ∧ i = .int .i64 k ∧ Aside0 (k ≤ 4 ∧ 0 ≤ n ∧ n < 16 ^ k)) (fun _ _ i => 4 - (intOf i).toNat)
 case atStart => exact ⟨0, 0, rfl, rfl, rfl, ⟨by omega, by omega, by decide⟩⟩
 case round =>
  obtain ⟨k, n, rfl, rfl, rfl, HK⟩ := hrel
  by_cases hlt : k < 4
  ·have hc := HC.out k hlt
   have t1 : decide ((k : Int) < 4) = true := decide_eq_true (by omega)
   have t2 : decide (k < 4) = true := decide_eq_true (by omega)
   have q1 : (0 ≤ (k : Int)) = True := eq_true (by omega)
   have q2 : ((k : Int) < 4) = True := eq_true (by omega)
   have hcr := bt_range s (k : Int)
   generalize bt s (k : Int) = c at hc hcr
   have hsg := sign_of c (bits .or .u8 c 32) hcr
   have hl := fun W => Tryz.internal_strconv_lower c W
   generalize bits .or .u8 c 32 = l at hsg hl
   have HL := sd hl
   have hw : -9223372036854775808 ≤ (k : Int) + 1 ∧ (k : Int) + 1 ≤ 9223372036854775807 := by omega
   obtain ⟨w1, w2⟩ := wrap_both hw
   have HLT := sd hlt
   clear hcr hw hlt hl hs
   rcases Bool.eq_false_or_eq_true (c == 95) with c95 | c95
   all_goals
    rcases hsg with ⟨D, h1, h2, h3, h0⟩ | ⟨q, D, h1, h2, h3, h4, h5, h6, h0⟩ | ⟨q, D, h1, h2, h3, h4, h5, h6, h0⟩ | ⟨h1, h2, h3, h4⟩ | ⟨h1, h2, h3⟩ | ⟨h1, h3, h4⟩ | ⟨h1, h3⟩ | ⟨q, D, h1, h3, h4, h5, h6, h0⟩ | ⟨q, D, h1, h3, h4, h5, h6, h0⟩
    all_goals first
     | (obtain ⟨s1, s2, s3, s4, s5, s6, s7⟩ := step_facts (n_bound HK.out HLT.out) h0; have HN := sd (n_next HK.out HLT.out h0); clear h0; go_wp2_with (first | (go_at_call 95; (with_reducible refine (HL.out _).mono ?_); rintro e0 W0 ⟨rfl, rfl⟩)); go_round; (case rel => exact ⟨k + 1, _, rfl, rfl, by go_num, HN⟩); (case measure => exact k_meas HLT.out))
     | (go_wp2_with (first | (go_at_call 95; (with_reducible refine (HL.out _).mono ?_); rintro e0 W0 ⟨rfl, rfl⟩)); go_ret2; exact ⟨HB.out, .inr rfl⟩)
  ·have t1 : decide ((k : Int) < 4) = false := decide_eq_false (by omega)
   have t2 : decide (k < 4) = false := decide_eq_false hlt
   go_wp2
   go_ret2
   have hk := HK.out
   have : k = 4 := by omega
   subst this
   exact ⟨HB.out, .inl ⟨n, hk.2.1, by omega, rfl⟩⟩
def byteCells (xs : List Int) : List Value := xs.map (Value.int .u8)
/-- v is a row of the call's own that reads as the bytes xs. -/
structure BR (w : World) (base : Nat) (v : Value) (xs : List Int) (g cap : Nat) : Prop where
 val : v = .slice (some ⟨g, 0, none⟩) xs.length cap
 ge : base ≤ g
 lt : g < w.heap.size
 le : xs.length ≤ cap
 max : cap ≤ maxLen
 there : ∀ j, j < cap → (w.cell? ⟨g, j, none⟩).isSome = true ∧ w.frozen? ⟨g, j, none⟩ = false
 cell : ∀ j v, (byteCells xs)[j]? = some v → w.cell? ⟨g, j, none⟩ = some v
theorem byteCells_length (xs : List Int) : (byteCells xs).length = xs.length := List.length_map ..
theorem below_setCells {B g : Nat} {w : World} (hg : B ≤ g) : ∀ (vs : List Value) (o : Nat) (W : World), Below B w W → Below B w (W.setCells g o vs)
 | [], _, _, h => h
 | v :: r, o, W, h => below_setCells hg r (o + 1) _ (h.setCell hg v)
theorem size_setCells (g : Nat) : ∀ (vs : List Value) (o : Nat) (W : World), (W.setCells g o vs).heap.size = W.heap.size
 | [], _, _ => rfl
 | v :: r, o, W => by rw [World.setCells, size_setCells g r, World.size_setCell]
theorem add0 (g j : Nat) : (⟨g, 0, none⟩ : Addr).add j = ⟨g, j, none⟩ := by unfold Addr.add; split <;> simp_all
section
variable {w W : World} {base g cap : Nat} {v : Value} {xs ys : List Int}
theorem BR.below (h : BR w base v xs g cap) (hb : Below w.heap.size w W) : BR W base v xs g cap :=
 ⟨h.val, h.ge, Nat.lt_of_lt_of_le h.lt hb.size, h.le, h.max, fun j hj => by
  rw [hb.cell (p := ⟨g, j, none⟩) h.lt, hb.frozen (p := ⟨g, j, none⟩) h.lt]; exact h.there j hj, fun j v hv => by rw [hb.cell (p := ⟨g, j, none⟩) h.lt]; exact h.cell j v hv⟩
theorem BR.reads (h : BR w base v xs g cap) : Kd.C (Kd.int .u8) w (some ⟨g, 0, none⟩) xs.length xs := by
 have hle := h.le
 have hmax := h.max
 refine Kd.C_of_reads (d := (0 : Int)) (h1 := fun _ => rfl) ⟨rfl, by simp only [maxLen] at hmax; omega, fun _ => ⟨_, rfl, fun j hj => ?_⟩⟩
 rw [add0]
 refine h.cell j _ ?_
 rw [byteCells, List.getElem?_map, List.getElem?_eq_getElem hj, List.getD_eq_getElem?_getD, List.getElem?_eq_getElem hj]
 rfl
/-- Behind a store of new bytes at the row's end. -/
theorem BR.room (h : BR w base v xs g cap) (hr : xs.length + ys.length ≤ cap) : BR (w.setCells g xs.length (byteCells ys)) base (.slice (some ⟨g, 0, none⟩) (xs.length + ys.length) cap) (xs ++ ys) g cap := by
 have hl := byteCells_length ys
 refine ⟨by rw [List.length_append], h.ge, by rw [size_setCells]; exact h.lt, by rw [List.length_append]; exact hr, h.max, fun j hj => ?_, fun j u hu => ?_⟩
 ·refine ⟨?_, by rw [World.frozen?_setCells]; exact (h.there j hj).2⟩
  by_cases a : xs.length ≤ j ∧ j < xs.length + ys.length
  ·have := World.cell?_setCells_in g (byteCells ys) xs.length w (fun i hi => (h.there _ (by omega)).1) (j - xs.length) (by omega)
   rw [show xs.length + (j - xs.length) = j by omega] at this
   rw [this]; rfl
  ·rw [World.cell?_setCells_out g _ _ w ⟨g, j, none⟩ (fun _ _ => by show j < xs.length ∨ _ ≤ j; omega)]
   exact (h.there j hj).1
 ·have hj : j < xs.length + ys.length := by
   have := (List.getElem?_eq_some_iff.1 hu).1
   rw [byteCells_length, List.length_append] at this
   exact this
  by_cases a : j < xs.length
  ·rw [World.cell?_setCells_out g _ _ w ⟨g, j, none⟩ (fun _ _ => .inl a)]
   refine h.cell j u ?_
   rw [← hu, byteCells, byteCells, List.map_append, List.getElem?_append_left (by rw [List.length_map]; exact a)]
  ·have := World.cell?_setCells_in g (byteCells ys) xs.length w (fun i hi => (h.there _ (by omega)).1) (j - xs.length) (by omega)
   rw [show xs.length + (j - xs.length) = j by omega] at this
   unfold byteCells at hu this ⊢
   rw [List.map_append, List.getElem?_append_right (by rw [List.length_map]; omega), List.length_map] at hu
   rw [this, ← hu, List.getElem?_eq_getElem]
/-- A new row that has grown. -/
theorem BR.grown {W' : World} {c : Nat} (h : BR w base v xs g cap) (hbase : base ≤ w.heap.size) (hW : W'.heap = (w.alloc (.cells ((byteCells xs).toArray ++ (byteCells ys).toArray ++ Builtin.zeroCells #[.int .u8 0] (c - (xs.length + ys.length))) 5)).heap) (hc : xs.length + ys.length ≤ c) (hm : c ≤ maxLen) :
  BR W' base (.slice (some ⟨w.heap.size, 0, none⟩) (xs.length + ys.length) c) (xs ++ ys) w.heap.size c := by
 have hk := blk_new w (.cells ((byteCells xs).toArray ++ (byteCells ys).toArray ++ Builtin.zeroCells #[.int .u8 0] (c - (xs.length + ys.length))) 5)
 rw [← hW] at hk
 have hz : (Builtin.zeroCells #[.int .u8 0] (c - (xs.length + ys.length))).size = c - (xs.length + ys.length) := by rw [size_zeroCells]; show _ * 1 = _; omega
 have hsz : ((byteCells xs).toArray ++ (byteCells ys).toArray ++ Builtin.zeroCells #[.int .u8 0] (c - (xs.length + ys.length))).size = c := by
  rw [Array.size_append, Array.size_append, hz, List.size_toArray, List.size_toArray, byteCells_length, byteCells_length]; omega
 refine ⟨by rw [List.length_append], hbase, blk_lt hk, by rw [List.length_append]; exact hc, hm, fun j hj => ?_, fun j u hu => ?_⟩
 ·rw [blk_cell hk]
  exact ⟨by rw [Array.getElem?_eq_getElem (by rw [hsz]; exact hj)]; rfl, blk_frozen hk j⟩
 ·rw [blk_cell hk]
  have hj := (List.getElem?_eq_some_iff.1 hu).1
  rw [byteCells, List.map_append] at hu hj
  rw [Array.getElem?_append_left (by rw [Array.size_append, List.size_toArray, List.size_toArray]; rw [List.length_append] at hj; exact hj), List.append_toArray, List.getElem?_toArray]
  exact hu
end
section
variable {P : Program}
theorem run_append_br {w0 w : World} {base g cap : Nat} {v : Value} {xs ys : List Int} (t u ty : TypeId) (i : TypeInfo) (x : Value) (ht : P.underlying t = some (.slice 5)) (hi : P.info? 5 = some i) (hz : i.zero = some (.int .u8 0)) (h1 : i.size = 1) (hby : i.bytes = 1)
  (h : BR w base v xs g cap) (hB : Below base w0 w) (hbase : base ≤ w.heap.size) (h63 : xs.length + ys.length ≤ 140737488355328)
  (hx : (∃ ad c, u = t ∧ x = .slice (some ad) ys.length c ∧ ∀ j v, (byteCells ys)[j]? = some v → w.cell? (ad.add j) = some v) ∨ (∃ s, P.underlying u = some .string ∧ x = .string s ∧ Lib.strCells s = byteCells ys)) :
  ∃ v' w' g' c', (Builtin.append_ #[t, u] ty #[v, x]).run P w = .ok v' w' ∧ BR w' base v' (xs ++ ys) g' c' ∧ Below base w0 w' := by
 obtain ⟨rfl⟩ : v = _ := h.val
 have hlen : (byteCells ys).length = ys.length := byteCells_length ys
 have hone : ∀ u ∈ byteCells ys, u.oneCell' = true := fun u hu => by
  rw [byteCells, List.mem_map] at hu
  obtain ⟨a, _, rfl⟩ := hu
  rfl
 by_cases hroom : xs.length + ys.length ≤ cap
 ·have hst := run_storeCells_cells (P := P) g xs.length (byteCells ys) 0 w (fun j hj => (h.there _ (by omega)).1) (fun j hj => (h.there _ (by omega)).2) hone
  simp only [Nat.add_zero] at hst
  refine ⟨_, _, g, cap, ?_, h.room hroom, below_setCells h.ge _ _ _ hB⟩
  rcases hx with ⟨ad, c, rfl, rfl, hnews⟩ | ⟨s, hu, rfl, hsc⟩
  ·have hf := run_firstCells_some (P := P) w 1 ys.length ad ys.length c (byteCells ys) (by rw [hlen, Nat.mul_one]) hnews
   simp [Builtin.append_, run_underlying ht, sizeOf, typeInfo, hi, h1, Builtin.lenOf, hroom, hf, Addr.add_lit, hst]
  ·have hsz : s.size = ys.length := by rw [← Lib.strCells_length, hsc, hlen]
   have hf := Lib.run_firstCells_string (P := P) w 1 s
   rw [hsz, hsc] at hf
   simp [Builtin.append_, run_underlying ht, run_underlying hu, sizeOf, typeInfo, hi, h1, Builtin.lenOf, hsz, hroom, hf, Addr.add_lit, hst]
 ·have hlo : (byteCells xs).length = xs.length * i.size := by rw [byteCells_length, h1, Nat.mul_one]
  have holds : ∀ j v, (byteCells xs)[j]? = some v → w.cell? ((⟨g, 0, none⟩ : Addr).add j) = some v := fun j v hv => by rw [add0]; exact h.cell j v hv
  have h9 : ((xs.length + ys.length : Nat) : Int) ≤ 9223372036854775807 := by omega
  have hfit : Builtin.nextslicecap (xs.length + ys.length) cap * i.bytes ≤ 281474976710656 := growslice_fits (by omega) (by rw [hby, Nat.mul_one]; exact h63)
  have hzc : (Value.int .u8 0).cells = #[.int .u8 0] := rfl
  rcases hx with ⟨ad, c, rfl, rfl, hnews⟩ | ⟨s, hu, rfl, hsc⟩
  ·have hr := run_append_grow (P := P) w _ ty 5 i _ ht hi hz ⟨g, 0, none⟩ xs.length cap (byteCells xs) hlo holds ad ys.length c (byteCells ys) (by rw [hlen, h1, Nat.mul_one]) hnews (by omega) h9 hfit
   rw [hzc] at hr
   refine ⟨_, _, w.heap.size, grownCap w (xs.length + ys.length) cap 5, hr, ?_, ?_⟩
   ·exact h.grown hbase rfl (grownCap_ge w _ _ _) (grownCap_le_maxLen w _ _ _ (by simp only [maxLen]; omega))
   ·exact (below_drew hB).alloc hbase _
  ·have hsz : s.size = ys.length := by rw [← Lib.strCells_length, hsc, hlen]
   have hr := Lib.run_append_grow_string (P := P) w t u ty 5 i _ ht hu hi hz ⟨g, 0, none⟩ xs.length cap (byteCells xs) hlo holds s (by omega) (by rw [hsz]; exact h9) (by rw [hsz]; exact hfit)
   rw [hzc, hsz, hsc] at hr
   refine ⟨_, _, w.heap.size, grownCap w (xs.length + ys.length) cap 5, hr, ?_, ?_⟩
   ·exact h.grown hbase rfl (grownCap_ge w _ _ _) (grownCap_le_maxLen w _ _ _ (by simp only [maxLen]; omega))
   ·exact (below_drew hB).alloc hbase _
theorem wpList_append_br {ops : Array Oper} {rest : List Oper} {o : Oper} {a : Act} {Q : Exit → Act → World → Prop} {w0 w : World} {base g cap : Nat} {v : Value} {xs : List Int} (hgd : o.guard = none) (sl x : Operand) (t u : TypeId)
  (ho : o.op = .call { callee := .builtin .append, args := #[sl, x], argTypes := #[t, u] }) (i : TypeInfo) (ht : P.underlying t = some (.slice 5)) (hi : P.info? 5 = some i) (hz : i.zero = some (.int .u8 0)) (h1 : i.size = 1) (hby : i.bytes = 1)
  (hs : a.eval sl = v) (h : BR w base v xs g cap) (hB : Below base w0 w) (hbase : base ≤ w.heap.size) (ys : List Int) (h63 : xs.length + ys.length ≤ 140737488355328)
  (hx : (∃ ad c, u = t ∧ a.eval x = .slice (some ad) ys.length c ∧ ∀ j v, (byteCells ys)[j]? = some v → w.cell? (ad.add j) = some v) ∨ (∃ s, P.underlying u = some .string ∧ a.eval x = .string s ∧ Lib.strCells s = byteCells ys))
  (hk : ∀ v' w' g' c', BR w' base v' (xs ++ ys) g' c' → Below base w0 w' → wpList P ops Q rest (a.put o.dst v') w') : wpList P ops Q (o :: rest) a w := by
 obtain ⟨v', w', g', c', hr, hbr, hb⟩ := run_append_br (P := P) t u o.type i (a.eval x) ht hi hz h1 hby h hB hbase h63 hx
 refine Kd.event_run hgd ?_ (hk v' w' g' c' hbr hb)
 simp [execOp, ho, resolve, invoke, builtin, hs, hr]
end
/-- The sentinel's variable holds a value. -/
def EvW (w : World) : Prop := ∃ ev, w.cell? ⟨5, 0, none⟩ = some ev ∧ (ev = .nilIface ∨ ∃ te pe, ev = .iface te pe)
theorem EvW.below {w W : World} (h : EvW w) (hb : Below w.heap.size w W) : EvW W := by
 obtain ⟨ev, h1, h2⟩ := h
 exact ⟨ev, (hb.cell (p := ⟨5, 0, none⟩) (World.block_lt_of_cell? w _ h1)).trans h1, h2⟩
theorem toErr (fn s : ByteArray) (hs : s.size ≤ 281474976710656) (base bits : Int) (w : World) (h : EvW w) : Calls Tryz.prog 81 #[.string fn, .string s, .int .i64 base, .int .i64 bits, .iface 144 (.int .i64 2)] w fun e w' => ∃ N : Nat, e = .returned (.iface 145 (.pointer (some ⟨N, 0, none⟩))) ∧ Below w.heap.size w w' := by
 obtain ⟨ev, h1, h2⟩ := h
 exact (Tryz.strconv_toError_syntax fn s base bits ev w hs h1 h2).mono fun e w' ⟨N, he, _, _, hb⟩ => ⟨N, he, hb⟩
set_option maxHeartbeats 4000000 in
set_option maxRecDepth 100000 in
theorem uint_calls (s : ByteArray) (hs : s.size = 4) (w : World) (hE : EvW w) : Calls Tryz.prog 77 #[.string s, .int .i64 16, .int .i64 16] w fun e w' => Below w.heap.size w w' ∧ ∃ (n : Int) (er : Value), e = .returned (.tuple #[.int .u64 n, er]) ∧ (0 ≤ n ∧ n ≤ 65535) ∧ (er = .nilIface ∨ ∃ N : Nat, er = .iface 145 (.pointer (some ⟨N, 0, none⟩))) := by
 have HS := sd hs
 have HE := sd hE
 clear hs hE
 go_enter Tryz.func77, Tryz.ntmps77
 go_wp2_with (first | (go_at_call 87; (with_reducible refine (uint_in s HS.out _).mono ?_); rintro e0 W ⟨hb, hc⟩; have HB := sd hb; clear hb; rcases hc with ⟨n, h0, h1, rfl⟩ | rfl) | (go_at_call 81; (with_reducible refine (toErr _ s (by have := HS.out; omega) _ _ _ (HE.out.below HB.out)).mono ?_); rintro e0 W2 ⟨N, rfl, hb⟩; have HB2 := sd (below_step HB.out hb); clear hb))
 ·go_ret2
  exact ⟨HB.out, n, _, rfl, ⟨h0, h1⟩, .inl rfl⟩
 ·go_ret2
  exact ⟨HB2.out, 0, _, rfl, ⟨by omega, by omega⟩, .inr ⟨N, rfl⟩⟩
/-- strings.IndexByte, loosely: none, or a place. -/
theorem ixc (s : ByteArray) (hs : s.size < 2 ^ 39) (c : Int) (w : World) : Calls Tryz.prog 75 #[.string s, .int .u8 c] w fun e w' => (e = .returned (.int .i64 (-1)) ∨ ∃ n : Nat, e = .returned (.int .i64 (n : Int)) ∧ Aside0 (n < s.size) ∧ decide ((n : Int) < 0) = false ∧ IntKind.i64.wrap ((n : Int) + 1) = (n : Int) + 1 ∧ wrap64 ((n : Int) + 1) = (n : Int) + 1 ∧
  ((0 ≤ (n : Int)) = True) ∧ (((n : Int) ≤ (s.size : Int)) = True) ∧ ((0 ≤ (n : Int) + 1) = True) ∧ (((n : Int) + 1 ≤ (s.size : Int)) = True) ∧ ((n : Int) + 1).toNat = n + 1) ∧ w = w' := by
 refine (Tryz.strings_IndexByte s c w).mono fun e w' ⟨h1, h2⟩ => ⟨?_, h2.symm⟩
 have h := indexByte_range s.data.toList c.toNat.toUInt8
 have hz : s.data.toList.length = s.size := by simp
 rw [h1]
 generalize Lib.indexByte s.data.toList c.toNat.toUInt8 = n at *
 rw [hz] at h
 by_cases a : n = -1
 ·subst a; exact .inl rfl
 ·obtain ⟨m, rfl⟩ : ∃ m : Nat, n = (m : Int) := ⟨n.toNat, by omega⟩
  obtain ⟨w1, w2⟩ := wrap_both (x := (m : Int) + 1) (by omega)
  exact .inr ⟨m, rfl, ⟨by omega⟩, decide_eq_false (by omega), w1, w2, eq_true (by omega), eq_true (by omega), eq_true (by omega), eq_true (by omega), by omega⟩
theorem br_bytes (w : World) (s : ByteArray) (hs : s.size ≤ maxLen) : BR (Lib.bytesWorld w 5 s) w.heap.size (.slice (some ⟨w.heap.size, 0, none⟩) s.size (grownCap w s.size 0 5)) (bytesOf s) w.heap.size (grownCap w s.size 0 5) := by
 have hl := bytesOf_length s
 have hge := grownCap_ge w s.size 0 5
 have hk := Lib.bytesWorld_at_new w 5 s
 have hz : (Lib.bytesCells w 5 s).size = grownCap w s.size 0 5 := by
  unfold Lib.bytesCells
  rw [Array.size_append, Array.size_map, Array.size_replicate]
  show s.size + _ = _
  omega
 refine ⟨by rw [hl], Nat.le_refl _, by rw [Lib.bytesWorld_size]; omega, by rw [hl]; exact hge, grownCap_le_maxLen w _ _ _ hs, fun j hj => ⟨?_, ?_⟩, fun j v hv => ?_⟩
 ·simp only [World.cell?, hk]
  rw [Array.getElem?_eq_getElem (by rw [hz]; exact hj)]; rfl
 ·simp only [World.frozen?, hk]
  rw [hz]
  have : ¬ (grownCap w s.size 0 5 ≤ j) := by omega
  simp [this]
 ·have hj := (List.getElem?_eq_some_iff.1 hv).1
  rw [byteCells_length, hl] at hj
  rw [bytes_at w s j hj]
  rw [← hv, byteCells, List.getElem?_map]
  have hjl : j < (bytesOf s).length := by rw [hl]; exact hj
  rw [List.getElem?_eq_getElem hjl]
  have : bt s (j : Int) = (bytesOf s)[j] := by
   have := bt_drop (a := s) (i := j) (c := (bytesOf s)[j]) (r := (bytesOf s).drop (j + 1)) (List.drop_eq_getElem_cons hjl)
   exact this
  rw [this]; rfl
theorem BR.take {w : World} {base g cap n : Nat} {v : Value} {xs : List Int} (h : BR w base v xs g cap) (hn : n ≤ xs.length) : BR w base (.slice (some ⟨g, 0, none⟩) n cap) (xs.take n) g cap := by
 have hl : (xs.take n).length = n := by rw [List.length_take]; omega
 refine ⟨by rw [hl], h.ge, h.lt, by rw [hl]; have := h.le; omega, h.max, h.there, fun j v hv => h.cell j v ?_⟩
 rw [← hv, byteCells, byteCells, List.map_take, List.getElem?_take]
 have hj := (List.getElem?_eq_some_iff.1 hv).1
 rw [byteCells_length, hl] at hj
 rw [if_pos hj]
set_option maxHeartbeats 4000000 in
set_option maxRecDepth 100000 in
theorem s2b_calls (s : ByteArray) (hs : s.size < 2 ^ 39) (w : World) : Calls Tryz.prog 76 #[.string s] w fun e w' => ∃ g cap, e = .returned (.slice (some ⟨g, 0, none⟩) s.size cap) ∧ BR w' w.heap.size (.slice (some ⟨g, 0, none⟩) s.size cap) (bytesOf s) g cap ∧ Below w.heap.size w w' := by
 have kb := fun W => print_bytes (P := Tryz.prog) 9 40 5 Tryz.underlying9 Tryz.underlying40 Tryz.underlying5 s W
 go_enter Tryz.func76, Tryz.ntmps76
 go_wp2
 go_ret
 exact ⟨_, _, rfl, br_bytes w s (by simp only [maxLen]; omega), bytes_below (Below.refl _ _) (Nat.le_refl _) 5 s⟩
/-- b is a row of bytes of the call's own, of at most L bytes. -/
def BU (w W : World) (b : Value) (L : Nat) : Prop := ∃ xs g cap, BR W w.heap.size b xs g cap ∧ Below w.heap.size w W ∧ xs.length ≤ L
section
variable {w W W2 : World} {b : Value} {L : Nat}
theorem BU.bel (h : BU w W b L) : Below w.heap.size w W := by obtain ⟨_, _, _, _, h, _⟩ := h; exact h
theorem BU.below (h : BU w W b L) (hb : Below W.heap.size W W2) : BU w W2 b L := by
 obtain ⟨xs, g, cap, h1, h2, h3⟩ := h
 exact ⟨xs, g, cap, h1.below hb, below_step h2 hb, h3⟩
theorem BU.alloc (h : BU w W b L) (o : Obj) : BU w (W.alloc o) b L := h.below (below_alloc (Below.refl _ _) o)
theorem BU.mono {L' : Nat} (h : BU w W b L) (hl : L ≤ L') : BU w W b L' := by
 obtain ⟨xs, g, cap, h1, h2, h3⟩ := h
 exact ⟨xs, g, cap, h1, h2, Nat.le_trans h3 hl⟩
theorem wpList_append_bu {P : Program} {ops : Array Oper} {rest : List Oper} {o : Oper} {a : Act} {Q : Exit → Act → World → Prop} (hgd : o.guard = none) (sl x : Operand) (t u : TypeId)
  (ho : o.op = .call { callee := .builtin .append, args := #[sl, x], argTypes := #[t, u] }) (i : TypeInfo) (ht : P.underlying t = some (.slice 5)) (hi : P.info? 5 = some i) (hz : i.zero = some (.int .u8 0)) (h1 : i.size = 1) (hby : i.bytes = 1)
  (hs : a.eval sl = b) (h : BU w W b L) (ys : List Int) (K : Nat) (hK : ys.length ≤ K) (h63 : L + K ≤ 140737488355328)
  (hx : (∃ ad c, u = t ∧ a.eval x = .slice (some ad) ys.length c ∧ ∀ j v, (byteCells ys)[j]? = some v → W.cell? (ad.add j) = some v) ∨ (∃ s, P.underlying u = some .string ∧ a.eval x = .string s ∧ Lib.strCells s = byteCells ys))
  (hk : ∀ v' w', BU w w' v' (L + K) → wpList P ops Q rest (a.put o.dst v') w') : wpList P ops Q (o :: rest) a W := by
 obtain ⟨xs, g, cap, h2, h3, h4⟩ := h
 refine wpList_append_br hgd sl x t u ho i ht hi hz h1 hby hs h2 h3 h3.size ys (by omega) hx ?_
 intro v' w' g' c' hbr hb
 exact hk v' w' ⟨xs ++ ys, g', c', hbr, hb, by rw [List.length_append]; omega⟩
end
theorem strCells_bytes (s : ByteArray) : Lib.strCells s = byteCells (bytesOf s) := by simp [Lib.strCells, byteCells, bytesOf]
theorem enc_le (n : Int) : (Utf8.encode n).size ≤ 4 := by
 unfold Utf8.encode
 dsimp only
 generalize (if Utf8.valid n = true then n.toNat else Utf8.runeError) = c
 by_cases a : c < 0x80
 ·rw [if_pos a]; exact (by decide : 1 ≤ 4)
 ·rw [if_neg a]
  by_cases b : c < 0x800
  ·rw [if_pos b]; exact (by decide : 2 ≤ 4)
  ·rw [if_neg b]
   by_cases d : c < 0x10000
   ·rw [if_pos d]; exact (by decide : 3 ≤ 4)
   ·rw [if_neg d]; exact (by decide : 4 ≤ 4)
theorem new_cell2 (w : World) (v v2 : Value) (t : TypeId) : ∀ (j : Nat) (u : Value), [v, v2][j]? = some u → (w.alloc (.cells #[v, v2] t)).cell? ((⟨w.heap.size, 0, none⟩ : Addr).add j) = some u := by
 intro j u hj
 rw [add0, blk_cell (t := t) (cs := #[v, v2]) (blk_new w _)]
 simpa using hj
theorem bu_k {L K : Nat} (h : L ≤ 8589934592) (hk : K ≤ 8) : L + K ≤ 140737488355328 := by omega
theorem bu_kk {L J K : Nat} (h : L ≤ 8589934592) (hj : J ≤ 8) (hk : K ≤ 8) : L + J + K ≤ 140737488355328 := by omega
/-- utf16.IsSurrogate of a number, and how the text behind it goes on. -/
theorem surr (n : Int) (t2 : ByteArray) (w : World) : Calls Tryz.prog 78 #[.int .i32 n] w fun e w' => Below w.heap.size w w' ∧ (e = .returned (.bool false) ∨ (e = .returned (.bool true) ∧ (decide ((t2.size : Int) < 6) = true ∨
  (decide ((t2.size : Int) < 6) = false ∧ Aside0 (6 ≤ t2.size) ∧ ((0 < t2.size) = True) ∧ ((1 < t2.size) = True) ∧ (((1 : Int) < (t2.size : Int)) = True) ∧ (∀ h : 0 < t2.size, ((t2[0]'h).toNat : Int) = bt t2 0) ∧ (∀ h : 1 < t2.size, ((t2[1]'h).toNat : Int) = bt t2 1) ∧ (((6 : Int) ≤ (t2.size : Int)) = True) ∧
   ((bt t2 0 != 92) = true ∨ ((bt t2 0 != 92) = false ∧ ((bt t2 1 != 117) = true ∨ (bt t2 1 != 117) = false))))))) := by
 obtain ⟨r, hr⟩ : ∃ r, utf16_IsSurrogate.f n = some r := by
  unfold utf16_IsSurrogate.f
  split
  ·exact ⟨_, rfl⟩
  ·exact ⟨_, rfl⟩
 refine (utf16_IsSurrogate.calls n r w hr).mono fun e w' ⟨h1, h2⟩ => ⟨h2.below, ?_⟩
 cases r
 ·exact .inl h1
 ·refine .inr ⟨h1, ?_⟩
  by_cases a : t2.size < 6
  ·exact .inl (decide_eq_true (by omega))
  ·refine .inr ⟨decide_eq_false (by omega), ⟨by omega⟩, eq_true (by omega), eq_true (by omega), eq_true (by omega), bt_nat t2 0, bt_nat t2 1, eq_true (by omega), ?_⟩
   cases bt t2 0 != 92
   ·cases bt t2 1 != 117
    ·exact .inr ⟨rfl, .inr rfl⟩
    ·exact .inr ⟨rfl, .inl rfl⟩
   ·exact .inl rfl
theorem decr (n m : Int) (w : World) : Calls Tryz.prog 79 #[.int .i32 n, .int .i32 m] w fun e w' => Below w.heap.size w w' ∧ ∃ r : Int, e = .returned (.int .i32 r) := by
 obtain ⟨r, hr⟩ : ∃ r, utf16_DecodeRune.f n m = some r := by
  unfold utf16_DecodeRune.f
  repeat' split
  all_goals exact ⟨_, rfl⟩
 exact (utf16_DecodeRune.calls n m r w hr).mono fun e w' ⟨h1, h2⟩ => ⟨h2.below, r, h1⟩
theorem i32_in {n : Int} (h : 0 ≤ n ∧ n ≤ 65535) : IntKind.i32.wrap n = n ∧ wrap32 n = n := by
 have h2 : IntKind.i32.wrap n = n := by rw [IntKind.wrap_i32]; omega
 exact ⟨h2, by unfold wrap32; omega⟩
theorem ue_cap {W : World} {base g cap n : Nat} {s : ByteArray} {v : Value} (h : BR W base v (bytesOf s) g cap) (hn : n < s.size) : (n : Int) ≤ (cap : Int) := by
 have := h.le
 rw [bytesOf_length] at this
 omega
theorem bu_of {w W : World} {v : Value} {g cap n : Nat} {s : ByteArray} (h : BR W w.heap.size v (bytesOf s) g cap) (hb : Below w.heap.size w W) (hn : n < s.size) : BU w W (.slice (some ⟨g, 0, none⟩) n cap) n :=
 ⟨_, g, cap, h.take (by rw [bytesOf_length]; omega), hb, by rw [List.length_take]; omega⟩
theorem ue_start {s t : ByteArray} {n : Nat} (h : s.extract (n + 1) s.size = t) (hn : n < s.size) : n + 4 * t.size ≤ 4 * s.size := by
 rw [← h, size_cut]; omega
theorem info5u : (Tryz.prog.info? 5).map (fun i => (i.zero, i.size, i.bytes)) = some (some (Value.int .u8 0), 1, 1) := by kernel_rfl
theorem b2s_bu {w W : World} {v : Value} {L : Nat} (h : BU w W v L) : Calls Tryz.prog 31 #[v] W fun e w' => (∃ r, e = .returned (.string r)) ∧ Below w.heap.size w w' := by
 obtain ⟨xs, g, cap, h1, h2, _⟩ := h
 have hv := h1.val
 subst hv
 exact (fastjson_b2s.calls _ _ _ _ W h1.reads h1.le rfl).mono fun e w' ⟨a, b⟩ => ⟨⟨_, a⟩, below_step h2 b.below⟩
theorem b2s_fin {w W : World} (r : ByteArray) (h : Below w.heap.size w W) : (∃ x, Ending.returned (.string r) = .returned (.string x)) ∧ Below w.heap.size w W := ⟨⟨r, rfl⟩, h⟩
theorem ue_next {s t2 : ByteArray} {L n : Nat} (h : L + 4 * t2.size ≤ 4 * s.size) (hn : n < t2.size) : L + n + 4 * (t2.extract (n + 1) t2.size).size ≤ 4 * s.size := by
 rw [size_cut]; omega
theorem ue_meas {t t2 : ByteArray} {n : Nat} (h : t2.size < t.size) (hn : n < t2.size) : (t2.extract (n + 1) t2.size).size < t.size := by
 rw [size_cut]; omega
theorem len_cut {t : ByteArray} {n : Nat} (hn : n < t.size) : (bytesOf (t.extract 0 n)).length ≤ n := by rw [bytesOf_length, size_cut]; omega
theorem bu_str {L k : Nat} (h : L ≤ 8589934592) (hk : k < 2 ^ 30) : L + k ≤ 140737488355328 := by omega
theorem cut_add {t t1 t2 : ByteArray} {i : Nat} (h : t2.size + i = t1.size) (h1 : t1.size + 1 = t.size) : t2.size + (i + 1) = t.size := by omega
theorem rel_kk {s t t1 : ByteArray} {L J K c : Nat} (h : L + 4 * t.size ≤ 4 * s.size) (h1 : t1.size + c = t.size) (hk : J + K ≤ 4 * c) (h0 : 0 < c) : L + J + K + 4 * t1.size ≤ 4 * s.size ∧ t1.size < t.size := by omega
theorem cut_6 {t t2 : ByteArray} {c : Nat} (h : t2.size + c = t.size) (h6 : 6 ≤ t2.size) : (t2.extract 6 t2.size).size + (c + 6) = t.size := by
 rw [size_cut]; omega
theorem sw_cases (n : Int) : (n == 34) = true ∨ ((n == 34) = false ∧ ((n == 92) = true ∨ ((n == 92) = false ∧ ((n == 47) = true ∨ ((n == 47) = false ∧ ((n == 98) = true ∨ ((n == 98) = false ∧ ((n == 102) = true ∨ ((n == 102) = false ∧ ((n == 110) = true ∨ ((n == 110) = false ∧ ((n == 114) = true ∨ ((n == 114) = false ∧ ((n == 116) = true ∨ ((n == 116) = false ∧ ((n == 117) = true ∨ ((n == 117) = false))))))))))))))))) := by
 cases (n == (34 : Int))
 rotate_left
 ·exact .inl rfl
 refine .inr ⟨rfl, ?_⟩
 cases (n == (92 : Int))
 rotate_left
 ·exact .inl rfl
 refine .inr ⟨rfl, ?_⟩
 cases (n == (47 : Int))
 rotate_left
 ·exact .inl rfl
 refine .inr ⟨rfl, ?_⟩
 cases (n == (98 : Int))
 rotate_left
 ·exact .inl rfl
 refine .inr ⟨rfl, ?_⟩
 cases (n == (102 : Int))
 rotate_left
 ·exact .inl rfl
 refine .inr ⟨rfl, ?_⟩
 cases (n == (110 : Int))
 rotate_left
 ·exact .inl rfl
 refine .inr ⟨rfl, ?_⟩
 cases (n == (114 : Int))
 rotate_left
 ·exact .inl rfl
 refine .inr ⟨rfl, ?_⟩
 cases (n == (116 : Int))
 rotate_left
 ·exact .inl rfl
 refine .inr ⟨rfl, ?_⟩
 cases (n == (117 : Int))
 rotate_left
 ·exact .inl rfl
 refine .inr rfl
theorem cut_size1 {t t1 : ByteArray} {i : Nat} (h : t.extract i t.size = t1) (hi : i ≤ t.size) : t1.size + i = t.size := by
 rw [← h, size_cut]; omega
theorem hl_of {s t : ByteArray} {L : Nat} (hs : s.size < 2 ^ 30) (h : L + 4 * t.size ≤ 4 * s.size) : L ≤ 8589934592 ∧ t.size < 2 ^ 30 := by omega
/-- The byte behind the backslash, and the rest. -/
theorem head_facts {t : ByteArray} (h : 0 < t.size) : (0 < t.size) = True ∧ decide (0 < (t.size : Int)) = true ∧ decide (0 < t.size) = true ∧ ((1 : Int) ≤ (t.size : Int)) = True ∧ (∀ h : 0 < t.size, ((t[0]'h).toNat : Int) = bt t 0) :=
 ⟨eq_true h, decide_eq_true (by omega), decide_eq_true h, eq_true (by omega), bt_nat t 0⟩
theorem none_facts {t : ByteArray} (h : ¬ 0 < t.size) : decide (0 < (t.size : Int)) = false ∧ decide (0 < t.size) = false := ⟨decide_eq_false (by omega), decide_eq_false h⟩
theorem rel_k {s t t1 : ByteArray} {L K c : Nat} (h : L + 4 * t.size ≤ 4 * s.size) (h1 : t1.size + c = t.size) (hk : K ≤ 4 * c) (h0 : 0 < c) : L + K + 4 * t1.size ≤ 4 * s.size ∧ t1.size < t.size := by omega
/-- Four bytes behind the u. -/
theorem four_facts (t : ByteArray) : (decide ((t.size : Int) < 4) = true ∨ (decide ((t.size : Int) < 4) = false ∧ ((4 : Int) ≤ (t.size : Int)) = True ∧ Aside0 (4 ≤ t.size))) := by
 by_cases h : t.size < 4
 ·exact .inl (decide_eq_true (by omega))
 ·exact .inr ⟨decide_eq_false (by omega), eq_true (by omega), ⟨by omega⟩⟩
theorem cut_four {t x : ByteArray} {i j : Nat} (h : t.extract i j = x) (hj : j ≤ t.size) (hij : i + 4 = j) : x.size = 4 := by
 rw [← h, size_cut]; omega
theorem len_x {x : ByteArray} (h : x.size = 4) : (bytesOf x).length ≤ 4 := by rw [bytesOf_length]; omega
theorem len_enc (n : Int) : (bytesOf (Utf8.encode n)).length ≤ 4 := by rw [bytesOf_length]; exact enc_le n
theorem len_u : (bytesOf ⟨#[92, 117]⟩).length ≤ 2 := by rw [bytesOf_length]; exact Nat.le_refl _
set_option maxHeartbeats 16000000 in
set_option maxRecDepth 100000 in
theorem unesc (s : ByteArray) (hs : s.size < 2 ^ 30) (w : World) (hE : EvW w) : Calls Tryz.prog 51 #[.string s] w fun e w' => (∃ r, e = .returned (.string r)) ∧ Below w.heap.size w w' := by
 have HS := sd hs
 have HE := sd hE
 clear hs hE
 obtain ⟨i0, hi, hz0, hz1, hz2⟩ := info_parts info5u
 go_enter Tryz.func51, Tryz.ntmps51
 go_wp2_with (first | (go_at_call 75; (with_reducible refine (ixc s (Nat.lt_trans HS.out (by decide)) 92 _).mono ?_); rintro e0 W ⟨hcs, rfl⟩; rcases hcs with rfl | ⟨n, rfl, hn, f0, f1, f2, f3, f4, f5, f6, f7⟩) | (go_at_call 76; (with_reducible refine (s2b_calls s (Nat.lt_trans HS.out (by decide)) _).mono ?_); rintro e0 W1 ⟨g, cap, rfl, hb, hbel⟩; have HB := sd hb; have HBe := sd hbel; have hcap := eq_true (ue_cap hb hn.out); clear hb hbel))
 ·go_ret
  exact ⟨⟨_, rfl⟩, Below.refl _ _⟩
 ·have Q := sd (bu_of HB.out HBe.out hn.out)
  generalize hT : s.extract (n + 1) s.size = t0
  have HT0 := sd (ue_start hT hn.out)
  clear hn f0 f1 f2 f3 f4 f5 f6 f7 hcap HB HBe hT
  go_loopw [0, 4] (fun v b wr => ∃ (t : ByteArray) (L : Nat), v = .string t ∧ Aside0 (BU w wr b L) ∧ Aside0 (L + 4 * t.size ≤ 4 * s.size)) (fun v _ _ => strLen v)
  case atStart => exact ⟨t0, _, rfl, Q, HT0⟩
  case round =>
   clear Q HT0
   obtain ⟨t, L, rfl, Q, HT⟩ := hrel
   have HL := sd (hl_of HS.out HT.out).1
   by_cases hp : 0 < t.size
   ·have HP := sd hp
    obtain ⟨p1, p2, p3, p4, p5⟩ := head_facts hp
    clear hp
    go_upto_block 2 with (fail)
    generalize h1 : t.extract 1 t.size = t1
    have H1 := sd (cut_size1 h1 HP.out)
    clear h1
    go_cut [0, 4] (fun v b wc => ∃ (t2 : ByteArray) (L2 : Nat), v = .string t2 ∧ Aside0 (BU w wc b L2) ∧ Aside0 (L2 + 4 * t2.size ≤ 4 * s.size ∧ t2.size < t.size))
    case first =>
     rcases sw_cases (bt t 0) with c0 | ⟨c0, c1 | ⟨c1, c2 | ⟨c2, c3 | ⟨c3, c4 | ⟨c4, c5 | ⟨c5, c6 | ⟨c6, c7 | ⟨c7, c8 | c8⟩⟩⟩⟩⟩⟩⟩⟩
     ·go_wp2_with (first | (at_builtin; refine wpList_append_bu rfl _ _ 40 40 rfl i0 Tryz.underlying40 hi hz0 hz1 hz2 rfl (Q.out.alloc _) [_] 1 (Nat.le_refl _) (bu_k HL.out (by decide)) (.inl ⟨⟨_, 0, none⟩, 1, rfl, rfl, new_cell _ _ _⟩) ?_; intro v1 w1 hq; have Q := sd hq; clear hq))
      go_meet
      case rel => exact ⟨_, _, rfl, Q, ⟨rel_k HT.out H1.out (by decide) (by decide)⟩⟩
     ·go_wp2_with (first | (at_builtin; refine wpList_append_bu rfl _ _ 40 40 rfl i0 Tryz.underlying40 hi hz0 hz1 hz2 rfl (Q.out.alloc _) [_] 1 (Nat.le_refl _) (bu_k HL.out (by decide)) (.inl ⟨⟨_, 0, none⟩, 1, rfl, rfl, new_cell _ _ _⟩) ?_; intro v1 w1 hq; have Q := sd hq; clear hq))
      go_meet
      case rel => exact ⟨_, _, rfl, Q, ⟨rel_k HT.out H1.out (by decide) (by decide)⟩⟩
     ·go_wp2_with (first | (at_builtin; refine wpList_append_bu rfl _ _ 40 40 rfl i0 Tryz.underlying40 hi hz0 hz1 hz2 rfl (Q.out.alloc _) [_] 1 (Nat.le_refl _) (bu_k HL.out (by decide)) (.inl ⟨⟨_, 0, none⟩, 1, rfl, rfl, new_cell _ _ _⟩) ?_; intro v1 w1 hq; have Q := sd hq; clear hq))
      go_meet
      case rel => exact ⟨_, _, rfl, Q, ⟨rel_k HT.out H1.out (by decide) (by decide)⟩⟩
     ·go_wp2_with (first | (at_builtin; refine wpList_append_bu rfl _ _ 40 40 rfl i0 Tryz.underlying40 hi hz0 hz1 hz2 rfl (Q.out.alloc _) [_] 1 (Nat.le_refl _) (bu_k HL.out (by decide)) (.inl ⟨⟨_, 0, none⟩, 1, rfl, rfl, new_cell _ _ _⟩) ?_; intro v1 w1 hq; have Q := sd hq; clear hq))
      go_meet
      case rel => exact ⟨_, _, rfl, Q, ⟨rel_k HT.out H1.out (by decide) (by decide)⟩⟩
     ·go_wp2_with (first | (at_builtin; refine wpList_append_bu rfl _ _ 40 40 rfl i0 Tryz.underlying40 hi hz0 hz1 hz2 rfl (Q.out.alloc _) [_] 1 (Nat.le_refl _) (bu_k HL.out (by decide)) (.inl ⟨⟨_, 0, none⟩, 1, rfl, rfl, new_cell _ _ _⟩) ?_; intro v1 w1 hq; have Q := sd hq; clear hq))
      go_meet
      case rel => exact ⟨_, _, rfl, Q, ⟨rel_k HT.out H1.out (by decide) (by decide)⟩⟩
     ·go_wp2_with (first | (at_builtin; refine wpList_append_bu rfl _ _ 40 40 rfl i0 Tryz.underlying40 hi hz0 hz1 hz2 rfl (Q.out.alloc _) [_] 1 (Nat.le_refl _) (bu_k HL.out (by decide)) (.inl ⟨⟨_, 0, none⟩, 1, rfl, rfl, new_cell _ _ _⟩) ?_; intro v1 w1 hq; have Q := sd hq; clear hq))
      go_meet
      case rel => exact ⟨_, _, rfl, Q, ⟨rel_k HT.out H1.out (by decide) (by decide)⟩⟩
     ·go_wp2_with (first | (at_builtin; refine wpList_append_bu rfl _ _ 40 40 rfl i0 Tryz.underlying40 hi hz0 hz1 hz2 rfl (Q.out.alloc _) [_] 1 (Nat.le_refl _) (bu_k HL.out (by decide)) (.inl ⟨⟨_, 0, none⟩, 1, rfl, rfl, new_cell _ _ _⟩) ?_; intro v1 w1 hq; have Q := sd hq; clear hq))
      go_meet
      case rel => exact ⟨_, _, rfl, Q, ⟨rel_k HT.out H1.out (by decide) (by decide)⟩⟩
     ·go_wp2_with (first | (at_builtin; refine wpList_append_bu rfl _ _ 40 40 rfl i0 Tryz.underlying40 hi hz0 hz1 hz2 rfl (Q.out.alloc _) [_] 1 (Nat.le_refl _) (bu_k HL.out (by decide)) (.inl ⟨⟨_, 0, none⟩, 1, rfl, rfl, new_cell _ _ _⟩) ?_; intro v1 w1 hq; have Q := sd hq; clear hq))
      go_meet
      case rel => exact ⟨_, _, rfl, Q, ⟨rel_k HT.out H1.out (by decide) (by decide)⟩⟩
     ·clear c0 c1 c2 c3 c4 c5 c6 c7
      rcases four_facts t1 with f4 | ⟨f4, g4, H4⟩
      ·go_wp2_with (first | (at_builtin; (first | (refine wpList_append_bu rfl _ _ 40 9 rfl i0 Tryz.underlying40 hi hz0 hz1 hz2 rfl Q.out (bytesOf _) 2 len_u (bu_k HL.out (by decide)) (.inr ⟨_, Tryz.underlying9, rfl, strCells_bytes _⟩) ?_) | (refine wpList_append_bu rfl _ _ 40 9 rfl i0 Tryz.underlying40 hi hz0 hz1 hz2 rfl Q.out (bytesOf _) 4 (len_x HX.out) (bu_kk HL.out (by decide) (by decide)) (.inr ⟨_, Tryz.underlying9, rfl, strCells_bytes _⟩) ?_) | (refine wpList_append_bu rfl _ _ 40 9 rfl i0 Tryz.underlying40 hi hz0 hz1 hz2 rfl Q.out (bytesOf _) 4 (len_enc _) (bu_k HL.out (by decide)) (.inr ⟨_, Tryz.underlying9, rfl, strCells_bytes _⟩) ?_)); intro v1 w1 hq; have Q := sd hq; clear hq))
       go_meet
       case rel => exact ⟨_, _, rfl, Q, ⟨rel_k HT.out H1.out (by decide) (by decide)⟩⟩
      ·go_wp2_with (first | (go_at_call 77; (generalize hx4 : t1.extract 0 4 = x4); have HX := sd (cut_four hx4 H4.out rfl); clear hx4; (with_reducible refine (uint_calls x4 HX.out _ (EvW.below HE.out Q.out.bel)).mono ?_); rintro e0 W ⟨hb, n, er, rfl, hn, rfl | ⟨N, rfl⟩⟩; all_goals (have Q := sd (Q.out.below hb); obtain ⟨m1, m2⟩ := i32_in hn; clear hb hn)) | (go_at_call 78; (generalize h2 : t1.extract 4 t1.size = t2); have H2 := sd (cut_add (cut_size1 h2 H4.out) H1.out); clear h2; (with_reducible refine (surr _ t2 _).mono ?_); rintro e0 W ⟨hb, rfl | ⟨rfl, d1 | ⟨d1, HZ, z1, z2, z6, z3, z4, z5, d2 | ⟨d2, d3 | d3⟩⟩⟩⟩; all_goals (have Q := sd (Q.out.below hb); clear hb)) | (go_at_call 77; (generalize hx5 : t2.extract 2 6 = x5); have HY := sd (cut_four hx5 HZ.out rfl); clear hx5; (with_reducible refine (uint_calls x5 HY.out _ (EvW.below HE.out Q.out.bel)).mono ?_); rintro e0 W ⟨hb, n2, er, rfl, hn, rfl | ⟨N, rfl⟩⟩; all_goals (have Q := sd (Q.out.below hb); obtain ⟨m3, m4⟩ := i32_in hn; clear hb hn)) | (go_at_call 79; (with_reducible refine (decr _ _ _).mono ?_); rintro e0 W ⟨hb, rr, rfl⟩; have Q := sd (Q.out.below hb); clear hb) | (at_builtin; (first | (refine wpList_append_bu rfl _ _ 40 9 rfl i0 Tryz.underlying40 hi hz0 hz1 hz2 rfl Q.out (bytesOf _) 2 len_u (bu_k HL.out (by decide)) (.inr ⟨_, Tryz.underlying9, rfl, strCells_bytes _⟩) ?_) | (refine wpList_append_bu rfl _ _ 40 9 rfl i0 Tryz.underlying40 hi hz0 hz1 hz2 rfl Q.out (bytesOf _) 4 (len_x HX.out) (bu_kk HL.out (by decide) (by decide)) (.inr ⟨_, Tryz.underlying9, rfl, strCells_bytes _⟩) ?_) | (refine wpList_append_bu rfl _ _ 40 9 rfl i0 Tryz.underlying40 hi hz0 hz1 hz2 rfl Q.out (bytesOf _) 4 (len_enc _) (bu_k HL.out (by decide)) (.inr ⟨_, Tryz.underlying9, rfl, strCells_bytes _⟩) ?_)); intro v1 w1 hq; have Q := sd hq; clear hq))
       ·go_meet
        case rel => exact ⟨_, _, rfl, Q, ⟨rel_k HT.out H2.out (by decide) (by decide)⟩⟩
       ·go_meet
        case rel => exact ⟨_, _, rfl, Q, ⟨rel_kk (J := 2) (K := 4) HT.out H2.out (by decide) (by decide)⟩⟩
       ·go_meet
        case rel => exact ⟨_, _, rfl, Q, ⟨rel_kk (J := 2) (K := 4) HT.out H2.out (by decide) (by decide)⟩⟩
       ·go_meet
        case rel => exact ⟨_, _, rfl, Q, ⟨rel_kk (J := 2) (K := 4) HT.out H2.out (by decide) (by decide)⟩⟩
       ·go_meet
        case rel => exact ⟨_, _, rfl, Q, ⟨rel_k HT.out (cut_6 H2.out HZ.out) (by decide) (by decide)⟩⟩
       ·go_meet
        case rel => exact ⟨_, _, rfl, Q, ⟨rel_kk (J := 2) (K := 4) HT.out H2.out (by decide) (by decide)⟩⟩
       ·go_meet
        case rel => exact ⟨_, _, rfl, Q, ⟨rel_k HT.out H1.out (by decide) (by decide)⟩⟩
     ·go_wp2_with (first | (at_builtin; refine wpList_append_bu rfl _ _ 40 40 rfl i0 Tryz.underlying40 hi hz0 hz1 hz2 rfl (Q.out.alloc _) [_, _] 2 (Nat.le_refl _) (bu_k HL.out (by decide)) (.inl ⟨⟨_, 0, none⟩, 2, rfl, rfl, new_cell2 _ _ _ _⟩) ?_; intro v1 w1 hq; have Q := sd hq; clear hq))
      go_meet
      case rel => exact ⟨_, _, rfl, Q, ⟨rel_k HT.out H1.out (by decide) (by decide)⟩⟩
    case rest =>
     clear Q H1 p1 p2 p3 p4 p5 HL
     obtain ⟨t2, L2, rfl, Q, HR⟩ := hcut
     have HL := sd (hl_of HS.out HR.out.1)
     go_wp2_with (first | (go_at_call 75; (with_reducible refine (ixc t2 (Nat.lt_trans HL.out.2 (by decide)) 92 _).mono ?_); rintro e0 W ⟨hcs, rfl⟩; rcases hcs with rfl | ⟨n, rfl, hn, f0, f1, f2, f3, f4, f5, f6, f7⟩) | (at_builtin; (first | (refine wpList_append_bu rfl _ _ 40 9 rfl i0 Tryz.underlying40 hi hz0 hz1 hz2 rfl Q.out (bytesOf _) _ (len_cut hn.out) (bu_str HL.out.1 (Nat.lt_trans hn.out HL.out.2)) (.inr ⟨_, Tryz.underlying9, rfl, strCells_bytes _⟩) ?_) | (refine wpList_append_bu rfl _ _ 40 9 rfl i0 Tryz.underlying40 hi hz0 hz1 hz2 rfl Q.out (bytesOf _) _ (Nat.le_of_eq (bytesOf_length _)) (bu_str HL.out.1 HL.out.2) (.inr ⟨_, Tryz.underlying9, rfl, strCells_bytes _⟩) ?_)); intro v1 w1 hq; have Q := sd hq; clear hq) | (go_at_call 31; (with_reducible refine (b2s_bu Q.out).mono ?_); rintro e0 W ⟨⟨r, rfl⟩, hbf⟩; have HF := sd (b2s_fin r hbf); clear hbf))
     ·go_ret
      exact HF.out
     ·go_roundw
      case rel => exact ⟨_, _, rfl, Q, ⟨ue_next HR.out.1 hn.out⟩⟩
      case measure => exact ue_meas HR.out.2 hn.out
   ·obtain ⟨p1, p2⟩ := none_facts hp
    clear hp
    go_wp2_with (first | (go_at_call 31; (with_reducible refine (b2s_bu Q.out).mono ?_); rintro e0 W ⟨⟨r, rfl⟩, hbf⟩; have HF := sd (b2s_fin r hbf); clear hbf))
    go_ret
    exact HF.out
end Go.Proofs.YtaihmpdhaikfkaaGreatDoor.PFnFjFloat
