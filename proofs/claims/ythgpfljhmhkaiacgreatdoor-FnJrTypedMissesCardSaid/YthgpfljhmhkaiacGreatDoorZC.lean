/- Part of the proof that laws.FnJrTypedMisses answers true for every input (the card: text ZF). -/
import Derived.Test.YthgpfljhmhkaiacGreatDoorZU
import Derived.Outline
import Derived.Test.YthgpfljhmhkaiacGreatDoorZS
set_option linter.all false
/- The closure that the search for keys hands to ArrayEach. -/
namespace Go.Proofs.YthgpfljhmhkaiacGreatDoor.PFnJrTypedMisses
open Go.RowKit Go.Proofs.YthgpfljhmhkaiacGreatDoorW.PrintWords Go.Proofs.YthgpfljhmhkaiacGreatDoorW.PrintLast Go.Proofs.YthgpfljhmhkaiacGreatDoorW.PrintMore
/-- The variables that the closure holds: a sought, c passed, V found. -/
structure CB (W : World) (g BD : Nat) (a c i : Int) (V DV : Value) : Prop where
 ba : W.heap[g]? = some (.cells #[.int .i64 a] 3 (0, 0))
 bc : W.heap[g + 1]? = some (.cells #[.int .i64 c] 3 (0, 0))
 bv : W.heap[g + 2]? = some (.cells #[V] 44 (0, 0))
 bo : ∃ o : Int, W.heap[g + 3]? = some (.cells #[.int .i64 o] 3 (0, 0))
 bi : W.heap[g + 4]? = some (.cells #[.int .i64 i] 3 (0, 0))
 bd : W.heap[BD]? = some (.cells #[DV] 44 (0, 0))
 lt : BD < g
abbrev CS (g : Nat) : Nat → Prop := fun k => g + 1 ≤ k ∧ k ≤ g + 3
theorem cb_cells {W : World} {g BD : Nat} {a c i : Int} {V DV : Value} (h : CB W g BD a c i V DV) : W.cell? ⟨g, 0, none⟩ = some (.int .i64 a) ∧ W.cell? ⟨g + 1, 0, none⟩ = some (.int .i64 c) ∧ W.frozen? ⟨g + 1, 0, none⟩ = false ∧ W.cell? ⟨g + 2, 0, none⟩ = some V ∧ W.frozen? ⟨g + 2, 0, none⟩ = false ∧ (∃ o : Int, W.cell? ⟨g + 3, 0, none⟩ = some (.int .i64 o)) ∧ W.frozen? ⟨g + 3, 0, none⟩ = false ∧ W.cell? ⟨g + 4, 0, none⟩ = some (.int .i64 i) ∧ W.cell? ⟨BD, 0, none⟩ = some DV := by
 obtain ⟨o, ho⟩ := h.bo
 exact ⟨(blk_cell h.ba 0).trans rfl, (blk_cell h.bc 0).trans rfl, blk_frozen h.bc 0, (blk_cell h.bv 0).trans rfl, blk_frozen h.bv 0, ⟨o, (blk_cell ho 0).trans rfl⟩, blk_frozen ho 0, (blk_cell h.bi 0).trans rfl, (blk_cell h.bd 0).trans rfl⟩
theorem cb_c {W : World} {g BD : Nat} {a c i : Int} {V DV : Value} (h : CB W g BD a c i V DV) (c' : Int) : CB (W.setCell ⟨g + 1, 0, none⟩ (.int .i64 c')) g BD a c' i V DV :=
 ⟨blk_far h.ba (by show g ≠ g + 1; omega) _, blk_set h.bc 0 _, blk_far h.bv (by show g + 2 ≠ g + 1; omega) _, by obtain ⟨o, ho⟩ := h.bo; exact ⟨o, blk_far ho (by show g + 3 ≠ g + 1; omega) _⟩, blk_far h.bi (by show g + 4 ≠ g + 1; omega) _, blk_far h.bd (by have := h.lt; show BD ≠ g + 1; omega) _, h.lt⟩
theorem cb_v {W : World} {g BD : Nat} {a c i : Int} {V DV : Value} (h : CB W g BD a c i V DV) (V' : Value) : CB (W.setCell ⟨g + 2, 0, none⟩ V') g BD a c i V' DV :=
 ⟨blk_far h.ba (by show g ≠ g + 2; omega) _, blk_far h.bc (by show g + 1 ≠ g + 2; omega) _, blk_set h.bv 0 _, by obtain ⟨o, ho⟩ := h.bo; exact ⟨o, blk_far ho (by show g + 3 ≠ g + 2; omega) _⟩, blk_far h.bi (by show g + 4 ≠ g + 2; omega) _, blk_far h.bd (by have := h.lt; show BD ≠ g + 2; omega) _, h.lt⟩
theorem cb_o {W : World} {g BD : Nat} {a c i : Int} {V DV : Value} (h : CB W g BD a c i V DV) (o' : Int) : CB (W.setCell ⟨g + 3, 0, none⟩ (.int .i64 o')) g BD a c i V DV :=
 ⟨blk_far h.ba (by show g ≠ g + 3; omega) _, blk_far h.bc (by show g + 1 ≠ g + 3; omega) _, blk_far h.bv (by show g + 2 ≠ g + 3; omega) _, by obtain ⟨o, ho⟩ := h.bo; exact ⟨o', blk_set ho 0 _⟩, blk_far h.bi (by show g + 4 ≠ g + 3; omega) _, blk_far h.bd (by have := h.lt; show BD ≠ g + 3; omega) _, h.lt⟩
theorem cb_kept {W W2 : World} {g BD : Nat} {a c i : Int} {V DV : Value} (h : CB W g BD a c i V DV) (hb : Below W.heap.size W W2) : CB W2 g BD a c i V DV :=
 ⟨blk_below h.ba hb, blk_below h.bc hb, blk_below h.bv hb, by obtain ⟨o, ho⟩ := h.bo; exact ⟨o, blk_below ho hb⟩, blk_below h.bi hb, blk_below h.bd hb, h.lt⟩
theorem cs_set {w W : World} {g j : Nat} (h : Kept w W (CS g)) (he : Env w W) (hj : g + 1 ≤ j ∧ j ≤ g + 3) (u : Value) : Kept w (W.setCell ⟨j, 0, none⟩ u) (CS g) ∧ Env w (W.setCell ⟨j, 0, none⟩ u) := ⟨h.setCell (.inl hj) u, he⟩
theorem twice_o {W : World} {g BD : Nat} {a c i : Int} {V DV : Value} (h : CB W g BD a c i V DV) (v : Value) (x y : Int) : (((W.setCell ⟨g + 2, 0, none⟩ v).setCell ⟨g + 3, 0, none⟩ (.int .i64 x)).setCell ⟨g + 3, 0, none⟩ (.int .i64 y)).cell? ⟨g + 3, 0, none⟩ = some (.int .i64 y) := by
 obtain ⟨o, ho⟩ := h.bo
 exact (blk_cell (blk_set (blk_set (blk_far ho (by show g + 3 ≠ g + 2; omega) v) 0 _) 0 _) 0).trans rfl
theorem in1 (g : Nat) : g + 1 ≤ g + 1 ∧ g + 1 ≤ g + 3 := by omega
theorem in2 (g : Nat) : g + 1 ≤ g + 2 ∧ g + 2 ≤ g + 3 := by omega
theorem in3 (g : Nat) : g + 1 ≤ g + 3 ∧ g + 3 ≤ g + 3 := by omega
set_option maxHeartbeats 4000000 in
set_option maxRecDepth 100000 in
theorem cl_skip (g BD : Nat) (a c i : Int) (V DV : Value) (w : World) (h : CB w g BD a c i V DV) (hc : 0 ≤ c ∧ c < 2 ^ 40) (hne : c ≠ a) (tv : Value) (ty off : Int) :
  Calls Tryz.prog 83 #[tv, .int .i64 ty, .int .i64 off, .nilIface, .pointer (some ⟨g + 1, 0, none⟩), .pointer (some ⟨g, 0, none⟩), .pointer (some ⟨g + 2, 0, none⟩), .pointer (some ⟨g + 3, 0, none⟩), .pointer (some ⟨BD, 0, none⟩), .pointer (some ⟨g + 4, 0, none⟩)] w
   fun e w' => e = .returned (.tuple #[]) ∧ CB w' g BD a (c + 1) i V DV ∧ Kept w w' (CS g) ∧ Env w w' := by
 have ⟨h1, h2, f2, h3, f3, h4, f4, h5, h6⟩ := cb_cells h
 have HC := sd h
 have t1 : (c == a) = false := beq_eq_false_iff_ne.mpr hne
 have ⟨w1, w2⟩ := wrap_eq (x := c + 1) (by omega)
 clear h hc hne h3 f3 h4 f4 h5 h6
 go_enter Tryz.func83, Tryz.ntmps83
 go_wp2
 go_end0
 have hk := cs_set (Kept.refl w (CS g)) ⟨rfl, rfl, rfl⟩ (j := g + 1) (by omega) (.int .i64 (c + 1))
 exact ⟨rfl, cb_c HC.out _, hk.1, hk.2⟩
set_option maxHeartbeats 4000000 in
set_option maxRecDepth 100000 in
theorem cl_val (g BD : Nat) (a i : Int) (V DV : Value) (w : World) (h : CB w g BD a a i V DV) (hc : 0 ≤ a ∧ a < 2 ^ 40) (A' : Option Addr) (len c' : Nat) (ty off : Int) (hty : ty ≠ 1) :
  Calls Tryz.prog 83 #[.slice A' len c', .int .i64 ty, .int .i64 off, .nilIface, .pointer (some ⟨g + 1, 0, none⟩), .pointer (some ⟨g, 0, none⟩), .pointer (some ⟨g + 2, 0, none⟩), .pointer (some ⟨g + 3, 0, none⟩), .pointer (some ⟨BD, 0, none⟩), .pointer (some ⟨g + 4, 0, none⟩)] w
   fun e w' => e = .returned (.tuple #[]) ∧ CB w' g BD a (a + 1) i (.slice A' len c') DV ∧ Kept w w' (CS g) ∧ Env w w' := by
 have ⟨h1, h2, f2, h3, f3, ⟨o, h4⟩, f4, h5, h6⟩ := cb_cells h
 have HC := sd h
 have t1 : (ty == 1) = false := beq_eq_false_iff_ne.mpr hty
 have ⟨w1, w2⟩ := wrap_eq (x := a + 1) (by omega)
 clear h hc hty h5 h6
 go_enter Tryz.func83, Tryz.ntmps83
 go_wp2
 go_end0
 have hk1 := cs_set (Kept.refl w (CS g)) ⟨rfl, rfl, rfl⟩ (j := g + 2) (by omega) (.slice A' len c')
 have hk2 := cs_set hk1.1 hk1.2 (j := g + 3) (by omega) (.int .i64 off)
 have hk3 := cs_set hk2.1 hk2.2 (j := g + 1) (by omega) (.int .i64 (a + 1))
 exact ⟨rfl, cb_c (cb_o (cb_v HC.out _) _) _, hk3.1, hk3.2⟩
set_option maxHeartbeats 4000000 in
set_option maxRecDepth 100000 in
theorem cl_str (g BD : Nat) (a : Int) (i b len : Nat) (V : Value) (A1 : Option Addr) (c1 : Nat) (data : List Int) (w : World) (h : CB w g BD a a i V (.slice A1 data.length c1)) (hc : 0 ≤ a ∧ a < 2 ^ 40) (hi : i + b + len + 2 ≤ data.length) (hd : data.length < 2 ^ 38) (hc1 : data.length ≤ c1) (A' : Option Addr) (c' : Nat) :
  Calls Tryz.prog 83 #[.slice A' len c', .int .i64 1, .int .i64 ((b : Int) + 2), .nilIface, .pointer (some ⟨g + 1, 0, none⟩), .pointer (some ⟨g, 0, none⟩), .pointer (some ⟨g + 2, 0, none⟩), .pointer (some ⟨g + 3, 0, none⟩), .pointer (some ⟨BD, 0, none⟩), .pointer (some ⟨g + 4, 0, none⟩)] w
   fun e w' => e = .returned (.tuple #[]) ∧ (∃ A2 c2, (len + 2 ≤ c2) ∧ (∀ W : World, Kd.C (Kd.int .u8) W A1 data.length data → Kd.C (Kd.int .u8) W A2 (len + 2) ((data.take (i + b + len + 2)).drop (i + b))) ∧ CB w' g BD a (a + 1) i (.slice A2 (len + 2) c2) (.slice A1 data.length c1)) ∧ Kept w w' (CS g) ∧ Env w w' := by
 have ⟨h1, h2, f2, h3, f3, ⟨o, h4⟩, f4, h5, h6⟩ := cb_cells h
 have HC := sd h
 obtain ⟨A2, hcut, hA2, hC2⟩ := cut_mid A1 c1 data (i + b) (i + b + len + 2) ((i : Int) + (b : Int)) ((i : Int) + (b : Int) + (len : Int) + 2) (by omega) (by omega) (by omega) hi hc1
 have hlen : ((data.take (i + b + len + 2)).drop (i + b)).length = len + 2 := by rw [List.length_drop, List.length_take]; omega
 rw [hlen] at hcut hA2 hC2
 have HA2 := sd hA2
 have HC2 := sd hC2
 have e1 : (b : Int) + 2 - 2 = (b : Int) := by omega
 have hBD := sd (show BD ≠ g + 2 ∧ BD ≠ g + 3 ∧ BD ≠ g + 1 by have := HC.out.lt; omega)
 have r1 : -1000 ≤ a + 1 ∧ a + 1 < 2 ^ 42 := by omega
 have r3 : -1000 ≤ (b : Int) ∧ (b : Int) < 2 ^ 42 := by omega
 have r5 : -1000 ≤ (i : Int) + (b : Int) ∧ (i : Int) + (b : Int) < 2 ^ 42 := by omega
 have r7 : -1000 ≤ (i : Int) + (b : Int) + (len : Int) ∧ (i : Int) + (b : Int) + (len : Int) < 2 ^ 42 := by omega
 have r9 : -1000 ≤ (i : Int) + (b : Int) + (len : Int) + 2 ∧ (i : Int) + (b : Int) + (len : Int) + 2 < 2 ^ 42 := by omega
 have ⟨w1, w2⟩ := wrap_eq r1
 have ⟨w3, w4⟩ := wrap_eq r3
 have ⟨w5, w6⟩ := wrap_eq r5
 have ⟨w7, w8⟩ := wrap_eq r7
 have ⟨w9, w10⟩ := wrap_eq r9
 have w11 : IntKind.i64.wrap ((b : Int) + 2 - 2) = (b : Int) := by rw [e1]; exact w3
 have w12 : wrap64 ((b : Int) + 2 - 2) = (b : Int) := by rw [e1]; exact w4
 clear h hc hi hd hc1 hA2 hC2 hlen e1
 clear r1 r3 r5 r7 r9
 have q1 := twice_o HC.out (.slice A' len c') ((b : Int) + 2) (b : Int)
 have nb1 : (BD = g + 2) = False := eq_false hBD.out.1
 have nb2 : (BD = g + 3) = False := eq_false hBD.out.2.1
 have nb3 : (g + 2 = BD) = False := eq_false (Ne.symm hBD.out.1)
 have nb4 : (g + 3 = BD) = False := eq_false (Ne.symm hBD.out.2.1)
 go_enter Tryz.func83, Tryz.ntmps83
 go_wp2
 go_end0
 have hk1 := cs_set (Kept.refl w (CS g)) ⟨rfl, rfl, rfl⟩ (j := g + 2) (in2 g) (.slice A' len c')
 have hk2 := cs_set hk1.1 hk1.2 (j := g + 3) (in3 g) (.int .i64 ((b : Int) + 2))
 have hk3 := cs_set hk2.1 hk2.2 (j := g + 3) (in3 g) (.int .i64 (b : Int))
 have hk4 := cs_set hk3.1 hk3.2 (j := g + 2) (in2 g) (.slice A2 (len + 2) (c1 - (i + b)))
 have hk5 := cs_set hk4.1 hk4.2 (j := g + 1) (in1 g) (.int .i64 (a + 1))
 exact ⟨rfl, ⟨A2, _, HC2.out, HA2.out, cb_c (cb_v (cb_o (cb_o (cb_v HC.out _) _) _) _) _⟩, hk5.1, hk5.2⟩
/-- What the closure's variable for the value holds behind m elements. -/
def Found (A1 : Option Addr) (data : List Int) (i : Nat) (els : List (Nat × Nat × Int)) (m : Nat) (a : Int) (V : Value) : Prop :=
 (∀ b e ty, a < m → els[a.toNat]? = some (b, e, ty) → ∃ A2 n2 c2, V = .slice A2 n2 c2 ∧ n2 ≤ c2 ∧ 0 < n2 ∧ n2 = ((data.take (i + e)).drop (i + b)).length ∧ ∀ W : World, Kd.C (Kd.int .u8) W A1 data.length data → Kd.C (Kd.int .u8) W A2 n2 ((data.take (i + e)).drop (i + b))) ∧
 ((m : Int) ≤ a → V = .slice none 0 0)
abbrev clV (g BD : Nat) : Value := .func (.func 83) #[] #[.pointer (some ⟨g + 1, 0, none⟩), .pointer (some ⟨g, 0, none⟩), .pointer (some ⟨g + 2, 0, none⟩), .pointer (some ⟨g + 3, 0, none⟩), .pointer (some ⟨BD, 0, none⟩), .pointer (some ⟨g + 4, 0, none⟩)]
/-- The memory of ArrayEach under way. -/
structure AI (w W : World) (g : Nat) : Prop where
 cfg : W.heap[w.heap.size]? = some (.cells #[.bool false, .bool false, .int .i64 0] 85 (0, 0))
 keep : Kept w W (CS g)
 env : Env w W
theorem ai_below {w W W2 : World} {g : Nat} (h : AI w W g) (hb : Below W.heap.size W W2) : AI w W2 g := ⟨blk_below h.cfg hb, h.keep.below hb, h.env.then_ (Env.of_below hb)⟩
theorem ai_drew {w W : World} {g : Nat} (h : AI w W g) : AI w W.drew g := ⟨h.cfg, h.keep, h.env⟩
theorem cb_drew {W : World} {g BD : Nat} {a c i : Int} {V DV : Value} (h : CB W g BD a c i V DV) : CB W.drew g BD a c i V DV := ⟨h.ba, h.bc, h.bv, h.bo, h.bi, h.bd, h.lt⟩
theorem ai_start (w : World) (g : Nat) : AI w (w.alloc (Obj.cells #[.bool false, .bool false, .int .i64 0] 85)) g := ⟨blk_new w _, (Kept.refl w _).alloc _, ⟨rfl, rfl, rfl⟩⟩
theorem ai_kept {w W W2 : World} {g : Nat} (h : AI w W g) (hg : g + 4 < w.heap.size) (hk : Kept W W2 (CS g)) (he : Env W W2) : AI w W2 g :=
 ⟨blk_kept h.cfg hk (by show ¬ (_ ∧ _); omega), h.keep.then_ hk (fun k hk => .inl hk), h.env.then_ he⟩
theorem ai_cells {w W : World} {g : Nat} (h : AI w W g) : W.cell? ⟨w.heap.size, 0, none⟩ = some (.bool false) ∧ W.cell? ⟨w.heap.size, 1, none⟩ = some (.bool false) ∧ W.cell? ⟨w.heap.size, 2, none⟩ = some (.int .i64 0) :=
 ⟨(blk_cell h.cfg 0).trans rfl, (blk_cell h.cfg 1).trans rfl, (blk_cell h.cfg 2).trans rfl⟩
theorem cellD {W : World} {A : Option Addr} {l : List Int} {cc : Int} (h : Kd.C (Kd.int .u8) W A l.length l) (j : Nat) (hj : j < l.length) (hc : rd l (j : Int) = cc) : ∃ ad, A = some ad ∧ W.cell? (ad.add j) = some (.int .u8 cc) := by
 obtain ⟨ad, e, hx⟩ := Kd.at_int h (j : Int) (by omega) (by omega)
 rw [Int.toNat_natCast, hc] at hx
 exact ⟨ad, e, hx⟩
theorem cellE {W : World} {ad : Addr} {l : List Int} {cc : Int} (h : Kd.C (Kd.int .u8) W (some ad) l.length l) (j : Nat) (hj : j < l.length) (hc : rd l (j : Int) = cc) : W.cell? (ad.add j) = some (.int .u8 cc) := by
 obtain ⟨ad', e, hx⟩ := cellD h j hj hc
 cases e
 exact hx
theorem cellE0 {W : World} {ad : Addr} {l : List Int} {cc : Int} (h : Kd.C (Kd.int .u8) W (some ad) l.length l) (hj : 0 < l.length) (hc : rd l 0 = cc) : W.cell? ad = some (.int .u8 cc) := by
 have := cellE h 0 hj hc
 simpa [Addr.add] using this
theorem cut_cut (data : List Int) (i off n e : Nat) : (((data.drop i).drop off).take e).drop n = (data.take (i + (off + e))).drop (i + (off + n)) := by
 rw [List.drop_drop, List.drop_take, List.drop_drop, List.drop_take, show i + (off + e) - (i + (off + n)) = e - n by omega, show i + off + n = i + (off + n) by omega]
/-- The closure at element m, whatever it is. -/
theorem cl_any (A1 : Option Addr) (c1 : Nat) (data : List Int) (i : Nat) (els : List (Nat × Nat × Int)) (g BD : Nat) (a : Int) (m b e len c' : Nat) (ty x : Int) (V : Value) (A' : Option Addr) (w : World) (hcb : CB w g BD a (m : Int) i V (.slice A1 data.length c1)) (hF : Found A1 data i els m a V) (hm : els[m]? = some (b, e, ty))
  (h1 : ty = 1 → len + 2 + b = e) (h2 : ty ≠ 1 → len + b = e ∧ 0 < len ∧ ∀ W : World, Kd.C (Kd.int .u8) W A1 data.length data → Kd.C (Kd.int .u8) W A' len ((data.take (i + e)).drop (i + b))) (hlen : len ≤ c') (hx : x = (e : Int) - (len : Int)) (he : i + e ≤ data.length) (hd : data.length < 2 ^ 38) (hc1 : data.length ≤ c1) (ha : 0 ≤ a) (hmb : m < 2 ^ 40) :
  Calls Tryz.prog 83 #[.slice A' len c', .int .i64 ty, .int .i64 x, .nilIface, .pointer (some ⟨g + 1, 0, none⟩), .pointer (some ⟨g, 0, none⟩), .pointer (some ⟨g + 2, 0, none⟩), .pointer (some ⟨g + 3, 0, none⟩), .pointer (some ⟨BD, 0, none⟩), .pointer (some ⟨g + 4, 0, none⟩)] w
   fun e w' => e = .returned (.tuple #[]) ∧ (∃ V', CB w' g BD a ((m + 1 : Nat) : Int) i V' (.slice A1 data.length c1) ∧ Found A1 data i els (m + 1) a V') ∧ Kept w w' (CS g) ∧ Env w w' := by
 by_cases hma : (m : Int) = a
 ·subst hma
  by_cases hty : ty = 1
  ·subst hty
   have h1 := h1 rfl
   have ex : x = (b : Int) + 2 := by omega
   subst ex
   have ee : i + e = i + b + len + 2 := by omega
   refine (cl_str g BD (m : Int) i b len V A1 c1 data w hcb ⟨ha, by omega⟩ (by omega) hd hc1 A' c').mono ?_
   rintro e0 w' ⟨he0, ⟨A2, c2, hc2, hrd, hcb'⟩, hk, hv⟩
   refine ⟨he0, ⟨_, hcb', fun b' e' ty' _ hget => ?_, fun h => by omega⟩, hk, hv⟩
   rw [Int.toNat_natCast, hm] at hget
   injection hget with hget
   injection hget with hb' hget
   injection hget with he' _
   subst hb'
   subst he'
   rw [ee]
   exact ⟨A2, len + 2, c2, rfl, hc2, by omega, by rw [List.length_drop, List.length_take]; omega, hrd⟩
  ·obtain ⟨h3, h4, h5⟩ := h2 hty
   refine (cl_val g BD (m : Int) i V _ w hcb ⟨ha, by omega⟩ A' len c' ty x hty).mono ?_
   rintro e0 w' ⟨he0, hcb', hk, hv⟩
   refine ⟨he0, ⟨_, hcb', fun b' e' ty' _ hget => ?_, fun h => by omega⟩, hk, hv⟩
   rw [Int.toNat_natCast, hm] at hget
   injection hget with hget
   injection hget with hb' hget
   injection hget with he' _
   subst hb'
   subst he'
   exact ⟨A', len, c', rfl, hlen, h4, by rw [List.length_drop, List.length_take]; omega, h5⟩
 ·refine (cl_skip g BD a (m : Int) i V _ w hcb (by omega) hma _ ty x).mono ?_
  rintro e0 w' ⟨he0, hcb', hk, hv⟩
  exact ⟨he0, ⟨V, hcb', fun b' e' ty' h hget => hF.1 b' e' ty' (by omega) hget, fun h => hF.2 (by omega)⟩, hk, hv⟩
theorem len_le {A1 : Option Addr} {l : List Int} {n e : Nat} {ty : Int} {A' : Option Addr} {len : Nat} (h : GetV A1 l n e ty A' len) : len ≤ e := by
 by_cases hty : ty = 1
 ·have := h.1 hty; omega
 ·have := (h.2 hty).1; omega
theorem wrap_len {A1 : Option Addr} {l : List Int} {n e off : Nat} {ty : Int} {A' : Option Addr} {len : Nat} (h : GetV A1 l n e ty A' len) (hb : off + e < 2 ^ 38) : IntKind.i64.wrap ((off : Int) + (e : Int) - (len : Int)) = (off : Int) + (e : Int) - (len : Int) ∧ wrap64 ((off : Int) + (e : Int) - (len : Int)) = (off : Int) + (e : Int) - (len : Int) := by
 have := len_le h
 exact wrap_eq (by omega)
/-- A round of ArrayEach: the element, and what stands behind it. -/
structure AR (dat : List Int) (kq off : Nat) (rem : List (Nat × Nat × Int)) (n e : Nat) (ty : Int) (v : Nat) (cc : Int) : Prop where
 le : off ≤ dat.length
 get : GetE (dat.drop off) n e ty
 nxt : ∃ k, jsonparser_nextTokenConfig.f k false false 0 (dat.drop (off + e)) = some (v : Int)
 lt : off + e + v < dat.length
 rdc : rd dat ((off + e + v : Nat) : Int) = cc
 case : (cc = 93 ∧ rem = [(off + n, off + e, ty)]) ∨ (cc = 44 ∧ ∃ m rem', kq = m + 1 ∧ rem = (off + n, off + e, ty) :: rem' ∧ Ael dat m (off + e + v + 1) rem')
theorem ar_of {dat : List Int} {kq off : Nat} {rem : List (Nat × Nat × Int)} (h : Ael dat kq off rem) : ∃ n e ty v cc, AR dat kq off rem n e ty v cc := by
 cases h with
 | last _ _ n e ty k v h1 h2 h3 h4 h5 => exact ⟨n, e, ty, v, 93, h1, h2, ⟨k, h3⟩, h4, h5, .inl ⟨rfl, rfl⟩⟩
 | more m _ n e ty k v els h1 h2 h3 h4 h5 h6 => exact ⟨n, e, ty, v, 44, h1, h2, ⟨k, h3⟩, h4, h5, .inr ⟨rfl, m, els, rfl, rfl, h6⟩⟩
theorem ar_facts {dat : List Int} {off e v : Nat} (h : off + e + v < dat.length) (hd : dat.length < 2 ^ 38) (he : 0 < e) :
  (IntKind.i64.wrap ((off : Int) + (e : Int)) = (off : Int) + (e : Int) ∧ wrap64 ((off : Int) + (e : Int)) = (off : Int) + (e : Int)) ∧ (IntKind.i64.wrap ((off : Int) + (e : Int) + (v : Int)) = (off : Int) + (e : Int) + (v : Int) ∧ wrap64 ((off : Int) + (e : Int) + (v : Int)) = (off : Int) + (e : Int) + (v : Int)) ∧
  (IntKind.i64.wrap ((off : Int) + (e : Int) + (v : Int) + 1) = (off : Int) + (e : Int) + (v : Int) + 1 ∧ wrap64 ((off : Int) + (e : Int) + (v : Int) + 1) = (off : Int) + (e : Int) + (v : Int) + 1) ∧ (((e : Int) == 0) = false) ∧ (((v : Int) == -1) = false) ∧ ((0 ≤ (off : Int) + (e : Int) + (v : Int)) = True) ∧ (((off : Int) + (e : Int) + (v : Int) < (dat.length : Int)) = True) ∧ ((off : Int) + (e : Int) + (v : Int)).toNat = off + e + v :=
 ⟨wrap_eq (by omega), wrap_eq (by omega), wrap_eq (by omega), beq_eq_false_iff_ne.mpr (by omega), beq_eq_false_iff_ne.mpr (by omega), eq_true (by omega), eq_true (by omega), by omega⟩
/-- What the closure asks of an element. -/
theorem elem_facts {A1 A2 A5 A' : Option Addr} {data dat : List Int} {i kq off n e len v : Nat} {ty cc : Int} {els dn rem : List (Nat × Nat × Int)} (har : AR dat kq off rem n e ty v cc) (hE : dn ++ rem = els) (hl : dn.length ≤ off) (hv : GetV A5 (dat.drop off) n e ty A' len) (hdat : data.drop i = dat) (hi : i ≤ data.length) (hd : data.length < 2 ^ 38)
  (hA2 : ∀ W : World, Kd.C (Kd.int .u8) W A1 data.length data → Kd.C (Kd.int .u8) W A2 dat.length dat) (hA5 : ∀ W : World, Kd.C (Kd.int .u8) W A2 dat.length dat → Kd.C (Kd.int .u8) W A5 (dat.drop off).length (dat.drop off)) :
  els[dn.length]? = some (off + n, off + e, ty) ∧ (ty = 1 → len + 2 + (off + n) = off + e) ∧ (ty ≠ 1 → len + (off + n) = off + e ∧ 0 < len ∧ ∀ W : World, Kd.C (Kd.int .u8) W A1 data.length data → Kd.C (Kd.int .u8) W A' len ((data.take (i + (off + e))).drop (i + (off + n)))) ∧ i + (off + e) ≤ data.length ∧ dn.length < 2 ^ 40 ∧ (off : Int) + (e : Int) - (len : Int) = ((off + e : Nat) : Int) - (len : Int) := by
 have hlen : dat.length = data.length - i := by rw [← hdat, List.length_drop]
 have hlt := har.lt
 have hne := har.get.2.1
 refine ⟨?_, fun h => by have := hv.1 h; omega, fun h => ?_, by omega, by omega, by omega⟩
 ·rw [← hE, List.getElem?_append_right (Nat.le_refl _), Nat.sub_self]
  rcases har.case with ⟨_, h⟩ | ⟨_, m, rem', _, h, _⟩
  ·rw [h]; rfl
  ·rw [h]; rfl
 ·obtain ⟨h1, h2⟩ := hv.2 h
  refine ⟨by omega, by omega, fun W hW => ?_⟩
  have := h2 W (hA5 W (hA2 W hW))
  rw [← hdat, cut_cut] at this
  exact this
theorem ae_kq {k m : Nat} (h : k = m + 1) : m < k := by omega
theorem ae_dn {d off e v : Nat} (h : d ≤ off) : d + 1 ≤ off + e + v + 1 := by omega
theorem ae_le {dat : List Int} {off e v : Nat} (h : off + e + v < dat.length) : off + e ≤ dat.length := by omega
theorem ae_lt {dat : List Int} {off e v : Nat} (h : off + e + v < dat.length) (hd : dat.length < 2 ^ 38) : off + e < 2 ^ 38 := by omega
theorem drop_lt40 {dat : List Int} (hd : dat.length < 2 ^ 38) (off : Nat) : (dat.drop off).length < 2 ^ 40 := by rw [List.length_drop]; omega
set_option maxHeartbeats 8000000 in
set_option maxRecDepth 100000 in
theorem ae_calls (A1 : Option Addr) (c1 : Nat) (data : List Int) (i : Nat) (A2 : Option Addr) (c2 : Nat) (els : List (Nat × Nat × Int)) (g BD : Nat) (a : Int) (w : World) (hels : AelT (data.drop i) els) (hd : data.length < 2 ^ 38) (hc1 : data.length ≤ c1) (hi : i ≤ data.length) (hc2 : (data.drop i).length ≤ c2)
  (hA2 : ∀ W : World, Kd.C (Kd.int .u8) W A1 data.length data → Kd.C (Kd.int .u8) W A2 (data.drop i).length (data.drop i)) (hread : ∀ W : World, Kept w W (CS g) → Kd.C (Kd.int .u8) W A1 data.length data)
  (ha : 0 ≤ a) (hcb : CB w g BD a 0 i (.slice none 0 0) (.slice A1 data.length c1)) (hg : g + 4 < w.heap.size) :
  Calls Tryz.prog 43 #[.agg #[.bool false, .bool false, .int .i64 0], .slice A2 (data.drop i).length c2, clV g BD, .slice none 0 0] w
   fun e w' => (∃ off : Int, e = .returned (.tuple #[.int .i64 off, .nilIface])) ∧ (∃ V, CB w' g BD a els.length i V (.slice A1 data.length c1) ∧ Found A1 data i els els.length a V) ∧ Kept w w' (CS g) ∧ Env w w' := by
 have hu85 := Tryz.underlying85
 have hu44 := Tryz.underlying44
 have hdl : (data.drop i).length = data.length - i := List.length_drop
 have hdd : ∀ off : Nat, ((data.drop i).drop off).length = (data.drop i).length - off := fun off => List.length_drop
 have hcc := fun off n e => cut_cut data i off n e
 generalize hdat : data.drop i = dat at *
 have HA2o := sd hA2
 have HRD := sd (fun (W : World) (hk : Kept w W (CS g)) => hA2 W (hread W hk))
 have HC2 := sd hc2
 have HD := sd (show dat.length < 2 ^ 38 by omega)
 obtain ⟨k0, v, hv91, hvn, hvl, hfin⟩ : ∃ k v, rd dat 0 = 91 ∧ jsonparser_nextTokenConfig.f k false false 0 (dat.drop 1) = some ((v : Nat) : Int) ∧ 1 + v < dat.length ∧ ((rd dat ((1 + v : Nat) : Int) = 93 ∧ els = []) ∨ (rd dat ((1 + v : Nat) : Int) ≠ 93 ∧ ∃ m, Ael dat m (1 + v) els)) := by
  cases hels with
  | none k v h1 h2 h3 h4 => exact ⟨k, v, h1, h2, h3, .inl ⟨h4, rfl⟩⟩
  | some k v m _ h1 h2 h3 h4 h5 => exact ⟨k, v, h1, h2, h3, .inr ⟨h4, m, h5⟩⟩
 have hnt : jsonparser_nextTokenConfig.f 1 false false 0 dat = some 0 := by
  have e0 : dat = [] ++ 91 :: dat.drop 1 := by
   have hp : 0 < dat.length := by omega
   have e1 := List.drop_eq_getElem_cons hp
   rw [List.drop_zero] at e1
   have e2 : dat[0] = 91 := by
    have : rd dat 0 = dat[0] := by simp [rd, List.getD_eq_getElem?_getD, List.getElem?_eq_getElem hp]
    rw [← this]; exact hv91
   rw [e2] at e1
   exact e1
  have := next_f [] 91 (dat.drop 1) (by rw [← e0]; exact HD.out) (fun c hc => by cases hc) (by unfold Blk; omega) 1 (by simp)
  rw [← e0] at this
  exact this
 have HNT := sd hnt
 have H91 := sd (show 0 < dat.length ∧ rd dat 0 = 91 from ⟨by omega, hv91⟩)
 have HVN := sd hvn
 obtain ⟨ad, eA, hb0⟩ := cellD (HRD.out _ (Kept.refl w _)) 0 (by omega) hv91
 subst eA
 obtain ⟨A3, hcut3, hA3, hC3⟩ := cut_drop (some ad) c2 dat 1 1 rfl (by omega) hc2
 have HA3 := sd (fun (W : World) (hk : Kept w W (CS g)) => hA3 W (HRD.out W hk))
 have HC3 := sd hC3
 have HCB := sd hcb
 have HG := sd hg
 have HAA := sd ha
 have HFIN := sd hfin
 have HDI := sd (And.intro hd (And.intro hc1 (And.intro hi (And.intro hdl hdat))))
 have HDD := sd hdd
 have HCC := sd hcc
 have HRR := sd hread
 have t1 : ((dat.length : Int) == 0) = false := beq_eq_false_iff_ne.mpr (by omega)
 have q0 : ((0 : Int) < (dat.length : Int)) = True := eq_true (by omega)
 have q0' : (0 < dat.length) = True := eq_true (by omega)
 have q1 : ((1 : Int) + (v : Int) < (dat.length : Int)) = True := eq_true (by omega)
 have q1' : ((0 : Int) ≤ 1 + (v : Int)) = True := eq_true (by omega)
 have t2 : ((v : Int) == -1) = false := beq_eq_false_iff_ne.mpr (by omega)
 have hN : ((1 : Int) + (v : Int)).toNat = 1 + v := by omega
 have hlt : ad.block < w.heap.size := World.block_lt_of_cell? w _ hb0
 have r1 : -1000 ≤ (1 : Int) + (v : Int) ∧ (1 : Int) + (v : Int) < 2 ^ 42 := by omega
 have HVL := sd hvl
 have ⟨z1, z2⟩ := wrap_eq r1
 clear HDD
 generalize hd1 : dat.drop 1 = d1 at *
 clear r1 hels hd hc1 hi hc2 hA2 hread ha hcb hg hv91 hvn hvl hfin hnt hA3 hC3 hdl hdd hcc hdat hd1
 go_enter Tryz.func43, Tryz.ntmps43
 go_wp2_with (first | (go_at_call 59; (with_reducible refine (jsonparser_nextTokenConfig.calls 1 false false 0 _ _ dat 0 _ ?s1 HC2.out HNT.out).mono ?_); (case s1 => exact HRD.out _ (ai_start w g).keep); rintro e0 w2 ⟨rfl, hb⟩; have HI2 := sd (ai_below (ai_start w g) hb); have HCB2 := sd (cb_kept (cb_kept HCB.out (below_alloc (Below.refl _ _) _)) hb); have hb2 := cellE0 (HRD.out _ HI2.out.keep) H91.out.1 H91.out.2; have ⟨gc0, gc1, gc2⟩ := ai_cells HI2.out; clear hb))
 go_region_held3 (fun w' => w'.cell? ⟨w.heap.size, 0, none⟩ = some (.bool false) ∧ w'.cell? ⟨w.heap.size, 1, none⟩ = some (.bool false) ∧ w'.cell? ⟨w.heap.size, 2, none⟩ = some (.int .i64 0))
  (first | go_keep | exact ai_cells HI2.out | exact ai_cells HI3.out)
  ((go_at_call 59; (with_reducible refine (jsonparser_nextTokenConfig.calls k0 false false 0 _ _ d1 (v : Int) _ ?s3 HC3.out HVN.out).mono ?_); (case s3 => exact HA3.out _ (ai_drew HI2.out).keep); rintro e0 w3 ⟨rfl, hb⟩; have HI3 := sd (ai_below (ai_drew HI2.out) hb); have HCB3 := sd (cb_kept (cb_drew HCB2.out) hb); clear hb))
 clear hb0 hb2 gc0 gc1 gc2 hcut3 HA3 HC3 HVN HNT t1
 rcases HFIN.out with ⟨h93, rfl⟩ | ⟨h93, m, hael⟩
 ·have hb4 := cellE (HRD.out _ HI3.out.keep) (1 + v) HVL.out h93
  clear h93
  go_wp2
  go_ret2
  exact ⟨⟨_, rfl⟩, ⟨_, HCB3.out, ⟨fun b e ty h => absurd h (by simp; exact HAA.out), fun _ => rfl⟩⟩, HI3.out.keep, HI3.out.env⟩
 ·obtain ⟨cc, hcc, h93⟩ : ∃ cc, rd dat ((1 + v : Nat) : Int) = cc ∧ cc ≠ 93 := ⟨_, rfl, h93⟩
  have hb4 := cellE (HRD.out _ HI3.out.keep) (1 + v) HVL.out hcc
  have t5 : (cc == 93) = false := beq_eq_false_iff_ne.mpr h93
  have HEL := sd hael
  clear hcc h93 hael
  go_wp2
  clear hb4 t5 q0 q0' q1 q1' t2 hN z1 z2
  go_loopg [8] m (fun kq v8 w' => ∃ (off : Nat) (dn rem : List (Nat × Nat × Int)) (V : Value), v8 = .int .i64 off ∧ Aside0 (Ael dat kq off rem ∧ dn ++ rem = els ∧ dn.length ≤ off) ∧ Aside0 (CB w' g BD a (dn.length : Int) i V (.slice A1 data.length c1)) ∧ Aside0 (Found A1 data i els dn.length a V) ∧ Aside0 (AI w w' g))
  case atStart => exact ⟨1 + v, [], els, .slice none 0 0, by go_num, ⟨HEL.out, rfl, Nat.zero_le _⟩, HCB3, ⟨⟨fun b e ty h => absurd h (by have := HAA.out; simp; exact this), fun _ => rfl⟩⟩, HI3⟩
  case round =>
   clear HEL HCB3 HI3 HCB2 HI2 HFIN HVL H91 HCB
   obtain ⟨off, dn, rem, V, rfl, HE, HCB, HF, HI⟩ := hrel
   obtain ⟨n, e, ty, vv, cc2, har⟩ := ar_of HE.out.1
   have he0 : 0 < e := by have := har.get.2.1; omega
   obtain ⟨⟨z1, z2⟩, ⟨z3, z4⟩, ⟨z5, z6⟩, t6, t7, p2, q2, hN⟩ := ar_facts har.lt HD.out he0
   obtain ⟨A5, hcut5, hA5, hC5⟩ := cut_drop (some ad) c2 dat off (off : Int) rfl har.le HC2.out
   obtain ⟨A6, hcut6, hA6, hC6⟩ := cut_drop (some ad) c2 dat (off + e) ((off : Int) + (e : Int)) rfl (ae_le har.lt) HC2.out
   obtain ⟨kk, hnx⟩ := har.nxt
   have HA5 := sd hA5
   have HC5 := sd hC5
   have HA6 := sd hA6
   have HC6 := sd hC6
   have HNX := sd hnx
   have HAR := sd har
   have HDL := sd (drop_lt40 HD.out off)
   have HGET := sd har.get
   have ⟨gc0, gc1, gc2⟩ := ai_cells HI.out
   clear he0 hA5 hC5 hA6 hC6 hnx har
   generalize hq5 : dat.drop off = q5 at *
   generalize hq6 : dat.drop (off + e) = q6 at *
   go_wp2
   go_region_held3 (fun w' => w'.cell? ⟨w.heap.size, 0, none⟩ = some (.bool false) ∧ w'.cell? ⟨w.heap.size, 1, none⟩ = some (.bool false) ∧ w'.cell? ⟨w.heap.size, 2, none⟩ = some (.int .i64 0))
    (first | go_keep | exact ai_cells HI.out | exact ai_cells HI5.out)
    ((go_at_call 61; (with_reducible refine (get_calls A5 (c2 - off) q5 n e ty _ ?s5 HC5.out HDL.out HGET.out).mono ?_); (case s5 => exact HA5.out _ (HRD.out _ (ai_drew HI.out).keep)); rintro e0 w5 ⟨⟨A', len, rfl, hv⟩, hb⟩; have HV := sd hv; have HI5 := sd (ai_below (ai_drew HI.out) hb); have HCB5 := sd (cb_kept (cb_drew HCB.out) hb); have ⟨y1, y2⟩ := wrap_len hv (ae_lt HAR.out.lt HD.out); clear hv hb))
   go_wp2_with fail
   subst hq5
   obtain ⟨hm, h1, h2, h3, h4, h5⟩ := elem_facts HAR.out HE.out.2.1 HE.out.2.2 HV.out HDI.out.2.2.2.2 HDI.out.2.2.1 HDI.out.1 HA2o.out HA5.out
   refine (cl_any A1 c1 data i els g BD a dn.length (off + n) (off + e) len len ty _ V A' _ HCB5.out HF.out hm h1 h2 (Nat.le_refl _) h5 h3 HDI.out.1 HDI.out.2.1 HAA.out h4).mono ?_
   rintro e0 w6 ⟨rfl, ⟨V', hcb6, hF6⟩, hk6, he6⟩
   have HCB6 := sd hcb6
   have HF6 := sd hF6
   have HI6 := sd (ai_kept HI5.out HG.out hk6 he6)
   have ⟨fc0, fc1, fc2⟩ := ai_cells HI6.out
   clear hm h1 h2 h3 h4 h5 hcb6 hF6 hk6 he6 HV HCB5 HCB HF gc0 gc1 gc2
   go_wp2
   go_region_held3 (fun w' => w'.cell? ⟨w.heap.size, 0, none⟩ = some (.bool false) ∧ w'.cell? ⟨w.heap.size, 1, none⟩ = some (.bool false) ∧ w'.cell? ⟨w.heap.size, 2, none⟩ = some (.int .i64 0))
    (first | go_keep | exact ai_cells HI6.out | exact ai_cells HI7.out)
    ((go_at_call 59; (with_reducible refine (jsonparser_nextTokenConfig.calls kk false false 0 _ _ q6 (vv : Int) _ ?s6 HC6.out HNX.out).mono ?_); (case s6 => exact HA6.out _ (HRD.out _ (ai_drew HI6.out).keep)); rintro e0 w7 ⟨rfl, hb⟩; have HI7 := sd (ai_below (ai_drew HI6.out) hb); have HCB7 := sd (cb_kept (cb_drew HCB6.out) hb); have hb7 := cellE (HRD.out _ HI7.out.keep) (off + e + vv) HAR.out.lt HAR.out.rdc; clear hb))
   rcases HAR.out.case with ⟨rfl, hrem⟩ | ⟨rfl, m', rem', hkq, hrem, hael⟩
   ·have HEND := sd (show els.length = dn.length + 1 by rw [← HE.out.2.1, hrem, List.length_append]; rfl)
    clear hrem
    go_wp2
    go_ret2
    refine ⟨⟨_, rfl⟩, ⟨V', ?_, ?_⟩, HI7.out.keep, HI7.out.env⟩
    ·rw [HEND.out]; exact HCB7.out
    ·rw [HEND.out]; exact HF6.out
   ·have HEL := sd hael
    have HKQ := sd hkq
    have HREM := sd (show (dn ++ [(off + n, off + e, ty)]) ++ rem' = els ∧ (dn ++ [(off + n, off + e, ty)]).length = dn.length + 1 by rw [← HE.out.2.1, hrem]; simp)
    clear hrem hkq hael
    go_wp2
    go_roundg m'
    case measure => exact ae_kq HKQ.out
    case rel => exact ⟨off + e + vv + 1, dn ++ [(off + n, off + e, ty)], rem', V', by go_num, ⟨HEL.out, HREM.out.1, by rw [HREM.out.2]; exact ae_dn HE.out.2.2⟩, ⟨by rw [HREM.out.2]; exact HCB7.out⟩, ⟨by rw [HREM.out.2]; exact HF6.out⟩, HI7⟩
theorem digit_of {c : Int} (h : 48 ≤ c ∧ c ≤ 57) : Lib.digitVal (UInt8.ofNat c.toNat) = some (c.toNat - 48) := by
 obtain ⟨n, rfl⟩ := Int.eq_ofNat_of_zero_le (show 0 ≤ c by omega)
 have h1 : 48 ≤ n := by omega
 have h2 : n ≤ 57 := by omega
 have : n = 48 ∨ n = 49 ∨ n = 50 ∨ n = 51 ∨ n = 52 ∨ n = 53 ∨ n = 54 ∨ n = 55 ∨ n = 56 ∨ n = 57 := by omega
 rcases this with rfl | rfl | rfl | rfl | rfl | rfl | rfl | rfl | rfl | rfl <;> rfl
theorem decFrom_of : ∀ (d : List Int) (v : Nat), (∀ c ∈ d, 48 ≤ c ∧ c ≤ 57) → ∃ m : Nat, Lib.decFrom v (d.map fun n => UInt8.ofNat n.toNat) = some m ∧ (m : Int) = d.foldl (fun v c => v * 10 + (c - 48)) (v : Int)
 | [], v, _ => ⟨v, rfl, rfl⟩
 | c :: d, v, h => by
  have hc := h c List.mem_cons_self
  obtain ⟨m, h1, h2⟩ := decFrom_of d (v * 10 + (c.toNat - 48)) (fun x hx => h x (List.mem_cons_of_mem _ hx))
  refine ⟨m, ?_, ?_⟩
  ·simp only [List.map_cons, Lib.decFrom, digit_of hc]
   exact h1
  ·rw [h2, List.foldl_cons]
   congr 1
   omega
theorem atoi_of (d : List Int) (hne : d ≠ []) (h : ∀ c ∈ d, 48 ≤ c ∧ c ≤ 57) : Lib.atoi (d.map fun n => UInt8.ofNat n.toNat) = some (decV d) ∧ 0 ≤ decV d := by
 obtain ⟨m, h1, h2⟩ := decFrom_of d 0 h
 have h3 : decV d = (m : Int) := h2.symm
 rw [h3]
 refine ⟨?_, by omega⟩
 cases d with
 | nil => exact absurd rfl hne
 | cons c r =>
  have hc := h c List.mem_cons_self
  obtain ⟨n, rfl⟩ := Int.eq_ofNat_of_zero_le (show 0 ≤ c by omega)
  have h45 : (UInt8.ofNat n == 45) = false := by
   have : n = 48 ∨ n = 49 ∨ n = 50 ∨ n = 51 ∨ n = 52 ∨ n = 53 ∨ n = 54 ∨ n = 55 ∨ n = 56 ∨ n = 57 := by omega
   rcases this with rfl | rfl | rfl | rfl | rfl | rfl | rfl | rfl | rfl | rfl <;> rfl
  have h43 : (UInt8.ofNat n == 43) = false := by
   have : n = 48 ∨ n = 49 ∨ n = 50 ∨ n = 51 ∨ n = 52 ∨ n = 53 ∨ n = 54 ∨ n = 55 ∨ n = 56 ∨ n = 57 := by omega
   rcases this with rfl | rfl | rfl | rfl | rfl | rfl | rfl | rfl | rfl | rfl <;> rfl
  simp only [List.map_cons, Int.toNat_natCast] at h1 ⊢
  simp only [Lib.atoi, h45, h43, Bool.false_eq_true, if_false, Lib.decNat, List.isEmpty_cons]
  rw [h1]; rfl
theorem atoi_calls (s : ByteArray) (n : Int) (hl : s.size ≤ 18) (h : Lib.atoi s.data.toList = some n) (w : World) : Calls Tryz.prog 82 #[.string s] w fun e w' => e = .returned (.tuple #[.int .i64 n, .nilIface]) ∧ Below w.heap.size w w' := by
 refine Calls.mono (Any.strconv_Atoi Tryz.lays172 s n hl h w) ?_
 rintro e w' ⟨he, t, rfl⟩
 exact ⟨he, bytes_below (Below.refl _ _) (Nat.le_refl _) _ _⟩
theorem dec_lt : ∀ (d : List Int) (v : Int), (∀ c ∈ d, 48 ≤ c ∧ c ≤ 57) → 0 ≤ v → d.foldl (fun v c => v * 10 + (c - 48)) v + 1 ≤ (v + 1) * 10 ^ d.length
 | [], v, _, _ => by simp
 | c :: d, v, h, hv => by
  have hc := h c List.mem_cons_self
  have ih := dec_lt d (v * 10 + (c - 48)) (fun x hx => h x (List.mem_cons_of_mem _ hx)) (by omega)
  rw [List.foldl_cons, List.length_cons, Int.pow_succ]
  refine Int.le_trans ih ?_
  have hp : (0 : Int) ≤ 10 ^ d.length := Int.le_of_lt (Int.pow_pos (by decide))
  have := Int.mul_le_mul_of_nonneg_right (show v * 10 + (c - 48) + 1 ≤ (v + 1) * 10 by omega) hp
  rwa [Int.mul_assoc, Int.mul_comm 10] at this
theorem dec_range {key : ByteArray} {d : List Int} (h : BrK key d) : 0 ≤ decV d ∧ decV d < 1000000000000000000 := by
 obtain ⟨_, hne, hd, hl⟩ := h
 refine ⟨(atoi_of d hne hd).2, ?_⟩
 have h1 := dec_lt d 0 hd (by omega)
 have h10 : 10 ^ d.length ≤ 10 ^ 18 := Nat.pow_le_pow_right (by decide) hl
 have h11 : ((10 ^ d.length : Nat) : Int) ≤ ((10 ^ 18 : Nat) : Int) := Int.ofNat_le.mpr h10
 rw [Int.natCast_pow] at h11
 rw [Int.zero_add, Int.one_mul] at h1
 have h2 : decV d + 1 ≤ (10 : Int) ^ d.length := h1
 have h3 : (10 : Int) ^ d.length ≤ 1000000000000000000 := h11
 omega
/-- What the search finds in a key '[d]', ji its last place. -/
theorem key_facts {key : ByteArray} {d : List Int} (h : BrK key d) : ∃ ji : Int, IntKind.i64.wrap ((key.size : Int) - 1) = ji ∧ wrap64 ((key.size : Int) - 1) = ji ∧ ((0 : Int) ≤ ji) = True ∧ (ji < (key.size : Int)) = True ∧ ((1 : Int) ≤ ji) = True ∧ (ji ≤ (key.size : Int)) = True ∧ (ji.toNat < key.size) = True ∧
  (∀ h : 0 < key.size, ((key[0]'h).toNat : Int) = 91) ∧ (∀ h : ji.toNat < key.size, ((key[ji.toNat]'h).toNat : Int) = 93) ∧
  (key.extract 1 ji.toNat).size ≤ 18 ∧ Lib.atoi (key.extract 1 ji.toNat).data.toList = some (decV d) ∧ (0 < key.size) = True ∧ ((0 : Int) < (key.size : Int)) = True ∧ decide (key.size < 3) = false ∧ decide ((key.size : Int) < 3) = false ∧ decide (0 < key.size) = true ∧ decide ((0 : Int) < (key.size : Int)) = true := by
 obtain ⟨hb, hne, hd, hl⟩ := h
 have hs : key.size = d.length + 2 := by rw [← bytesOf_length, hb]; simp
 have hp : 0 < d.length := List.length_pos_iff.mpr hne
 have e0 : bt key 0 = 91 := by rw [← rd_bytesOf, hb]; rfl
 have hj : ((key.size : Int) - 1).toNat = d.length + 1 := by omega
 have e1 : bt key ((key.size : Int) - 1) = 93 := by
  rw [← rd_bytesOf, hb]
  unfold rd
  rw [hj, List.getD_eq_getElem?_getD]
  simp
 have hx : bytesOf (key.extract 1 ((key.size : Int) - 1).toNat) = d := by
  rw [hj]
  unfold bytesOf at hb ⊢
  rw [ByteArray.data_extract, Array.toList_extract, List.extract_eq_take_drop, List.map_take, List.map_drop, hb]
  simp
 have hxs : (key.extract 1 ((key.size : Int) - 1).toNat).size = d.length := by rw [← bytesOf_length, hx]
 have hat : Lib.atoi (key.extract 1 ((key.size : Int) - 1).toNat).data.toList = some (decV d) := by
  have h1 := (atoi_of d hne hd).1
  rw [← hx] at h1
  unfold bytesOf at h1
  rw [List.map_map] at h1
  have h2 : ((fun n : Int => UInt8.ofNat n.toNat) ∘ fun b : UInt8 => (b.toNat : Int)) = id := by
   funext b
   simp
  rw [h2, List.map_id] at h1
  rw [h1]
  congr 1
  have h3 : (key.extract 1 ((key.size : Int) - 1).toNat).data.toList.map (fun b : UInt8 => (b.toNat : Int)) = d := hx
  rw [h3]
 obtain ⟨w1, w2⟩ := wrap_eq (x := (key.size : Int) - 1) (by omega)
 refine ⟨(key.size : Int) - 1, w1, w2, eq_true (by omega), eq_true (by omega), eq_true (by omega), eq_true (by omega), eq_true (by omega), ?_, ?_, by omega, hat, eq_true (by omega), eq_true (by omega), decide_eq_false (by omega), decide_eq_false (by omega), decide_eq_true (by omega), decide_eq_true (by omega)⟩
 ·intro h
  rw [← e0]
  exact bt_at key 0 h
 ·intro h
  rw [← e1]
  exact bt_at key _ h
end Go.Proofs.YthgpfljhmhkaiacGreatDoor.PFnJrTypedMisses
