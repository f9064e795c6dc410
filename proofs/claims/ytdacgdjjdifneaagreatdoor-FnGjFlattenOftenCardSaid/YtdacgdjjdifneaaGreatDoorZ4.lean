/- Part of the proof of the card in text ZF. -/
import Derived.Test.YtdacgdjjdifneaaGreatDoorZO
import Derived.Outline
import Derived.Test.YtdacgdjjdifneaaGreatDoorZE
import Derived.Test.YtdacgdjjdifneaaGreatDoorZS
import Derived.Deep.CutBlock
set_option linter.all false
set_option maxHeartbeats 16000000
set_option maxRecDepth 100000
namespace Go.Proofs.YtdacgdjjdifneaaGreatDoor.PFnGjFlattenOften
open Go.RowKit Go.Proofs.YtdacgdjjdifneaaGreatDoorW.PrintWords Go.Proofs.YtdacgdjjdifneaaGreatDoorW.PrintLast Go.Proofs.YtdacgdjjdifneaaGreatDoorW.PrintMore
theorem BR.set {w : World} {base g cap j : Nat} {v : Value} {xs : List Int} (h : BR w base v xs g cap) (hj : j < xs.length) (x : Int) : BR (w.setCell ⟨g, j, none⟩ (.int .u8 x)) base v (xs.set j x) g cap := by
 refine ⟨by rw [List.length_set]; exact h.val, h.ge, by rw [World.size_setCell]; exact h.lt, by rw [List.length_set]; exact h.le, h.max, fun k hk => ?_, fun k u hu => ?_⟩
 ·obtain ⟨h1, h2⟩ := h.there k hk; refine ⟨?_, by rw [World.frozen?_setCell]; exact h2⟩; obtain ⟨u, hu⟩ := Option.isSome_iff_exists.1 h1; obtain ⟨u2, hu2⟩ := cell?_setCell_some (p := ⟨g, j, none⟩) (x := .int .u8 x) hu; rw [hu2]; rfl
 ·by_cases e : k = j
  ·subst e; obtain ⟨u0, hu0⟩ := Option.isSome_iff_exists.1 (h.there k (Nat.lt_of_lt_of_le hj h.le)).1; rw [World.cell?_setCell_same _ _ _ hu0, ← hu]; simp [byteCells, hj]
  ·rw [World.cell?_setCell_other _ _ _ _ (fun e2 => e (by injection e2 with _ e3 _; exact e3.symm))]; refine h.cell k u ?_; rw [← hu]; simp [byteCells, Ne.symm e]
theorem bset0 {n : Nat} {w W : World} (h : Below n w W) (b o : Nat) (hb : n ≤ b) (u : Value) : Below n w (W.setCell ⟨b, o, none⟩ u) := h.setCell (p := ⟨b, o, none⟩) hb u
inductive EW (w : World) (g o : Nat) : World → Prop
 | refl : EW w g o w
 | set {W : World} (k : Nat) (x : Int) : k < 8 → EW w g o W → EW w g o (W.setCell ⟨g, o + k, none⟩ (.int .u8 x))
theorem ew1 (w : World) (g o : Nat) (a : Int) : EW w g o (w.setCell ⟨g, o, none⟩ (.int .u8 a)) := .set 0 _ (by decide) .refl
theorem ew2 (w : World) (g o : Nat) (a b : Int) : EW w g o ((w.setCell ⟨g, o, none⟩ (.int .u8 a)).setCell ⟨g, o + 1, none⟩ (.int .u8 b)) := .set 1 _ (by decide) (ew1 w g o a)
theorem ew3 (w : World) (g o : Nat) (a b c : Int) : EW w g o (((w.setCell ⟨g, o, none⟩ (.int .u8 a)).setCell ⟨g, o + 1, none⟩ (.int .u8 b)).setCell ⟨g, o + 2, none⟩ (.int .u8 c)) := .set 2 _ (by decide) (ew2 w g o a b)
theorem ew4 (w : World) (g o : Nat) (a b c d : Int) : EW w g o ((((w.setCell ⟨g, o, none⟩ (.int .u8 a)).setCell ⟨g, o + 1, none⟩ (.int .u8 b)).setCell ⟨g, o + 2, none⟩ (.int .u8 c)).setCell ⟨g, o + 3, none⟩ (.int .u8 d)) := .set 3 _ (by decide) (ew3 w g o a b c)
def E8 (w : World) (g o : Nat) : Prop := ∀ k, k < 8 → (∃ x : Int, w.cell? ⟨g, o + k, none⟩ = some (.int .u8 x)) ∧ w.frozen? ⟨g, o + k, none⟩ = false
theorem enc77 (g o c : Nat) (r : Int) (w : World) (h : E8 w g o) : Calls Tryz.prog 77 #[.slice (some ⟨g, o, none⟩) 8 c, .int .i32 r] w fun e w' => (∃ m : Nat, m ≤ 4 ∧ e = .returned (.int .i64 (m : Int))) ∧ EW w g o w' := by
 obtain ⟨⟨x0, h0⟩, f0⟩ := h 0 (by decide); obtain ⟨⟨x1, h1⟩, f1⟩ := h 1 (by decide); obtain ⟨⟨x2, h2⟩, f2⟩ := h 2 (by decide); obtain ⟨⟨x3, h3⟩, f3⟩ := h 3 (by decide); rw [Nat.add_zero] at h0 f0; clear h; go_enter Tryz.func77, Tryz.ntmps77; go_wp2
 all_goals
  go_ret; refine ⟨?_, ?_⟩
  ·first | exact ⟨2, by decide, rfl⟩ | exact ⟨3, by decide, rfl⟩ | exact ⟨4, by decide, rfl⟩
  ·first | with_reducible exact ew4 _ _ _ _ _ _ _ | with_reducible exact ew3 _ _ _ _ _ _ | with_reducible exact ew2 _ _ _ _ _
theorem enc66 (g o c : Nat) (r : Int) (w : World) (h : E8 w g o) : Calls Tryz.prog 66 #[.slice (some ⟨g, o, none⟩) 8 c, .int .i32 r] w fun e w' => (∃ m : Nat, m ≤ 4 ∧ e = .returned (.int .i64 (m : Int))) ∧ EW w g o w' := by
 obtain ⟨⟨x0, h0⟩, f0⟩ := h 0 (by decide); rw [Nat.add_zero] at h0 f0; have H := sd h; clear h; go_enter Tryz.func66, Tryz.ntmps66; go_wp2_with (first | (go_at_call 77; (with_reducible refine (enc77 g o c r _ H.out).mono ?_); rintro e0 w2 ⟨⟨m, hm, rfl⟩, hk⟩; have HK := sd (And.intro hm hk); clear hm hk))
 ·go_ret; refine ⟨⟨1, by decide, rfl⟩, ?_⟩; with_reducible exact ew1 _ _ _ _
 ·go_ret; exact ⟨⟨m, HK.out.1, rfl⟩, HK.out.2⟩
theorem e8_of {w : World} {base g cap n : Nat} {v : Value} {xs : List Int} (h : BR w base v xs g cap) (hn : xs.length = n + 8) : E8 w g n := fun k hk => by
 have hl : n + k < (byteCells xs).length := by rw [byteCells_length]; omega
 refine ⟨⟨xs[n + k]'(by omega), h.cell (n + k) _ ?_⟩, (h.there (n + k) (by have := h.le; omega)).2⟩; rw [List.getElem?_eq_getElem hl]; simp [byteCells]
theorem ew_br {w W : World} {base g cap n : Nat} {v : Value} (k : EW w g n W) {xs : List Int} (h : BR w base v xs g cap) (hn : xs.length = n + 8) : ∃ ys, ys.length = n + 8 ∧ BR W base v ys g cap := by
 induction k with
 | refl => exact ⟨xs, hn, h⟩
 | set k x hk _ ih =>
  obtain ⟨ys, h1, h2⟩ := ih; exact ⟨ys.set (n + k) x, by rw [List.length_set]; exact h1, h2.set (by omega) x⟩
theorem ew_below {B : Nat} {w0 w W : World} {g n : Nat} (k : EW w g n W) (h : Below B w0 w) (hg : B ≤ g) : Below B w0 W := by
 induction k with
 | refl => exact h
 | set k x hk _ ih => exact bset0 ih g (n + k) hg _
def BX (w W : World) (g cap n : Nat) : Prop := ∃ xs, xs.length = n ∧ BR W w.heap.size (.slice (some ⟨g, 0, none⟩) n cap) xs g cap ∧ Below w.heap.size w W
section
variable {w W W2 : World} {g cap n : Nat}
theorem BX.bel (h : BX w W g cap n) : Below w.heap.size w W := by obtain ⟨_, _, _, h⟩ := h; exact h
theorem BX.below (h : BX w W g cap n) (hb : Below W.heap.size W W2) : BX w W2 g cap n := by
 obtain ⟨xs, h1, h2, h3⟩ := h; exact ⟨xs, h1, h2.below hb, below_step h3 hb⟩
theorem BX.capn (h : BX w W g cap n) : n ≤ cap := by obtain ⟨xs, h1, h2, _⟩ := h; rw [← h1]; exact h2.le
theorem wpList_append_bx {P : Program} {ops : Array Oper} {rest : List Oper} {o : Oper} {a : Act} {Q : Exit → Act → World → Prop} (hgd : o.guard = none) (sl x : Operand) (t : TypeId)
  (ho : o.op = .call { callee := .builtin .append, args := #[sl, x], argTypes := #[t, t] }) (i : TypeInfo) (ht : P.underlying t = some (.slice 5)) (hi : P.info? 5 = some i) (hz : i.zero = some (.int .u8 0)) (h1 : i.size = 1) (hby : i.bytes = 1)
  (hs : a.eval sl = .slice (some ⟨g, 0, none⟩) n cap) (h : BX w W g cap n) (ys : List Int) (h63 : n + ys.length ≤ 140737488355328)
  (hx : ∃ ad c, a.eval x = .slice (some ad) ys.length c ∧ ∀ j v, (byteCells ys)[j]? = some v → W.cell? (ad.add j) = some v)
  (hk : ∀ g' c' n' w', n' = n + ys.length → BX w w' g' c' n' → wpList P ops Q rest (a.put o.dst (.slice (some ⟨g', 0, none⟩) n' c')) w') : wpList P ops Q (o :: rest) a W := by
 obtain ⟨xs, h2, h3, h4⟩ := h; obtain ⟨ad, c, hx1, hx2⟩ := hx; refine wpList_append_br hgd sl x t t ho i ht hi hz h1 hby hs h3 h4 h4.size ys (by rw [h2]; exact h63) (.inl ⟨ad, c, rfl, hx1, hx2⟩) ?_; intro v' w' g' c' hbr hb; have hv := hbr.val; have hl : (xs ++ ys).length = n + ys.length := by rw [List.length_append, h2]
 rw [hl] at hv; subst hv; exact hk g' c' _ w' rfl ⟨xs ++ ys, hl, hbr, hb⟩
theorem bx_str (h : BX w W g cap n) : ∃ r : ByteArray, (convert 69 9 (.slice (some ⟨g, 0, none⟩) n cap)).run Tryz.prog W = .ok (.string r) W := by
 obtain ⟨xs, h1, h2, _⟩ := h; subst h1; exact ⟨_, Kd.C_string (P := Tryz.prog) (A := some ⟨g, 0, none⟩) (c := cap) Tryz.underlying69 Tryz.underlying5 Tryz.underlying9 h2.reads⟩
end
theorem info_u {P : Program} {t : TypeId} {z : Value} {a b : Nat} (h : (P.info? t).map (fun i => (i.zero, i.size, i.bytes)) = some (some z, a, b)) : ∃ i, P.info? t = some i ∧ i.zero = some z ∧ i.size = a ∧ i.bytes = b := by
 obtain ⟨i, hi, hz⟩ := Option.map_eq_some_iff.1 h; simp only [Prod.mk.injEq] at hz; exact ⟨i, hi, hz.1, hz.2.1, hz.2.2⟩
theorem info5v : (Tryz.prog.info? 5).map (fun i => (i.zero, i.size, i.bytes)) = some (some (Value.int .u8 0), 1, 1) := by kernel_rfl
theorem el69 : Tryz.prog.elem 69 = 5 := by kernel_rfl
theorem sl_drop (W : World) (g cap n m : Nat) (hn : n = m + 8) (hc : n ≤ cap) : (Instr.slice 69 (.slice (some ⟨g, 0, none⟩) n cap) (some (.int .i64 (m : Int))) none none).run Tryz.prog W = .ok (.slice (some ⟨g, m, none⟩) 8 (cap - m)) W := by
 obtain ⟨i, hi, _, hsz, _⟩ := info_u info5v; rw [run_slice_l W 69 _ n cap (by rw [el69]; exact Tryz.underlying69) .i64 (m : Int) (by omega) (by omega), el69]; have h1 : cap ≠ m := by omega
 simp [sizeOf, typeInfo, hi, hsz, sliced, Result.andThen, h1, Addr.add]; omega
theorem sl_take (W : World) (g cap n m : Nat) (hn : m ≤ n) (hc : n ≤ cap) : (Instr.slice 69 (.slice (some ⟨g, 0, none⟩) n cap) none (some (.int .i64 (m : Int))) none).run Tryz.prog W = .ok (.slice (some ⟨g, 0, none⟩) m cap) W := by
 obtain ⟨i, hi, _, hsz, _⟩ := info_u info5v; rw [run_slice_h W 69 _ n cap (by rw [el69]; exact Tryz.underlying69) .i64 (m : Int) (by omega) (by omega), el69]; simp [sizeOf, typeInfo, hi, hsz, sliced, Result.andThen, Addr.add]
theorem mk_run (W : World) (m : Nat) (hm : m ≤ 65536) : (Instr.makeSlice 69 (.int .i64 0) (.int .i64 (m : Int))).run Tryz.prog W = .ok (.slice (some ⟨W.heap.size, 0, none⟩) 0 m) (W.alloc (.cells (madeCells #[.int .u8 0] m) 5)) := by
 obtain ⟨i, hi, hz, hsz, hby⟩ := info_u info5v; have hr := run_make (P := Tryz.prog) W 69 5 i _ Tryz.underlying69 hi hz .i64 .i64 0 (m : Int) (by omega) (by omega) (by rw [hby]; omega) (by omega); simp only [Int.toNat_natCast, Int.toNat_zero, hsz, Nat.mul_one] at hr; exact hr
theorem bx_make (w : World) (m : Nat) (hm : m ≤ 65536) : BX w (w.alloc (.cells (madeCells #[.int .u8 0] m) 5)) w.heap.size m 0 := by
 have hk := blk_new w (.cells (madeCells #[.int .u8 0] m) 5); have hz : (madeCells #[.int .u8 0] m).size = m := size_madeCells _ _; refine ⟨[], rfl, ⟨rfl, Nat.le_refl _, blk_lt hk, Nat.zero_le _, by simp only [maxLen]; omega, fun j hj => ?_, fun j v hv => by simp [byteCells] at hv⟩, below_alloc (Below.refl _ _) _⟩; rw [blk_cell hk]; exact ⟨by rw [Array.getElem?_eq_getElem (by rw [hz]; exact hj)]; rfl, blk_frozen hk j⟩
theorem new_c1 (w : World) (v : Value) (t : TypeId) : ∀ (j : Nat) (u : Value), [v][j]? = some u → (w.alloc (.cells #[v] t)).cell? ((⟨w.heap.size, 0, none⟩ : Addr).add j) = some u := by
 intro j u hj; rw [add0, blk_cell (t := t) (cs := #[v]) (blk_new w _)]
 simpa using hj
theorem new_c8 (w : World) (v : Value) (t : TypeId) : ∀ (j : Nat) (u : Value), [v, v, v, v, v, v, v, v][j]? = some u → (w.alloc (.cells #[v, v, v, v, v, v, v, v] t)).cell? ((⟨w.heap.size, 0, none⟩ : Addr).add j) = some u := by
 intro j u hj; rw [add0, blk_cell (t := t) (cs := #[v, v, v, v, v, v, v, v]) (blk_new w _)]
 simpa using hj
theorem h63_of {n j K : Nat} {s : ByteArray} (h : n ≤ 8 * j) (hj : j ≤ s.size + 12) (hs : s.size ≤ 65536) (hK : K ≤ 8) : n + K ≤ 140737488355328 := by omega
theorem bx_enc {w W W2 : World} {g cap n n8 m : Nat} (h : BX w W g cap n8) (h8 : n8 = n + 8) (hk : EW W g n W2) (hm : m ≤ 4) : BX w W2 g cap (n + m) := by
 obtain ⟨xs, h1, h2, h3⟩ := h; obtain ⟨ys, g1, g2⟩ := ew_br hk h2 (by omega); have := g2.take (n := n + m) (by omega); exact ⟨ys.take (n + m), by rw [List.length_take]; omega, this, ew_below hk h3 h2.ge⟩
abbrev UR (s : ByteArray) (w : World) (v x : Value) (wr : World) : Prop := ∃ (j n g cap : Nat), x = .int .i64 (j : Int) ∧ v = .slice (some ⟨g, 0, none⟩) n cap ∧ Aside0 (BX w wr g cap n) ∧ Aside0 (n ≤ 8 * j ∧ j ≤ s.size + 12)
theorem un_ln8 {n n2 : Nat} (h : n2 = n + 8) (h2 : n + 8 ≤ 140737488355328) : wrap64 ((n2 : Int) - 8) = (n : Int) ∧ (0 ≤ (n : Int)) = True ∧ (n : Int).toNat = n := ⟨by rw [Go.IntWalk.wrap64_in _ (by omega)]; omega, eq_true (by omega), Int.toNat_natCast n⟩
theorem un_end {n m nm j5 j6 ja j1 : Nat} {s : ByteArray} (h : nm = n + m) (hm : m ≤ 4) (h2 : n + 8 ≤ 140737488355328) (hj : ja = j6 - 1) (h6 : j5 ≤ j6 ∧ j6 ≤ s.size + 11) (h5 : j5 = j1 + 5) (hs : s.size ≤ 65536) : wrap64 ((n : Int) + (m : Int)) = (nm : Int) ∧ wrap64 ((j6 : Int) - 1) = (ja : Int) ∧ wrap64 ((ja : Int) + 1) = (j6 : Int) :=
 ⟨by rw [Go.IntWalk.wrap64_in _ (by omega)]; omega, by rw [Go.IntWalk.wrap64_in _ (by omega)]; omega, by rw [Go.IntWalk.wrap64_in _ (by omega)]; omega⟩
theorem bx_e8 {w W : World} {g cap n n8 : Nat} (h : BX w W g cap n8) (h8 : n8 = n + 8) : E8 W g n := by
 obtain ⟨xs, h1, h2, _⟩ := h; exact e8_of h2 (by omega)
theorem un_facts {s : ByteArray} {j5 j6 j7 j8 : Nat} {c5 c6 : Int} (hs : s.size ≤ 65536) (h : j5 + 6 ≤ s.size) (h6 : j6 = j5 + 1) (h7 : j7 = j5 + 2) (h8 : j8 = j5 + 6) (hc5 : bt s (j5 : Int) = c5) (hc6 : bt s (j6 : Int) = c6) :
  wrap64 ((j5 : Int) + 1) = (j6 : Int) ∧ wrap64 ((j5 : Int) + 2) = (j7 : Int) ∧ wrap64 ((j5 : Int) + 6) = (j8 : Int) ∧ (((j5 : Int) < (s.size : Int)) = True) ∧ ((j5 < s.size) = True) ∧ ((0 ≤ (j6 : Int)) = True) ∧ (((j6 : Int) < (s.size : Int)) = True) ∧ ((j6 < s.size) = True) ∧ ((j6 : Int).toNat = j6) ∧ ((0 ≤ (j7 : Int)) = True) ∧ (((j7 : Int) ≤ (s.size : Int)) = True) ∧ ((j7 ≤ s.size) = True) ∧ ((j7 : Int).toNat = j7) ∧
  (∀ h : j5 < s.size, ((s[j5]'h).toNat : Int) = c5) ∧ (∀ h : j6 < s.size, ((s[j6]'h).toNat : Int) = c6) ∧ (4 ≤ (s.extract j7 s.size).size ∧ (s.extract j7 s.size).size ≤ 65536) := by
 have e : (s.extract j7 s.size).size = s.size - j7 := by rw [ByteArray.size_extract]; omega
 refine ⟨by rw [Go.IntWalk.wrap64_in _ (by omega)]; omega, by rw [Go.IntWalk.wrap64_in _ (by omega)]; omega, by rw [Go.IntWalk.wrap64_in _ (by omega)]; omega, eq_true (by omega), eq_true (by omega), eq_true (by omega), eq_true (by omega), eq_true (by omega), Int.toNat_natCast _, eq_true (by omega), eq_true (by omega), eq_true (by omega), Int.toNat_natCast _, fun h => by rw [bt_c s j5 h]; exact hc5, fun h => by rw [bt_c s j6 h]; exact hc6, by rw [e]; omega, by rw [e]; omega⟩
theorem tzZ40 {P : Prop} (h : P := by
  go_wp2_with (first | (at_builtin; refine wpList_append_bx rfl _ _ 69 rfl i0 Tryz.underlying69 HI0.out.1 HI0.out.2.1 HI0.out.2.2.1 HI0.out.2.2.2 rfl (HQ.out.below (below_alloc (Below.refl _ _) _)) [_] H63.out ⟨⟨_, 0, none⟩, 1, rfl, new_c1 _ _ _⟩ ?_; intro g2 cp2 n2 w9001 hn2 hq2; have HQ2 := sd hq2; have HN2 := sd hn2; clear hq2 hn2)); refine ⟨⟨j2, n2, g2, cp2, by first | rfl | rw [u6], rfl, HQ2, ⟨by have e1 : n2 = n + 1 := HN2.out; have := HJ.out.1; have := HJ1.out; have := HJ2.out; omega, by have := HJ2.out; have := HK1.out; omega⟩⟩, ?_⟩; (try rw [u6]); simp only [intOf, Int.toNat_natCast]; have := HJ1.out; have := HJ2.out; have := HJL.out; omega) : P := h
theorem unesc_calls : UnC := by
 intro s w hs hE; have HS := sd hs; have HE := sd hE; have hmk := fun W => mk_run W s.size hs; have HB0 := sd (bx_make w s.size hs); obtain ⟨i0, hi, hz0, hz1, hz2⟩ := info_u info5v; have HI0 := sd (And.intro hi (And.intro hz0 (And.intro hz1 hz2))); clear hs hE hi hz0 hz1 hz2; go_enter Tryz.func53, Tryz.ntmps53; go_wp2; generalize hn : w.heap.size = nb; go_loopw [3, 4] (fun v x wr => UR s w v x wr) (fun _ x _ => s.size + 13 - (intOf x).toNat)
 case atStart => exact ⟨0, 0, w.heap.size, s.size, rfl, by rw [hn], HB0, ⟨Nat.zero_le _, Nat.zero_le _⟩⟩
 case round =>
  clear HB0 hmk; obtain ⟨j, n, g, cap, rfl, rfl, HQ, HJ⟩ := hrel; have H63 := sd (show n + 1 ≤ 140737488355328 from h63_of HJ.out.1 HJ.out.2 HS.out (by decide))
  by_cases hj : j < s.size
  rotate_left
  ·obtain ⟨z1, z2, z3, z4⟩ := str_end hj; clear hj; obtain ⟨rs, hcv⟩ := bx_str HQ.out; go_wp2; go_ret; exact ⟨⟨rs, rfl⟩, HQ.out.bel⟩
  ·have HJL := sd hj; obtain ⟨c, hc⟩ : ∃ c, bt s (j : Int) = c := ⟨_, rfl⟩
   obtain ⟨x1, x2, x3, x4, x5, x6, x7, x8, x9, x10⟩ := str_facts hj HS.out; obtain ⟨j1, hj1⟩ : ∃ j1, j1 = j + 1 := ⟨_, rfl⟩
   rw [hc] at x10; rw [← hj1] at x6; have HJ1 := sd hj1; clear hj hj1 hc
   by_cases h32 : c < 32
   ·have y1 : decide (c < 32) = true := decide_eq_true h32; clear h32; obtain ⟨rs, hcv⟩ := bx_str HQ.out; go_wp2; go_ret; exact ⟨⟨rs, rfl⟩, HQ.out.bel⟩
   ·have y1 : decide (c < 32) = false := decide_eq_false h32; clear h32
    by_cases h92 : c = 92
    rotate_left
    ·have y2 : (c == 92) = false := beq_eq_false_iff_ne.mpr h92; clear h92; go_wp2_with (first | (at_builtin; refine wpList_append_bx rfl _ _ 69 rfl i0 Tryz.underlying69 HI0.out.1 HI0.out.2.1 HI0.out.2.2.1 HI0.out.2.2.2 rfl (HQ.out.below (below_alloc (Below.refl _ _) _)) [_] H63.out ⟨⟨_, 0, none⟩, 1, rfl, new_c1 _ _ _⟩ ?_; intro g2 cp2 n2 w2 hn2 hq2; have HQ2 := sd hq2; have HN2 := sd hn2; clear hq2 hn2)); refine ⟨⟨j1, n2, g2, cp2, by first | rfl | rw [x6], rfl, HQ2, ⟨by have e1 : n2 = n + 1 := HN2.out; have := HJ.out.1; have := HJ1.out; omega, by have := HJ1.out; have := HJL.out; omega⟩⟩, ?_⟩; (try rw [x6]); simp only [intOf, Int.toNat_natCast]; have := HJ1.out; have := HJL.out; omega
    ·have y2 : (c == 92) = true := beq_iff_eq.mpr h92; clear h92; clear x8 x9
     by_cases hk1 : j1 < s.size
     rotate_left
     ·obtain ⟨z1, z2, z3, z4⟩ := str_end hk1; clear hk1; obtain ⟨rs, hcv⟩ := bx_str HQ.out; go_wp2; go_ret; exact ⟨⟨rs, rfl⟩, HQ.out.bel⟩
     ·have HK1 := sd hk1; obtain ⟨e, he⟩ : ∃ e, bt s (j1 : Int) = e := ⟨_, rfl⟩
      obtain ⟨u1, u2, u3, u4, u5, u6, u7, u8, u9, u10⟩ := str_facts hk1 HS.out; obtain ⟨j2, hj2⟩ : ∃ j2, j2 = j1 + 1 := ⟨_, rfl⟩
      rw [he] at u10; rw [← hj2] at u6; have HJ2 := sd hj2; clear hk1 hj2 he
      by_cases h92 : e = 92
      ·have q92 : (e == 92) = true := beq_iff_eq.mpr h92; clear h92; exact tzZ40
      have q92 : (e == 92) = false := beq_eq_false_iff_ne.mpr h92; clear h92
      by_cases h47 : e = 47
      ·have q47 : (e == 47) = true := beq_iff_eq.mpr h47; clear h47; exact tzZ40
      have q47 : (e == 47) = false := beq_eq_false_iff_ne.mpr h47; clear h47
      by_cases h98 : e = 98
      ·have q98 : (e == 98) = true := beq_iff_eq.mpr h98; clear h98; exact tzZ40
      have q98 : (e == 98) = false := beq_eq_false_iff_ne.mpr h98; clear h98
      by_cases h102 : e = 102
      ·have q102 : (e == 102) = true := beq_iff_eq.mpr h102; clear h102; exact tzZ40
      have q102 : (e == 102) = false := beq_eq_false_iff_ne.mpr h102; clear h102
      by_cases h110 : e = 110
      ·have q110 : (e == 110) = true := beq_iff_eq.mpr h110; clear h110; exact tzZ40
      have q110 : (e == 110) = false := beq_eq_false_iff_ne.mpr h110; clear h110
      by_cases h114 : e = 114
      ·have q114 : (e == 114) = true := beq_iff_eq.mpr h114; clear h114; exact tzZ40
      have q114 : (e == 114) = false := beq_eq_false_iff_ne.mpr h114; clear h114
      by_cases h116 : e = 116
      ·have q116 : (e == 116) = true := beq_iff_eq.mpr h116; clear h116; exact tzZ40
      have q116 : (e == 116) = false := beq_eq_false_iff_ne.mpr h116; clear h116
      by_cases h34 : e = 34
      ·have q34 : (e == 34) = true := beq_iff_eq.mpr h34; clear h34; exact tzZ40
      have q34 : (e == 34) = false := beq_eq_false_iff_ne.mpr h34; clear h34
      by_cases h117 : e = 117
      rotate_left
      ·have q117 : (e == 117) = false := beq_eq_false_iff_ne.mpr h117; clear h117; obtain ⟨rs, hcv⟩ := bx_str HQ.out; go_wp2; go_ret; exact ⟨⟨rs, rfl⟩, HQ.out.bel⟩
      have q117 : (e == 117) = true := beq_iff_eq.mpr h117; clear h117; clear u1 u2 x1 x2; obtain ⟨j5, hj5⟩ : ∃ j5, j5 = j1 + 5 := ⟨_, rfl⟩
      have HJ5 := sd hj5; have v1 : wrap64 ((j1 : Int) + 5) = (j5 : Int) := by rw [Go.IntWalk.wrap64_in _ (by have := HK1.out; have := HS.out; omega)]; omega
      clear hj5
      by_cases h5 : s.size < j5
      ·have v2 : decide ((s.size : Int) < (j5 : Int)) = true := decide_eq_true (by omega); have v3 : decide (s.size < j5) = true := decide_eq_true h5; clear h5; obtain ⟨rs, hcv⟩ := bx_str HQ.out; go_wp2; go_ret; exact ⟨⟨rs, rfl⟩, HQ.out.bel⟩
      have v2 : decide ((s.size : Int) < (j5 : Int)) = false := decide_eq_false (by omega); have v3 : decide (s.size < j5) = false := decide_eq_false h5; have HL5 := sd (show j5 ≤ s.size by omega); have v4 : ((0 ≤ (j2 : Int)) = True) := eq_true (by omega); have v5 : (((j2 : Int) ≤ (s.size : Int)) = True) := eq_true (by have := HJ2.out; have := HK1.out; omega); have v6 : ((j2 ≤ s.size) = True) := eq_true (by have := HJ2.out; have := HK1.out; omega); have v7 : (j2 : Int).toNat = j2 := Int.toNat_natCast j2; have HZ4 := sd (show 4 ≤ (s.extract j2 s.size).size ∧ (s.extract j2 s.size).size ≤ 65536 from by rw [ByteArray.size_extract]; have := HL5.out; have := HJ5.out; have := HJ2.out; have := HS.out; omega); clear h5
      go_upto_region 34 with (first | (go_at_call 63; (with_reducible refine (rune_calls _ HZ4.out.1 HZ4.out.2 _ (HE.out.keep HQ.out.bel)).mono ?_); rintro e0 w2 ⟨hb, r, rfl, hr⟩; have HQ := sd (HQ.out.below hb); clear hb hr))
      clear q92 q47 q98 q102 q110 q114 q116 q34 q117 u3 u4 u5 u6 u7 u8 u9 u10 x3 x4 x5 x6 x7 x10 v2 v3 v4 v5 v6 v7 HZ4; go_upto_if 104 with (first | (go_at_call 64; (with_reducible refine (surr r _).mono ?_); rintro e0 w3 ⟨hb, sg, rfl⟩; have HQ := sd (HQ.out.below hb); clear hb))
      clear v1; go_cut [4, 5] (fun x rv wc => ∃ (j6 : Nat) (r6 : Int), x = .int .i64 (j6 : Int) ∧ rv = .int .i32 r6 ∧ Aside0 (j5 ≤ j6 ∧ j6 ≤ s.size + 11) ∧ Aside0 (BX w wc g cap n))
      case first =>
       cases sg with
       | false =>
        go_wp2; go_meet
        case rel => exact ⟨j5, r, rfl, rfl, ⟨Nat.le_refl _, by have := HL5.out; omega⟩, HQ⟩
       | true =>
        have hcut : (s.extract j5 s.size).size = s.size - j5 := by rw [ByteArray.size_extract]; omega
        have v4 : ((0 ≤ (j5 : Int)) = True) := eq_true (by omega); have v5 : (((j5 : Int) ≤ (s.size : Int)) = True) := eq_true (by have := HL5.out; omega); have v6 : ((j5 ≤ s.size) = True) := eq_true HL5.out; have v7 : (j5 : Int).toNat = j5 := Int.toNat_natCast j5; generalize hq5 : s.extract j5 s.size = s5; rw [hq5] at hcut
        by_cases h6 : s5.size < 6
        ·have z1 : decide ((6 : Int) ≤ (s5.size : Int)) = false := decide_eq_false (by omega); have z2 : decide (6 ≤ s5.size) = false := decide_eq_false (by omega); clear h6 hcut; go_wp2
         all_goals trace_state
         go_meet
         case rel => exact ⟨j5, r, rfl, rfl, ⟨Nat.le_refl _, by have := HL5.out; omega⟩, HQ⟩
        ·have z1 : decide ((6 : Int) ≤ (s5.size : Int)) = true := decide_eq_true (by omega); have z2 : decide (6 ≤ s5.size) = true := decide_eq_true (by omega); have HH := sd (show j5 + 6 ≤ s.size by omega); obtain ⟨j6, hj6⟩ : ∃ j6, j6 = j5 + 1 := ⟨_, rfl⟩
         obtain ⟨j7, hj7⟩ : ∃ j7, j7 = j5 + 2 := ⟨_, rfl⟩
         obtain ⟨j8, hj8⟩ : ∃ j8, j8 = j5 + 6 := ⟨_, rfl⟩
         have HJ6 := sd (And.intro hj6 (And.intro hj7 hj8)); obtain ⟨c5, hc5⟩ : ∃ c5, bt s (j5 : Int) = c5 := ⟨_, rfl⟩
         obtain ⟨c6, hc6⟩ : ∃ c6, bt s (j6 : Int) = c6 := ⟨_, rfl⟩
         obtain ⟨w6, w7, w8, a1, a2, a3, a4, a5, a6, a7, a8, a9, b0, b1, b2, hz7⟩ := un_facts HS.out HH.out hj6 hj7 hj8 hc5 hc6; have HZ7 := sd hz7; clear hz7; clear h6 hcut hj6 hj7 hj8 hc5 hc6
         by_cases h1 : c5 = 92
         rotate_left
         ·have d1 : (c5 == 92) = false := beq_eq_false_iff_ne.mpr h1; clear h1; go_wp2; go_meet
          case rel => exact ⟨j5, r, rfl, rfl, ⟨Nat.le_refl _, by have := HL5.out; omega⟩, HQ⟩
         ·have d1 : (c5 == 92) = true := beq_iff_eq.mpr h1; clear h1
          by_cases h2 : c6 = 117
          rotate_left
          ·have d2 : (c6 == 117) = false := beq_eq_false_iff_ne.mpr h2; clear h2; go_wp2; go_meet
           case rel => exact ⟨j5, r, rfl, rfl, ⟨Nat.le_refl _, by have := HL5.out; omega⟩, HQ⟩
          ·have d2 : (c6 == 117) = true := beq_iff_eq.mpr h2; clear h2; go_wp2_with (first | (go_at_call 63; (with_reducible refine (rune_calls _ HZ7.out.1 HZ7.out.2 _ (HE.out.keep HQ.out.bel)).mono ?_); rintro e0 w4 ⟨hb, r2, rfl, hr⟩; have HQ := sd (HQ.out.below hb); clear hb hr) | (go_at_call 65; (with_reducible refine (decr _ _ _).mono ?_); rintro e0 w5 ⟨hb, rr, rfl⟩; have HQ := sd (HQ.out.below hb); clear hb)); go_meet
           case rel => exact ⟨j8, rr, by first | rfl | rw [w8], rfl, ⟨by have := HJ6.out; omega, by have := HJ6.out; have := HH.out; omega⟩, HQ⟩
      case rest =>
       clear HQ; obtain ⟨j6, r6, rfl, rfl, HJ6, HQ⟩ := hcut; have H64 := sd (show n + 8 ≤ 140737488355328 from h63_of HJ.out.1 HJ.out.2 HS.out (by decide)); go_upto_region 40 with (first | (at_builtin; refine wpList_append_bx rfl _ _ 69 rfl i0 Tryz.underlying69 HI0.out.1 HI0.out.2.1 HI0.out.2.2.1 HI0.out.2.2.2 rfl (HQ.out.below (below_alloc (Below.refl _ _) _)) [0, 0, 0, 0, 0, 0, 0, 0] H64.out ⟨⟨_, 0, none⟩, 8, rfl, new_c8 _ _ _⟩ ?_; intro g2 cp2 n2 w2 hn2 hq2; have HQ2 := sd hq2; have HN2 := sd (show n2 = n + 8 from hn2); clear hq2 hn2))
       clear HQ; obtain ⟨d1, d2, d3⟩ := un_ln8 HN2.out H64.out; have hsl := fun W => sl_drop W g2 cp2 n2 n HN2.out HQ2.out.capn; go_upto_region 41 with (first | (go_at_call 66; (with_reducible refine (enc66 g2 n _ r6 _ (bx_e8 HQ2.out HN2.out)).mono ?_); rintro e0 w3 ⟨⟨m, hm, rfl⟩, hk⟩; have HQ3 := sd (bx_enc HQ2.out HN2.out hk hm); have HM := sd hm; clear hk hm))
       clear hsl; obtain ⟨nm, hnm⟩ : ∃ nm, nm = n + m := ⟨_, rfl⟩
       obtain ⟨ja, hja⟩ : ∃ ja, ja = j6 - 1 := ⟨_, rfl⟩
       have HNM := sd hnm; obtain ⟨k1, k2, k3⟩ := un_end hnm HM.out H64.out hja HJ6.out HJ5.out HS.out; have hsl := fun W => sl_take W g2 cp2 n2 nm (by have := HN2.out; have := HNM.out; have := HM.out; omega) HQ2.out.capn; rw [← hnm] at HQ3; clear hnm hja; go_wp2
       all_goals trace_state
       refine ⟨⟨j6, nm, g2, cp2, by first | rfl | rw [k2, k3] | rw [k3], rfl, HQ3, ⟨by have := HNM.out; have := HM.out; have := HJ.out.1; have := HJ6.out.1; have := HJ5.out; have := HJ1.out; omega, by have := HJ6.out.2; omega⟩⟩, ?_⟩; (try rw [k2]); (try rw [k3])
       simp only [intOf, Int.toNat_natCast]; have := HJ6.out; have := HJ5.out; have := HJ1.out; have := HJL.out; omega
end Go.Proofs.YtdacgdjjdifneaaGreatDoor.PFnGjFlattenOften
