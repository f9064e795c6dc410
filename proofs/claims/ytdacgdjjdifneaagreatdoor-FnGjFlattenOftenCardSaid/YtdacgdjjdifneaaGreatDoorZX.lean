/- Part of the proof of the card in text ZF. -/
import Derived.Test.YtdacgdjjdifneaaGreatDoorV13
import Derived.Test.YtdacgdjjdifneaaGreatDoorZT
import Derived.Test.YtdacgdjjdifneaaGreatDoorZU
import Derived.Test.YtdacgdjjdifneaaGreatDoorZW
import Derived.Test.YtdacgdjjdifneaaGreatDoorV12
import Derived.Outline
import Derived.Deep.CutBlock
set_option linter.all false
set_option maxHeartbeats 16000000
set_option maxRecDepth 100000
namespace Go.Proofs.YtdacgdjjdifneaaGreatDoor.PFnGjFlattenOften
open Go.RowKit Go.Proofs.YtdacgdjjdifneaaGreatDoorW.PrintWords Go.Proofs.YtdacgdjjdifneaaGreatDoorW.PrintLast Go.Proofs.YtdacgdjjdifneaaGreatDoorW.PrintMore
section
variable {w W W2 : World} {base g cap : Nat} {v : Value} {xs : List Int}
theorem BR.fresh {W' : World} {c : Nat} (hW : W'.heap = (w.alloc (.cells ((byteCells xs).toArray ++ Builtin.zeroCells #[.int .u8 0] (c - xs.length)) 5)).heap) (hc : xs.length ≤ c) (hm : c ≤ maxLen) :
  BR W' w.heap.size (.slice (some ⟨w.heap.size, 0, none⟩) xs.length c) xs w.heap.size c := by
 have hk := blk_new w (.cells ((byteCells xs).toArray ++ Builtin.zeroCells #[.int .u8 0] (c - xs.length)) 5); rw [← hW] at hk; have hz : (Builtin.zeroCells #[.int .u8 0] (c - xs.length)).size = c - xs.length := by rw [size_zeroCells]; show _ * 1 = _; omega
 have hsz : ((byteCells xs).toArray ++ Builtin.zeroCells #[.int .u8 0] (c - xs.length)).size = c := by
  rw [Array.size_append, hz, List.size_toArray, byteCells_length]; omega
 refine ⟨rfl, Nat.le_refl _, blk_lt hk, hc, hm, fun j hj => ?_, fun j u hu => ?_⟩
 ·rw [blk_cell hk]; exact ⟨by rw [Array.getElem?_eq_getElem (by rw [hsz]; exact hj)]; rfl, blk_frozen hk j⟩
 ·rw [blk_cell hk]; have hj := (List.getElem?_eq_some_iff.1 hu).1; rw [Array.getElem?_append_left (by rw [List.size_toArray]; exact hj), List.getElem?_toArray]; exact hu
theorem wpList_nil_row {P : Program} {ops : Array Oper} {rest : List Oper} {o : Oper} {a : Act} {Q : Exit → Act → World → Prop} (hgd : o.guard = none) (sl x : Operand) (t : TypeId)
  (ho : o.op = .call { callee := .builtin .append, args := #[sl, x], argTypes := #[t, t] }) (i : TypeInfo) (ht : P.underlying t = some (.slice 5)) (hi : P.info? 5 = some i) (hz : i.zero = some (.int .u8 0)) (h1 : i.size = 1) (hby : i.bytes = 1)
  (hs : a.eval sl = .slice none 0 0) (ys : List Int) (h0 : 0 < ys.length) (h63 : ys.length ≤ 140737488355328) (hx : ∃ ad c, a.eval x = .slice (some ad) ys.length c ∧ ∀ j v, (byteCells ys)[j]? = some v → w.cell? (ad.add j) = some v)
  (hk : ∀ g L c w', BR w' w.heap.size (.slice (some ⟨g, 0, none⟩) L c) ys g c → Below w.heap.size w w' → wpList P ops Q rest (a.put o.dst (.slice (some ⟨g, 0, none⟩) L c)) w') : wpList P ops Q (o :: rest) a w := by
 obtain ⟨ad, c, hx, hnews⟩ := hx; have hlen : (byteCells ys).length = ys.length := byteCells_length ys; have hr := run_append_nil (P := P) (w := w) t o.type 5 i _ ht hi hz ad ys.length c (byteCells ys) (by rw [hlen, h1, Nat.mul_one]) hnews h0 (by omega) (by rw [hby]; omega); have hzc : (Value.int .u8 0).cells = #[.int .u8 0] := rfl; rw [hzc] at hr; have hbr := BR.fresh (w := w) (xs := ys) (c := grownCap w ys.length 0 5) (W' := w.drew.alloc (.cells ((byteCells ys).toArray ++ Builtin.zeroCells #[.int .u8 0] (grownCap w ys.length 0 5 - ys.length)) 5)) rfl (grownCap_ge w _ _ _) (grownCap_le_maxLen w _ _ _ (by simp only [maxLen]; omega)); refine Kd.event_run hgd ?_ (hk w.heap.size ys.length _ _ hbr ((below_drew (Below.refl _ _)).alloc (Nat.le_refl _) _)); simp [execOp, ho, resolve, invoke, builtin, hs, hx, hr]
end
theorem balloc {n : Nat} {w W : World} (hn : w.heap.size = n) (h : Below n w W) (o : Obj) : Below n w (W.alloc o) := bstep hn h (below_alloc (Below.refl _ _) o)
def RecC (arg : ByteArray) (e b : List Int) : Prop := ∀ (raw : ByteArray) (W : World), bytesOf raw = e → raw.size ≤ 65536 → PW W → Calls Tryz.prog 26 #[.string raw, .string arg] W fun x W' => (∃ t : ByteArray, x = .returned (.string t) ∧ bytesOf t = 91 :: (b ++ [93]) ∧ t.size ≤ 65536) ∧ Below W.heap.size W W'
def OneOk (d : Bool) (arg : ByteArray) (e b : List Int) : Prop := (b = [] ∨ SolT b) ∧ ((NotA e ∧ (∃ j, V e j) ∧ b = e) ∨ ∃ x, e = 91 :: (x ++ [93]) ∧ ((d = false ∧ ∃ v1 v2, Ws v1 ∧ Ws v2 ∧ x = v1 ++ (b ++ v2)) ∨ (d = true ∧ RecC arg e b)))
inductive AllOk (d : Bool) (arg : ByteArray) : List (List Int) → List (List Int) → Prop
 | nil : AllOk d arg [] []
 | cons (e b : List Int) (es bs : List (List Int)) : OneOk d arg e b → AllOk d arg es bs → AllOk d arg (e :: es) (b :: bs)
theorem AllOk.len {d : Bool} {arg : ByteArray} {es bs : List (List Int)} (h : AllOk d arg es bs) : bs.length = es.length := by
 induction h with
 | nil => rfl
 | cons e b es bs _ _ ih => simp [ih]
theorem AllOk.get {d : Bool} {arg : ByteArray} {es bs : List (List Int)} (h : AllOk d arg es bs) : ∀ (m : Nat) (e : List Int), es[m]? = some e → ∃ b, bs[m]? = some b ∧ OneOk d arg e b := by
 induction h with
 | nil => intro m e he; simp at he
 | cons e b es bs h1 _ ih =>
  intro m x hx
  cases m with
  | zero =>
   simp at hx; subst hx; exact ⟨b, rfl, h1⟩
  | succ m => exact ih m x (by simpa using hx)
theorem outB_take {bs : List (List Int)} {m : Nat} {b : List Int} (h : bs[m]? = some b) : outB (bs.take (m + 1)) = addB (outB (bs.take m)) b := by
 obtain ⟨hl, hb⟩ := List.getElem?_eq_some_iff.1 h; rw [List.take_succ_eq_append_getElem hl, outB_app, hb]; rw [show outB [b] = b from by rw [outB, List.foldl_cons, nil_addB]; rfl]
theorem itP (w W0 : World) (db ab xb ob : Nat) (d : Bool) (arg : ByteArray) (es bs : List (List Int)) (hA : AllOk d arg es bs) (hL : ∀ m, (outB (bs.take m)).length ≤ 65536) (hE : ∀ (m : Nat) (e : List Int), es[m]? = some e → e.length ≤ 65536) (hPW : PW w) (h0 : CT w db ab xb ob d arg (fun _ => False) [] W0) (hlt : db < W0.heap.size ∧ ab < W0.heap.size ∧ xb < W0.heap.size ∧ ob < W0.heap.size) :
  ItP W0 es 41 ⟨db, 0, none⟩ ⟨ab, 0, none⟩ ⟨xb, 0, none⟩ ⟨ob, 0, none⟩ (fun O m W => CT w db ab xb ob d arg O (outB (bs.take m)) W) where
 init := fun O W hO hb => by
  obtain ⟨x, v, g, cap, hcs, hx⟩ := h0.ex; refine ⟨x, v, g, cap, ?_, by rw [List.take_zero]; exact hx⟩; have h1 := hcs.below hb; rw [List.take_zero]; have hg := hcs.br.lt; exact ⟨h1.bd, h1.ba, h1.bx, h1.bo, h1.br, ⟨h1.gne.1, h1.gne.2.1, h1.gne.2.2.1, h1.gne.2.2.2.1, fun ho => by have := hO _ ho; omega⟩, ⟨fun ho => by have := hO _ ho; omega, fun ho => by have := hO _ ho; omega, fun ho => by have := hO _ ho; omega, fun ho => by have := hO _ ho; omega⟩, h1.nn, fun k ho => Nat.le_trans hcs.fr.size (hO k ho), h1.fr⟩
 stab := fun O m W W' h hk => by
  obtain ⟨x, v, g, cap, hcs, hx⟩ := h.ex; exact ⟨x, v, g, cap, hcs.stab hk, hx⟩
 pw := fun O m W h => by
  obtain ⟨x, v, g, cap, hcs, hx⟩ := h.ex; exact hPW.keep hcs.fr
 step := fun O m W e kf ty raw str num ix he h hO hraw hty => by
  obtain ⟨b, hb, hb0, hcase⟩ := hA.get m e he; have hrs : raw.size ≤ 65536 := by rw [← bytesOf_length, hraw]; exact hE m e he
  refine (cl_any w db ab xb ob d arg O (outB (bs.take m)) b kf ty raw str num ix W h hO hrs (hL m) hb0 ?_).mono fun x W' ⟨h1, h2, h3⟩ => ⟨h1, by rw [outB_take hb]; exact h2, h3.1, h3.2⟩
  rcases hcase with ⟨hn, ⟨j, hv⟩, rfl⟩ | ⟨x, hx, hd⟩
  ·refine .inl ⟨v_sol hv, hraw, ?_⟩
   rcases hty with ⟨h5, c, r, hc, hc2⟩ | ⟨h5, _⟩
   ·refine .inr ⟨h5, r, ?_⟩
    rcases hc2 with rfl | rfl
    ·exact absurd hc (hn r)
    ·exact hc
   ·exact .inl h5
  ·have h5 : ty = 5 := by
    rcases hty with ⟨h5, _⟩ | ⟨_, hn⟩
    ·exact h5
    ·exact absurd hx (hn _)
   rcases hd with ⟨hd, v1, v2, g1, g2, g3⟩ | ⟨hd, hrec⟩
   ·exact .inr (.inl ⟨h5, hd, x, hraw.trans hx, v1, v2, g1, g2, g3⟩)
   ·refine .inr (.inr ⟨h5, hd, ⟨_, hraw.trans hx⟩, fun W1 h1 => hrec raw W1 hraw hrs ?_⟩); obtain ⟨x, v, g, cap, hcs, hx⟩ := h1.ex; exact hPW.keep hcs.fr
structure MfA (w : World) (n rb db : Nat) (d : Bool) (arg json : ByteArray) (W : World) : Prop where
 a : W.heap[n]? = some (.cells #[.string arg] 9 (0, 0))
 r : RB W rb (.int .i64 5) (.string json) (.string ⟨#[]⟩) (.float .f64 0) (.int .i64 0) (.slice none 0 0)
 b : W.heap[db]? = some (.cells #[.bool d] 4 (0, 0))
 fr : Below n w W
theorem MfA.below {w W W2 : World} {n rb db : Nat} {d : Bool} {arg json : ByteArray} (h : MfA w n rb db d arg json W) (hn : w.heap.size = n) (hb : Below W.heap.size W W2) : MfA w n rb db d arg json W2 :=
 ⟨blk_below h.a hb, h.r.below hb, blk_below h.b hb, bstep hn h.fr hb⟩
theorem MfA.on {w W W2 : World} {n rb db : Nat} {d : Bool} {arg json : ByteArray} (h : MfA w n rb db d arg json W) (hn : n ≤ db) (hd : W2.heap[db]? = some (.cells #[.bool true] 4 (0, 0))) (hk : Ks W W2 (fun k => k = db)) : MfA w n rb db true arg json W2 :=
 ⟨hk.blk h.a (blk_ne h.a h.b (by decide)), ⟨hk.blk h.r.h (blk_ne h.r.h h.b (by decide))⟩, hd,
  ⟨hk.env.1.trans h.fr.os, hk.env.2.1.trans h.fr.tape, hk.env.2.2.trans h.fr.output, Nat.le_trans h.fr.size hk.kept.1, fun k hk2 => (hk.kept.2 k (Nat.lt_of_lt_of_le hk2 (Nat.le_trans hn (Nat.le_of_lt (blk_lt h.b)))) (fun e => by omega)).trans (h.fr.block k hk2)⟩⟩
theorem ct_start {w W : World} {n rb db ob g L cp b0 : Nat} {d : Bool} {arg json : ByteArray} (hn : w.heap.size = n) (h : MfA w n rb db d arg json W) {u : Value} (ho : W.heap[ob]? = some (.cells #[u] 69 (0, 0))) (hbr : BR W b0 (.slice (some ⟨g, 0, none⟩) L cp) [91] g cp) (hord : n < ob ∧ rb < ob ∧ db < ob ∧ ob < g) :
  CT w db n W.heap.size ob d arg (fun _ => False) [] ((W.setCell ⟨ob, 0, none⟩ (.slice (some ⟨g, 0, none⟩) L cp)).alloc (.cells #[.int .i64 0] 3)) ∧
  RB ((W.setCell ⟨ob, 0, none⟩ (.slice (some ⟨g, 0, none⟩) L cp)).alloc (.cells #[.int .i64 0] 3)) rb (.int .i64 5) (.string json) (.string ⟨#[]⟩) (.float .f64 0) (.int .i64 0) (.slice none 0 0) ∧
  (db < ((W.setCell ⟨ob, 0, none⟩ (.slice (some ⟨g, 0, none⟩) L cp)).alloc (.cells #[.int .i64 0] 3)).heap.size ∧ n < ((W.setCell ⟨ob, 0, none⟩ (.slice (some ⟨g, 0, none⟩) L cp)).alloc (.cells #[.int .i64 0] 3)).heap.size ∧ W.heap.size < ((W.setCell ⟨ob, 0, none⟩ (.slice (some ⟨g, 0, none⟩) L cp)).alloc (.cells #[.int .i64 0] 3)).heap.size ∧ ob < ((W.setCell ⟨ob, 0, none⟩ (.slice (some ⟨g, 0, none⟩) L cp)).alloc (.cells #[.int .i64 0] 3)).heap.size) := by
 obtain ⟨o1, o2, o3, o4⟩ := hord; have hg := hbr.lt; have hsz : ((W.setCell ⟨ob, 0, none⟩ (.slice (some ⟨g, 0, none⟩) L cp)).alloc (.cells #[.int .i64 0] 3)).heap.size = W.heap.size + 1 := by rw [World.size_alloc, World.size_setCell]
 have hs0 : (W.setCell ⟨ob, 0, none⟩ (.slice (some ⟨g, 0, none⟩) L cp)).heap.size = W.heap.size := World.size_setCell ..; have hx := blk_new (W.setCell ⟨ob, 0, none⟩ (.slice (some ⟨g, 0, none⟩) L cp)) (.cells #[.int .i64 0] 3); rw [hs0] at hx; have hgo : g ≠ ob := by omega
 have hbr2 : BR ((W.setCell ⟨ob, 0, none⟩ (.slice (some ⟨g, 0, none⟩) L cp)).alloc (.cells #[.int .i64 0] 3)) b0 (.slice (some ⟨g, 0, none⟩) L cp) [91] g cp :=
  (hbr.of_blk (W2 := W.setCell ⟨ob, 0, none⟩ (.slice (some ⟨g, 0, none⟩) L cp)) (Below.heap_setCell W ⟨ob, 0, none⟩ _ g hgo) (by rw [hs0]; exact Nat.le_refl _)).below (below_alloc (Below.refl _ _) _)
 have hfr : Below n w ((W.setCell ⟨ob, 0, none⟩ (.slice (some ⟨g, 0, none⟩) L cp)).alloc (.cells #[.int .i64 0] 3)) := balloc hn (bset h.fr ob 0 (Nat.le_of_lt o1) _) _; have hsw := h.fr.size; refine ⟨⟨0, _, g, cp, ⟨blk_alloc (blk_far h.b (p := ⟨ob, 0, none⟩) (Nat.ne_of_lt o3) _) _, blk_alloc (blk_far h.a (p := ⟨ob, 0, none⟩) (Nat.ne_of_lt o1) _) _, hx, blk_alloc ((blk_set ho 0 _).trans rfl) _, ?_, ⟨by omega, by omega, by omega, hgo, fun h => h⟩, ⟨fun h => h, fun h => h, fun h => h, fun h => h⟩, ⟨by omega, by omega⟩, fun k h => h.elim, ?_⟩, Nat.zero_le _, by simp⟩, (h.r.far (p := ⟨ob, 0, none⟩) (Nat.ne_of_lt o2) _).alloc _, by rw [hsz]; omega, by rw [hsz]; omega, by rw [hsz]; omega, by rw [hsz]; omega⟩
 ·exact ⟨hbr2.val, by rw [hn]; omega, hbr2.lt, hbr2.le, hbr2.max, hbr2.there, hbr2.cell⟩
 ·rw [hn]; exact hfr
theorem CT.forget {w0 W : World} {db ab xb ob : Nat} {d : Bool} {arg : ByteArray} {O : Nat → Prop} {acc : List Int} (h : CT w0 db ab xb ob d arg O acc W) : CT w0 db ab xb ob d arg (fun _ => False) acc W := by
 obtain ⟨x, v, g, cap, hcs, hx⟩ := h.ex; exact ⟨x, v, g, cap, ⟨hcs.bd, hcs.ba, hcs.bx, hcs.bo, hcs.br, ⟨hcs.gne.1, hcs.gne.2.1, hcs.gne.2.2.1, hcs.gne.2.2.2.1, fun h => h⟩, ⟨fun h => h, fun h => h, fun h => h, fun h => h⟩, hcs.nn, fun k h => h.elim, hcs.fr⟩, hx⟩
theorem str_calls {w : World} {base g cap : Nat} {v : Value} {xs : List Int} (h : BR w base v xs g cap) : Calls Tryz.prog 44 #[v] w fun e w' => e = .returned (.string (strOfNums xs)) ∧ Below w.heap.size w w' := by
 have hv := h.val; subst hv; exact (gjson_bytesString.calls _ _ _ _ w h.reads h.le rfl).mono fun e w' ⟨a, b⟩ => ⟨a, b.below⟩
theorem nums_bytes {xs : List Int} (h : ∀ c ∈ xs, 0 ≤ c ∧ c ≤ 255) : bytesOf (strOfNums xs) = xs := by
 have : (strOfNums xs).data.toList = xs.map fun n => UInt8.ofNat n.toNat := strOfNums_data xs; unfold bytesOf; rw [this, List.map_map]; have e : ∀ c ∈ xs, ((fun b : UInt8 => (b.toNat : Int)) ∘ fun n : Int => UInt8.ofNat n.toNat) c = c := fun c hc => by
  have := h c hc; simp only [Function.comp, UInt8.toNat_ofNat']; omega
 rw [List.map_congr_left e]; simp
def deepA : ByteArray := ⟨#[123, 34, 100, 101, 101, 112, 34, 58, 116, 114, 117, 101, 125]⟩
theorem deep_str : gjson_parseString.f 20 deepA 2 = some (7, deepA.extract 1 7, false, true) := by kernel_rfl
theorem deep_lit : gjson_parseLiteral.f 20 deepA 8 = some (12, deepA.extract 8 12) := by kernel_rfl
theorem deep_name : (deepA.extract 1 7).extract 1 5 = ⟨#[100, 101, 101, 112]⟩ := by rfl
theorem res_str (raw str : ByteArray) (num : Nat) (ix : Int) (w : World) : Calls Tryz.prog 39 #[RV 3 raw str num ix] w fun e w' => e = .returned (.string str) ∧ Below w.heap.size w w' := by
 go_enter Tryz.func39, Tryz.ntmps39; go_wp2; go_ret; exact ⟨rfl, below_alloc (Below.refl _ _) _⟩
theorem res_true (raw str : ByteArray) (num : Nat) (ix : Int) (w : World) : Calls Tryz.prog 40 #[RV 4 raw str num ix] w fun e w' => e = .returned (.bool true) ∧ Below w.heap.size w w' := by
 go_enter Tryz.func40, Tryz.ntmps40; go_wp2; go_ret; exact ⟨rfl, below_alloc (Below.refl _ _) _⟩
theorem sw_calls (raw raw2 str2 : ByteArray) (num num2 : Nat) (ix ix2 : Int) (db : Nat) (x : Bool) (w : World) (hd : w.heap[db]? = some (.cells #[.bool x] 4 (0, 0))) :
  Calls Tryz.prog 38 #[RV 3 raw ⟨#[100, 101, 101, 112]⟩ num ix, RV 4 raw2 str2 num2 ix2, .pointer (some ⟨db, 0, none⟩)] w fun e w' => e = .returned (.bool true) ∧ w'.heap[db]? = some (.cells #[.bool true] 4 (0, 0)) ∧ Ks w w' (fun k => k = db) := by
 have HD := sd hd; have HV := sd (RB.new (w.alloc (.cells #[.int .i64 3, .string raw, .string ⟨#[100, 101, 101, 112]⟩, .float .f64 num, .int .i64 ix, .slice none 0 0] 64)) (.int .i64 4) (.string raw2) (.string str2) (.float .f64 num2) (.int .i64 ix2) (.slice none 0 0)); have HB := sd (below_alloc (below_alloc (Below.refl w.heap.size w) (.cells #[.int .i64 3, .string raw, .string ⟨#[100, 101, 101, 112]⟩, .float .f64 num, .int .i64 ix, .slice none 0 0] 64)) (.cells #[.int .i64 4, .string raw2, .string str2, .float .f64 num2, .int .i64 ix2, .slice none 0 0] 64)); rw [World.size_alloc] at HV; clear hd; go_enter Tryz.func38, Tryz.ntmps38; go_upto_region 2 with (first | (go_at_call 39; (with_reducible refine (res_str raw _ num ix _).mono ?_); rintro e0 w2 ⟨rfl, hb⟩; have HB2 := sd (below_step HB.out hb); have HV2 := sd (HV.out.below hb); clear hb))
 have HD2 := sd (blk_below HD.out HB2.out); obtain ⟨p0, p1, p2, p3, p4, p5⟩ := HV2.out.cells; go_upto_region 3 with (first | (go_at_call 40; (with_reducible refine (res_true raw2 str2 num2 ix2 _).mono ?_); rintro e0 w3 ⟨rfl, hb⟩; have HB3 := sd (below_step HB2.out hb); have HD3 := sd (blk_below HD2.out hb); clear hb; have d0 : w3.cell? ⟨db, 0, none⟩ = some (.bool x) := (blk_cell HD3.out 0).trans rfl; have d1 : w3.frozen? ⟨db, 0, none⟩ = false := blk_frozen HD3.out 0))
 go_wp2; go_ret; exact ⟨rfl, (blk_set HD3.out 0 _).trans rfl, (Ks.of_below HB3.out (fun k => k = db)).set db 0 rfl _⟩
theorem pa_t8 (s : ByteArray) (hs : s = deepA) (w : World) : Calls Tryz.prog 54 #[.string s, .int .i64 8, .bool true] w fun e w' => (∃ ix : Int, e = .returned (.tuple #[.int .i64 12, RV 4 (s.extract 8 12) ⟨#[]⟩ 0 ix, .bool true])) ∧ Below w.heap.size w w' := by
 subst hs; exact pa_t deepA (by decide) 8 12 _ (by decide) rfl 20 deep_lit w
theorem step3 {w W : World} {g kb : Nat} {v0 v1 v2 v3 v4 v5 : Value} (h : RB W g v0 v1 v2 v3 v4 v5) (hg : g ≠ kb) (a b c : Value) : RB (((W.setCell ⟨kb, 2, none⟩ a).setCell ⟨kb, 1, none⟩ b).setCell ⟨kb, 4, none⟩ c) g v0 v1 v2 v3 v4 v5 := ((h.far (p := ⟨kb, 2, none⟩) hg a).far (p := ⟨kb, 1, none⟩) hg b).far (p := ⟨kb, 4, none⟩) hg c
end Go.Proofs.YtdacgdjjdifneaaGreatDoor.PFnGjFlattenOften
namespace Go.Proofs.YtdacgdjjdifneaaGreatDoor.PFnGjFlattenOften
open Go.RowKit Go.Proofs.YtdacgdjjdifneaaGreatDoorW.PrintWords Go.Proofs.YtdacgdjjdifneaaGreatDoorW.PrintLast Go.Proofs.YtdacgdjjdifneaaGreatDoorW.PrintMore
attribute [local go_sem] max2_int min2_int max_two min_two max_three min_three max_four min_four store_float
theorem deep_bt (s : ByteArray) (hs : s = deepA) : s.size = 13 ∧ bt s 0 = 123 ∧ bt s 1 = 34 ∧ bt s 7 = 58 ∧ bt s 8 = 116 := by subst hs; exact ⟨rfl, rfl, rfl, rfl, rfl⟩
theorem at_of {s : ByteArray} {j : Nat} {c : Int} (h : bt s (j : Int) = c) : ∀ h : j < s.size, ((s[j]'h).toNat : Int) = c := fun h0 => by rw [bt_c s j h0]; exact h
theorem fe_obj (s : ByteArray) (hs : s = deepA) (db : Nat) (x : Bool) (w : World) (hd : w.heap[db]? = some (.cells #[.bool x] 4 (0, 0))) :
  Calls Tryz.prog 37 #[RV 5 s ⟨#[]⟩ 0 0, .func (.func 38) #[] #[.pointer (some ⟨db, 0, none⟩)]] w fun e w' => e = .returned (.tuple #[]) ∧ w'.heap[db]? = some (.cells #[.bool true] 4 (0, 0)) ∧ Ks w w' (fun k => k = db) := by
 have HS := sd hs; have HD := sd hd; have HDL := sd (blk_lt hd); obtain ⟨hz, b0, b1, b7, b8⟩ := deep_bt s hs; have B0 := at_of (j := 0) b0; have B1 := at_of (j := 1) b1; have B7 := at_of (j := 7) b7; have B8 := at_of (j := 8) b8; have HB8 := sd b8; have HZ := sd hz; clear hs hd b0 b1 b7 b8; go_enter Tryz.func37, Tryz.ntmps37; go_upto_region 7 with (first | (go_at_call 51; (with_reducible refine (exists_c s ⟨#[]⟩ 0 0 _).mono ?_); rintro e0 w2 ⟨rfl, hb⟩; have HB := sd hb; clear hb; have HT := sd ((RB.new w (.int .i64 5) (.string s) (.string ⟨#[]⟩) (.float .f64 0) (.int .i64 0) (.slice none 0 0)).below HB.out); obtain ⟨p0, p1, p2', p3', p4', p5'⟩ := HT.out.cells))
 clear p0 p1 p2' p3' p4' p5'; have HB0 := sd (below_step (below_alloc (Below.refl w.heap.size w) _) HB.out); have HLT := sd HT.out.lt; go_upto_region 8 with (fail)
 have HA := sd ((HT.out.alloc (.cells #[.int .i64 0, .string ⟨#[]⟩, .string ⟨#[]⟩, .float .f64 0, .int .i64 0, .slice none 0 0] 64)).alloc (.cells #[.int .i64 0, .string ⟨#[]⟩, .string ⟨#[]⟩, .float .f64 0, .int .i64 0, .slice none 0 0] 64)); have HK := sd ((RB.new w2 (.int .i64 0) (.string ⟨#[]⟩) (.string ⟨#[]⟩) (.float .f64 0) (.int .i64 0) (.slice none 0 0)).alloc (.cells #[.int .i64 0, .string ⟨#[]⟩, .string ⟨#[]⟩, .float .f64 0, .int .i64 0, .slice none 0 0] 64)); have HV := sd (RB.new (w2.alloc (.cells #[.int .i64 0, .string ⟨#[]⟩, .string ⟨#[]⟩, .float .f64 0, .int .i64 0, .slice none 0 0] 64)) (.int .i64 0) (.string ⟨#[]⟩) (.string ⟨#[]⟩) (.float .f64 0) (.int .i64 0) (.slice none 0 0)); rw [World.size_alloc] at HV
 have HB1 := sd (below_alloc (below_alloc HB0.out (.cells #[.int .i64 0, .string ⟨#[]⟩, .string ⟨#[]⟩, .float .f64 0, .int .i64 0, .slice none 0 0] 64)) (.cells #[.int .i64 0, .string ⟨#[]⟩, .string ⟨#[]⟩, .float .f64 0, .int .i64 0, .slice none 0 0] 64)); clear HB HB0 HT; generalize hn : w.heap.size = n at *; generalize w2.heap.size = kb at *; generalize (w2.alloc (.cells #[.int .i64 0, .string ⟨#[]⟩, .string ⟨#[]⟩, .float .f64 0, .int .i64 0, .slice none 0 0] 64)).alloc (.cells #[.int .i64 0, .string ⟨#[]⟩, .string ⟨#[]⟩, .float .f64 0, .int .i64 0, .slice none 0 0] 64) = w3 at *; obtain ⟨k0, k1, k2, k3, k4, k5⟩ := HK.out.cells; have f0 := HK.out.free 0; have hz2 : (s.size : Int) = 13 := by rw [hz]; rfl
 refine wp_loop_rounds 1 ?_; rw [rounds_succ]; go_upto_region 23 with (fail)
 have HK4 := sd (HK.out.set0 (.int .i64 3)); have HA4 := sd (HA.out.far (p := ⟨kb, 0, none⟩) (Nat.ne_of_lt HLT.out) (.int .i64 3)); have HV4 := sd (HV.out.far (p := ⟨kb, 0, none⟩) (Nat.succ_ne_self kb) (.int .i64 3)); have HB4 := sd (bset HB1.out kb 0 (Nat.le_of_lt HLT.out) (.int .i64 3)); clear HK HA HV HB1 k0 k1 k2 k3 k4 k5 f0; generalize w3.setCell ⟨kb, 0, none⟩ (.int .i64 3) = w4 at *; obtain ⟨st, hst⟩ : ∃ st, st = s.extract 1 7 := ⟨_, rfl⟩
 have HF := sd (show gjson_parseString.f 20 s 2 = some (7, st, false, true) from by rw [hst, HS.out]; exact deep_str); have hcut : st.extract 1 5 = ⟨#[100, 101, 101, 112]⟩ := by rw [hst, HS.out]; exact deep_name
 have hstz : st.size = 6 := by rw [hst, HS.out]; rfl
 clear hst; refine wp_loop_rounds 2 ?_; rw [rounds_succ]; go_upto_region 29 with (first | (go_at_call 52; (with_reducible refine (gjson_parseString.calls 20 s 2 7 st false true _ HF.out).mono ?_); rintro e0 w5 ⟨rfl, hdr⟩; have HK5 := sd (HK4.out.below hdr.below); have HA5 := sd (HA4.out.below hdr.below); have HV5 := sd (HV4.out.below hdr.below); have HB5 := sd (bstep hn HB4.out hdr.below); clear hdr HK4 HA4 HV4 HB4))
 obtain ⟨k0, k1, k2, k3, k4, k5⟩ := HK5.out.cells; have f1 := HK5.out.free 1; have f2 := HK5.out.free 2; have f4 := HK5.out.free 4; obtain ⟨a0, a1, a2, a3, a4, a5⟩ := HA5.out.cells; go_upto_region 36 with (fail)
 have HK6 := sd (((HK5.out.set2 (.string ⟨#[100, 101, 101, 112]⟩)).set1 (.string st)).set4 (.int .i64 1)); have HA6 := sd (step3 (w := w) HA5.out (Nat.ne_of_lt HLT.out) (.string ⟨#[100, 101, 101, 112]⟩) (.string st) (.int .i64 1)); have HV6 := sd (step3 (w := w) HV5.out (Nat.succ_ne_self kb) (.string ⟨#[100, 101, 101, 112]⟩) (.string st) (.int .i64 1)); have HB6 := sd (bset (bset (bset HB5.out kb 2 (Nat.le_of_lt HLT.out) (.string ⟨#[100, 101, 101, 112]⟩)) kb 1 (Nat.le_of_lt HLT.out) (.string st)) kb 4 (Nat.le_of_lt HLT.out) (.int .i64 1)); clear HK5 HA5 HV5 HB5 k0 k1 k2 k3 k4 k5 f1 f2 f4 a0 a1 a2 a3 a4 a5; generalize ((w5.setCell ⟨kb, 2, none⟩ (.string ⟨#[100, 101, 101, 112]⟩)).setCell ⟨kb, 1, none⟩ (.string st)).setCell ⟨kb, 4, none⟩ (.int .i64 1) = w6 at *; refine wp_loop_rounds 2 ?_; rw [rounds_succ]; go_wp2; rw [rounds_succ]
 go_upto_region 41 with (first | (go_at_call 54; (with_reducible refine (pa_t8 s HS.out _).mono ?_); rintro e0 w7 ⟨⟨ix2, rfl⟩, hb⟩; have HK7 := sd (HK6.out.below hb); have HA7 := sd (HA6.out.below hb); have HV7 := sd (HV6.out.below hb); have HB7 := sd (bstep hn HB6.out hb); clear hb HK6 HA6 HV6 HB6; obtain ⟨p0, p1, p2', p3', p4', p5'⟩ := HV7.out.cells; have f0 := HV7.out.free 0; have f1 := HV7.out.free 1; have f2 := HV7.out.free 2; have f3 := HV7.out.free 3; have f4 := HV7.out.free 4; have f5 := HV7.out.free 5))
 have HV8 := sd (pu6_rb HV7.out (.int .i64 4) (.string (s.extract 8 12)) (.string ⟨#[]⟩) (.float .f64 0) (.int .i64 ix2) (.slice none 0 0)); have HK8 := sd (pu6_far HK7.out (show kb ≠ kb + 1 by omega) (.int .i64 4) (.string (s.extract 8 12)) (.string ⟨#[]⟩) (.float .f64 0) (.int .i64 ix2) (.slice none 0 0)); have HA8 := sd (pu6_far HA7.out (show n ≠ kb + 1 by have := HLT.out; omega) (.int .i64 4) (.string (s.extract 8 12)) (.string ⟨#[]⟩) (.float .f64 0) (.int .i64 ix2) (.slice none 0 0)); have HB8 := sd (pu6_below HB7.out (show n ≤ kb + 1 by have := HLT.out; omega) (.int .i64 4) (.string (s.extract 8 12)) (.string ⟨#[]⟩) (.float .f64 0) (.int .i64 ix2) (.slice none 0 0)); clear p0 p1 p2' p3' p4' p5' f0 f1 f2 f3 f4 f5 HK7 HA7 HV7 HB7
 change Code.wp _ _ _ _ (pu6 w7 (kb + 1) (.int .i64 4) (.string (s.extract 8 12)) (.string ⟨#[]⟩) (.float .f64 0) (.int .i64 ix2) (.slice none 0 0))
 generalize pu6 w7 (kb + 1) (.int .i64 4) (.string (s.extract 8 12)) (.string ⟨#[]⟩) (.float .f64 0) (.int .i64 ix2) (.slice none 0 0) = w8 at *; obtain ⟨a0, a1, a2, a3, a4, a5⟩ := HA8.out.cells; have f4 := HV8.out.free 4; have a44 := HV8.out.cells.2.2.2.2.1; go_upto_region 46 with (fail)
 have HV9 := sd (HV8.out.set4 (.int .i64 8)); have HK9 := sd (HK8.out.far (p := ⟨kb + 1, 4, none⟩) (show kb ≠ kb + 1 by omega) (.int .i64 8)); have HB9 := sd (bset HB8.out (kb + 1) 4 (show n ≤ kb + 1 by have := HLT.out; omega) (.int .i64 8)); clear HV8 HK8 HB8 HA8 a0 a1 a2 a3 a4 a5 f4 a44; generalize w8.setCell ⟨kb + 1, 4, none⟩ (.int .i64 8) = w9 at *; have HD9 := sd (show w9.heap[db]? = some (.cells #[.bool x] 4 (0, 0)) from (HB9.out.block db HDL.out).trans HD.out); obtain ⟨k0, k1, k2, k3, k4, k5⟩ := HK9.out.cells; obtain ⟨a0, a1, a2, a3, a4, a5⟩ := HV9.out.cells; go_upto_region 47 with (first | (go_at_call 38; (with_reducible refine (sw_calls st (s.extract 8 12) ⟨#[]⟩ 0 0 1 8 db x _ HD9.out).mono ?_); rintro e0 w10 ⟨rfl, hd10, hk10⟩; have HE := sd (And.intro hd10 hk10); clear hd10 hk10))
 clear k0 k1 k2 k3 k4 k5 a0 a1 a2 a3 a4 a5; go_wp2; rw [rounds_succ]; go_wp2; go_end0; exact ⟨rfl, HE.out.1, (Ks.of_below (by rw [hn]; exact HB9.out) _).then_ HE.out.2⟩
end Go.Proofs.YtdacgdjjdifneaaGreatDoor.PFnGjFlattenOften
