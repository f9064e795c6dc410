/- Part of the proof of the card in text ZF. -/
import Derived.Test.YtdacgdjjdifneaaGreatDoorZR
import Derived.Test.YtdacgdjjdifneaaGreatDoorZS
import Derived.Test.YtdacgdjjdifneaaGreatDoorZA
import Derived.Test.YtdacgdjjdifneaaGreatDoorZI
import Derived.WalkLawsBesides
import Derived.Deep.CutBlock
import Derived.Outline
set_option linter.all false
set_option maxHeartbeats 16000000
set_option maxRecDepth 100000
namespace Go.Proofs.YtdacgdjjdifneaaGreatDoor.PFnGjFlattenOften
open Go.RowKit Go.Proofs.YtdacgdjjdifneaaGreatDoorW.PrintWords Go.Proofs.YtdacgdjjdifneaaGreatDoorW.PrintLast Go.Proofs.YtdacgdjjdifneaaGreatDoorW.PrintMore
structure PW (W : World) : Prop where
 vt : VT W
 ft : FT W
 ev : EvW W
theorem PW.keep {w W : World} (h : PW w) (hb : Below w.heap.size w W) : PW W := ⟨h.vt.keep hb, h.ft.keep hb, h.ev.keep hb⟩
theorem raw_is {s : ByteArray} {i : Nat} {e q : List Int} (hd : (bytesOf s).drop i = e ++ q) : bytesOf (s.extract i (i + e.length)) = e := by
 rw [bytesOf_extract, List.drop_take, hd, Nat.add_sub_cancel_left, List.take_left]
theorem bt_mem {s : ByteArray} {i : Nat} (h : i < s.size) : bt s (i : Int) ∈ bytesOf s := by
 have hl : i < (bytesOf s).length := by rw [bytesOf_length]; exact h
 have h1 : (bytesOf s).drop i = (bytesOf s)[i] :: (bytesOf s).drop (i + 1) := List.drop_eq_getElem_cons hl; rw [bt_drop h1]; exact List.getElem_mem hl
def TyOk (ty : Int) (e : List Int) : Prop := (ty = 5 ∧ ∃ c r, e = c :: r ∧ (c = 91 ∨ c = 123)) ∨ (ty ≠ 5 ∧ NotA e)
def AnyP (s : ByteArray) (i : Nat) (e : List Int) (w : World) (x : Ending) (w' : World) : Prop := (∃ (ty : Int) (raw str : ByteArray) (num : Nat) (ix : Int), x = .returned (.tuple #[.int .i64 ((i + e.length : Nat) : Int), RV ty raw str num ix, .bool true]) ∧ bytesOf raw = e ∧ TyOk ty e) ∧ Below w.heap.size w w'
theorem hdc {s : ByteArray} {i : Nat} {c : Int} {r : List Int} (hd : (bytesOf s).drop i = c :: r) : i < s.size ∧ bt s (i : Int) = c := ⟨sz_lt hd, bt_drop hd⟩
theorem pa_any (hU : UnC) (s : ByteArray) (hs : s.size ≤ 65536) (i : Nat) (e q : List Int) (j : J) (hd : (bytesOf s).drop i = e ++ q) (hV : V e j) (hq : Hq q) (w : World) (hW : PW w) :
  Calls Tryz.prog 54 #[.string s, .int .i64 (i : Int), .bool true] w (AnyP s i e w) := by
 have hraw := raw_is hd; have hrsz : (s.extract i (i + e.length)).size ≤ 65536 := by rw [ByteArray.size_extract]; omega
 have json : (∃ r, e = 91 :: r) ∨ (∃ r, e = 123 :: r) → Calls Tryz.prog 54 #[.string s, .int .i64 (i : Int), .bool true] w (AnyP s i e w) := by
  intro hc; have hcq := cq_of hV hc (bytesOf s) q i hd; obtain ⟨c, r, he, hc2⟩ : ∃ c r, e = c :: r ∧ (c = 91 ∨ c = 123) := by
   rcases hc with ⟨r, rfl⟩ | ⟨r, rfl⟩
   ·exact ⟨91, r, rfl, .inl rfl⟩
   ·exact ⟨123, r, rfl, .inr rfl⟩
  have hd' : (bytesOf s).drop i = c :: (r ++ q) := by rw [hd, he]; rfl
  obtain ⟨h1, h2⟩ := hdc hd'; refine (pa_json s hs i (i + e.length) c h1 h2 hc2 hcq w hW.vt).mono fun x w' ⟨⟨ix, hx⟩, hb⟩ => ⟨⟨5, _, _, _, ix, hx, hraw, .inl ⟨rfl, c, r, he, hc2⟩⟩, hb⟩
 cases hV with
 | atom l h =>
  rcases h with rfl | rfl | rfl | h
  ·have hd' : (bytesOf s).drop i = 110 :: ([117, 108, 108] ++ q) := hd; obtain ⟨h1, h2⟩ := hdc hd'; have hd2 : (bytesOf s).drop (i + 1) = 117 :: ([108, 108] ++ q) := drop_next hd'; obtain ⟨h3, h4⟩ := hdc hd2; have hf := lit_f s hs hd' (by intro c hc; simp at hc; omega) hq; refine (pa_n s hs i (i + 4) _ h1 h2 (i + 1) rfl h3 h4 _ hf w).mono fun x w' ⟨⟨ix, hx⟩, hb⟩ => ⟨⟨0, _, _, _, ix, hx, hraw, .inr ⟨by decide, fun r e => by simp at e⟩⟩, hb⟩
  ·have hd' : (bytesOf s).drop i = 102 :: ([97, 108, 115, 101] ++ q) := hd; obtain ⟨h1, h2⟩ := hdc hd'; have hf := lit_f s hs hd' (by intro c hc; simp at hc; omega) hq; refine (pa_f s hs i (i + 5) _ h1 h2 _ hf w).mono fun x w' ⟨⟨ix, hx⟩, hb⟩ => ⟨⟨1, _, _, _, ix, hx, hraw, .inr ⟨by decide, fun r e => by simp at e⟩⟩, hb⟩
  ·have hd' : (bytesOf s).drop i = 116 :: ([114, 117, 101] ++ q) := hd; obtain ⟨h1, h2⟩ := hdc hd'; have hf := lit_f s hs hd' (by intro c hc; simp at hc; omega) hq; refine (pa_t s hs i (i + 4) _ h1 h2 _ hf w).mono fun x w' ⟨⟨ix, hx⟩, hb⟩ => ⟨⟨4, _, _, _, ix, hx, hraw, .inr ⟨by decide, fun r e => by simp at e⟩⟩, hb⟩
  ·obtain ⟨hall, c, r, rfl, hc⟩ := h.c; have hd' : (bytesOf s).drop i = c :: (r ++ q) := hd; obtain ⟨h1, h2⟩ := hdc hd'; have hf := num_f s hs hd' (fun x hx => by have := hall x (List.mem_cons_of_mem _ hx); unfold NumC at this; unfold NumS; omega) hq; refine (pa_num s hs i (i + (c :: r).length) _ c h1 h2 (by omega) _ hf hrsz (fun k hk => ?_) w hW.ft hW.ev).mono fun x w' ⟨⟨num, ix, hx⟩, hb⟩ => ⟨⟨2, _, _, num, ix, hx, hraw, .inr ⟨by decide, fun r' e => ?_⟩⟩, hb⟩
   ·have := bt_mem hk; rw [hraw] at this; exact hall _ this
   ·injection e with e1 _; omega
 | str x hx =>
  have hd' : (bytesOf s).drop i = 34 :: (x ++ 34 :: q) := by rw [hd]; simp
  obtain ⟨h1, h2⟩ := hdc hd'; have hlen : (34 :: (x ++ [34])).length = x.length + 2 := by simp
  obtain ⟨K, v, hf⟩ := str_f s hs hx hd'; rw [← hlen] at hf; have hsz : (s.extract i (i + (34 :: (x ++ [34])).length)).size = x.length + 1 + 1 := by rw [← bytesOf_length, hraw]; simp
  have hno : NotA (34 :: (x ++ [34])) := fun r e => by simp at e
  cases v with
  | true => exact (pa_str_true hU s hs i (i + 1) _ _ h1 rfl h2 K hf hrsz (x.length + 1) hsz (by omega) w hW.ev).mono fun x w' ⟨⟨str, ix, hx⟩, hb⟩ => ⟨⟨3, _, str, _, ix, hx, hraw, .inr ⟨by decide, hno⟩⟩, hb⟩
  | false => exact (pa_str_false hU s hs i (i + 1) _ _ h1 rfl h2 K hf hrsz (x.length + 1) hsz (by omega) w hW.ev).mono fun x w' ⟨⟨str, ix, hx⟩, hb⟩ => ⟨⟨3, _, str, _, ix, hx, hraw, .inr ⟨by decide, hno⟩⟩, hb⟩
 | arr0 w1 hw => exact json (.inl ⟨_, rfl⟩)
 | arr w1 l ks hw h => exact json (.inl ⟨_, rfl⟩)
 | obj0 w1 hw => exact json (.inr ⟨_, rfl⟩)
 | obj w1 l ms hw h => exact json (.inr ⟨_, rfl⟩)
structure Ks (w W : World) (O : Nat → Prop) : Prop where
 kept : Kept w W O
 env : Env w W
section
variable {w W W2 : World} {O : Nat → Prop}
theorem Ks.refl (w : World) (O : Nat → Prop) : Ks w w O := ⟨Kept.refl w O, Env.refl w⟩
theorem Ks.of_below (h : Below w.heap.size w W) (O : Nat → Prop) : Ks w W O := ⟨Kept.of_below h O, Env.of_below h⟩
theorem Ks.set (h : Ks w W O) (b o : Nat) (hb : O b) (u : Value) : Ks w (W.setCell ⟨b, o, none⟩ u) O := ⟨h.kept.setCell (p := ⟨b, o, none⟩) (.inl hb) u, h.env⟩
theorem Ks.then_ (h : Ks w W O) (k : Ks W W2 O) : Ks w W2 O := ⟨h.kept.then_ k.kept (fun _ h => .inl h), h.env.then_ k.env⟩
theorem Ks.blk {g : Nat} {o : Obj} (hk : Ks w W O) (hb : w.heap[g]? = some o) (hne : ¬ O g) : W.heap[g]? = some o := (hk.kept.2 g (blk_lt hb) hne).trans hb
end
open Ieee in
theorem fn_add {x : Nat} (h : FN x) : ∃ r, floatBits .add .f64 x 4607182418800017408 = some r ∧ FN r := by
 show ∃ r, double.add x 4607182418800017408 = some r ∧ FN r
 obtain ⟨s1, m1, i1, h1⟩ : ∃ s m i, double.read 4607182418800017408 = .number s m i := ⟨false, 4503599627370496, -52, by rfl⟩
 unfold Format.add; rw [h1]
 rcases fn_read h with ⟨s, m, i, hx⟩ | ⟨s, hx⟩
 ·rw [hx]; exact ⟨_, rfl, fn_nearest _ _ _⟩
 ·rw [hx]; exact ⟨_, rfl, fn_inf _⟩
abbrev fnV (f : Nat) (p2 p3 p4 p5 : Addr) : Value := .func (.func f) #[] #[.pointer (some p2), .pointer (some p3), .pointer (some p4), .pointer (some p5)]
structure ItP (w : World) (es : List (List Int)) (f : Nat) (p2 p3 p4 p5 : Addr) (I : (Nat → Prop) → Nat → World → Prop) : Prop where
 init : ∀ (O : Nat → Prop) W, (∀ k, O k → w.heap.size ≤ k) → Below w.heap.size w W → I O 0 W
 stab : ∀ (O : Nat → Prop) m W W', I O m W → Ks W W' O → I O m W'
 pw : ∀ (O : Nat → Prop) m W, I O m W → PW W
 step : ∀ (O : Nat → Prop) m W (e : List Int) (kf : Nat) (ty : Int) (raw str : ByteArray) (num : Nat) (ix : Int), es[m]? = some e → I O m W → (∀ k, O k → k < W.heap.size) → bytesOf raw = e → TyOk ty e →
  Calls Tryz.prog f #[RV 2 ⟨#[]⟩ ⟨#[]⟩ kf 0, RV ty raw str num ix, .pointer (some p2), .pointer (some p3), .pointer (some p4), .pointer (some p5)] W fun x W' => x = .returned (.bool true) ∧ I O (m + 1) W' ∧ (∀ k, O k → W'.heap[k]? = W.heap[k]?) ∧ W.heap.size ≤ W'.heap.size
theorem RB.same {W W' : World} {b : Nat} {v0 v1 v2 v3 v4 v5 : Value} (h : RB W b v0 v1 v2 v3 v4 v5) (e : W'.heap[b]? = W.heap[b]?) : RB W' b v0 v1 v2 v3 v4 v5 := ⟨by rw [e]; exact h.h⟩
theorem exists_c (raw str : ByteArray) (num : Nat) (ix : Int) (w : World) : Calls Tryz.prog 51 #[RV 5 raw str num ix] w fun e w' => e = .returned (.bool true) ∧ Below w.heap.size w w' := by
 go_enter Tryz.func51, Tryz.ntmps51; go_wp2; go_ret; exact ⟨rfl, below_alloc (Below.refl _ _) _⟩
theorem pa_any' (hU : UnC) (s : ByteArray) (hs : s.size ≤ 65536) (i jn : Nat) (e q : List Int) (j : J) (hd : (bytesOf s).drop i = e ++ q) (hV : V e j) (hq : Hq q) (hj : jn = i + e.length) (w : World) (hW : PW w) :
  Calls Tryz.prog 54 #[.string s, .int .i64 (i : Int), .bool true] w fun x w' => (∃ (ty : Int) (raw str : ByteArray) (num : Nat) (ix : Int), x = .returned (.tuple #[.int .i64 (jn : Int), RV ty raw str num ix, .bool true]) ∧ bytesOf raw = e ∧ TyOk ty e) ∧ Below w.heap.size w w' := by
 subst hj; exact pa_any hU s hs i e q j hd hV hq w hW
def pu6 (W : World) (b : Nat) (v0 v1 v2 v3 v4 v5 : Value) : World := (((((W.setCell ⟨b, 0, none⟩ v0).setCell ⟨b, 1, none⟩ v1).setCell ⟨b, 2, none⟩ v2).setCell ⟨b, 3, none⟩ v3).setCell ⟨b, 4, none⟩ v4).setCell ⟨b, 5, none⟩ v5
theorem pu6_rb {W : World} {b : Nat} {u0 u1 u2 u3 u4 u5 : Value} (h : RB W b u0 u1 u2 u3 u4 u5) (v0 v1 v2 v3 v4 v5 : Value) : RB (pu6 W b v0 v1 v2 v3 v4 v5) b v0 v1 v2 v3 v4 v5 := (((((h.set0 v0).set1 v1).set2 v2).set3 v3).set4 v4).set5 v5
theorem pu6_far {W : World} {b g : Nat} {u0 u1 u2 u3 u4 u5 : Value} (h : RB W g u0 u1 u2 u3 u4 u5) (hg : g ≠ b) (v0 v1 v2 v3 v4 v5 : Value) : RB (pu6 W b v0 v1 v2 v3 v4 v5) g u0 u1 u2 u3 u4 u5 := (((((h.far (p := ⟨b, 0, none⟩) hg v0).far (p := ⟨b, 1, none⟩) hg v1).far (p := ⟨b, 2, none⟩) hg v2).far (p := ⟨b, 3, none⟩) hg v3).far (p := ⟨b, 4, none⟩) hg v4).far (p := ⟨b, 5, none⟩) hg v5
theorem pu6_ks {w W : World} {b : Nat} {O : Nat → Prop} (h : Ks w W O) (hb : O b) (v0 v1 v2 v3 v4 v5 : Value) : Ks w (pu6 W b v0 v1 v2 v3 v4 v5) O := (((((h.set b 0 hb v0).set b 1 hb v1).set b 2 hb v2).set b 3 hb v3).set b 4 hb v4).set b 5 hb v5
theorem pu6_below {n : Nat} {w W : World} (h : Below n w W) {b : Nat} (hb : n ≤ b) (v0 v1 v2 v3 v4 v5 : Value) : Below n w (pu6 W b v0 v1 v2 v3 v4 v5) := bset (bset (bset (bset (bset (bset h b 0 hb v0) b 1 hb v1) b 2 hb v2) b 3 hb v3) b 4 hb v4) b 5 hb v5
theorem v_head {e : List Int} {j : J} (h : V e j) : ∃ c r, e = c :: r ∧ 32 < c ∧ c ≠ 44 ∧ c ≠ 58 := by
 cases h with
 | atom l h =>
  rcases h with rfl | rfl | rfl | h
  ·exact ⟨_, _, rfl, by omega, by omega, by omega⟩
  ·exact ⟨_, _, rfl, by omega, by omega, by omega⟩
  ·exact ⟨_, _, rfl, by omega, by omega, by omega⟩
  ·obtain ⟨_, c, r, rfl, hc⟩ := h.c; exact ⟨c, r, rfl, by omega, by omega, by omega⟩
 | str s hs => exact ⟨_, _, rfl, by omega, by omega, by omega⟩
 | arr0 w hw => exact ⟨_, _, rfl, by omega, by omega, by omega⟩
 | arr w l ks hw h => exact ⟨_, _, rfl, by omega, by omega, by omega⟩
 | obj0 w hw => exact ⟨_, _, rfl, by omega, by omega, by omega⟩
 | obj w l ms hw h => exact ⟨_, _, rfl, by omega, by omega, by omega⟩
structure Ahead (l : List Int) (j : Nat) (es : List (List Int)) (w : List Int) (c : Int) (r : List Int) : Prop where
 at_ : l.drop j = w ++ c :: r
 skip : ∀ x ∈ w, Skp x
 stop : 32 < c ∧ c ≠ 44 ∧ c ≠ 58
 case : (es = [] ∧ c = 93 ∧ r = []) ∨ ∃ e q jj es', es = e :: es' ∧ c :: r = e ++ q ∧ V e jj ∧ Hq q ∧ Rest l (j + w.length + e.length + 1) es'
theorem ahead {l : List Int} {j : Nat} {es : List (List Int)} (h : Rest l j es) (hj : j < l.length) : ∃ w c r, Ahead l j es w c r := by
 cases h with
 | fin _ w hd hw => exact ⟨w, 93, [], hd, hw, by omega, .inl ⟨rfl, rfl, rfl⟩⟩
 | over _ h => omega
 | more _ w e q jj es' hd hw hv hq hr =>
  obtain ⟨c, r, rfl, h1⟩ := v_head hv; exact ⟨w, c, r ++ q, hd, hw, h1, .inr ⟨c :: r, q, jj, es', rfl, rfl, hv, hq, hr⟩⟩
theorem over_done {l : List Int} {j : Nat} {es : List (List Int)} (h : Rest l j es) (hj : ¬ j < l.length) : es = [] := by
 cases h with
 | fin _ w hd hw => rfl
 | over _ h => rfl
 | more _ w e q jj es' hd hw hv hq hr =>
  have h0 : l.drop j = [] := List.drop_eq_nil_iff.mpr (by omega); rw [h0] at hd; have := (List.append_eq_nil_iff.mp (List.append_eq_nil_iff.mp hd.symm).2).1; exact absurd this (v_ne hv)
end Go.Proofs.YtdacgdjjdifneaaGreatDoor.PFnGjFlattenOften
namespace Go.Proofs.YtdacgdjjdifneaaGreatDoor.PFnGjFlattenOften
open Go.RowKit Go.Proofs.YtdacgdjjdifneaaGreatDoorW.PrintWords Go.Proofs.YtdacgdjjdifneaaGreatDoorW.PrintLast Go.Proofs.YtdacgdjjdifneaaGreatDoorW.PrintMore
attribute [local go_sem] max2_int min2_int max_two min_two max_three min_three max_four min_four store_float
structure FeS (s str : ByteArray) (num : Nat) (ix : Int) (n kb : Nat) (es : List (List Int)) (I : (Nat → Prop) → Nat → World → Prop) (O : Nat → Prop) (j m : Nat) (W : World) : Prop where
 rest : Rest (bytesOf s) j (es.drop m)
 ml : m ≤ es.length
 mj : m ≤ j
 a : RB W n (.int .i64 5) (.string s) (.string str) (.float .f64 num) (.int .i64 ix) (.slice none 0 0)
 k : ∃ f : Nat, FN f ∧ RB W kb (.int .i64 2) (.string ⟨#[]⟩) (.string ⟨#[]⟩) (.float .f64 f) (.int .i64 0) (.slice none 0 0)
 v : ∃ v0 v1 v2 v3 v4 v5, RB W (kb + 1) v0 v1 v2 v3 v4 v5
 i : I O m W
theorem fn_m1 : FN 13830554455654793216 := by unfold FN; decide
section
variable {s str : ByteArray} {num : Nat} {ix : Int} {n kb : Nat} {es : List (List Int)} {w : World} {p2 p3 p4 p5 : Addr} {I : (Nat → Prop) → Nat → World → Prop} {j m : Nat} {W W2 : World}
abbrev Own (n kb : Nat) : Nat → Prop := fun k => k = n ∨ k = kb ∨ k = kb + 1
theorem FeS.below {O : Nat → Prop} (hI : ItP w es 41 p2 p3 p4 p5 I) (h : FeS s str num ix n kb es I O j m W) (hb : Below W.heap.size W W2) : FeS s str num ix n kb es I O j m W2 :=
 ⟨h.rest, h.ml, h.mj, h.a.below hb, by obtain ⟨f, h1, h2⟩ := h.k; exact ⟨f, h1, h2.below hb⟩, by obtain ⟨v0, v1, v2, v3, v4, v5, h1⟩ := h.v; exact ⟨v0, v1, v2, v3, v4, v5, h1.below hb⟩, hI.stab _ _ _ _ h.i (Ks.of_below hb _)⟩
theorem FeS.snum (hI : ItP w es 41 p2 p3 p4 p5 I) (hn : n < kb) (h : FeS s str num ix n kb es I (Own n kb) j m W) {r : Nat} (hr : FN r) : FeS s str num ix n kb es I (Own n kb) j m (W.setCell ⟨kb, 3, none⟩ (.float .f64 r)) :=
 ⟨h.rest, h.ml, h.mj, h.a.far (p := ⟨kb, 3, none⟩) (Nat.ne_of_lt hn) _, by obtain ⟨f, h1, h2⟩ := h.k; exact ⟨r, hr, h2.set3 _⟩, by obtain ⟨v0, v1, v2, v3, v4, v5, h1⟩ := h.v; exact ⟨v0, v1, v2, v3, v4, v5, h1.far (p := ⟨kb, 3, none⟩) (Nat.succ_ne_self kb) _⟩, hI.stab _ _ _ _ h.i ((Ks.refl W _).set kb 3 (.inr (.inl rfl)) _)⟩
theorem FeS.val (hI : ItP w es 41 p2 p3 p4 p5 I) (hn : n < kb) (h : FeS s str num ix n kb es I (Own n kb) j m W) (u0 u1 u2 u3 u4 u5 : Value) : FeS s str num ix n kb es I (Own n kb) j m (pu6 W (kb + 1) u0 u1 u2 u3 u4 u5) ∧ RB (pu6 W (kb + 1) u0 u1 u2 u3 u4 u5) (kb + 1) u0 u1 u2 u3 u4 u5 := by
 obtain ⟨v0, v1, v2, v3, v4, v5, h1⟩ := h.v; have h2 := pu6_rb h1 u0 u1 u2 u3 u4 u5; exact ⟨⟨h.rest, h.ml, h.mj, pu6_far h.a (by omega) _ _ _ _ _ _, by obtain ⟨f, h1, h2⟩ := h.k; exact ⟨f, h1, pu6_far h2 (by omega) _ _ _ _ _ _⟩, ⟨_, _, _, _, _, _, h2⟩, hI.stab _ _ _ _ h.i (pu6_ks (Ks.refl W _) (.inr (.inr rfl)) _ _ _ _ _ _)⟩, h2⟩
theorem FeS.ix4 (hI : ItP w es 41 p2 p3 p4 p5 I) (hn : n < kb) (h : FeS s str num ix n kb es I (Own n kb) j m W) {v0 v1 v2 v3 v4 v5 : Value} (h1 : RB W (kb + 1) v0 v1 v2 v3 v4 v5) (u : Value) : FeS s str num ix n kb es I (Own n kb) j m (W.setCell ⟨kb + 1, 4, none⟩ u) ∧ RB (W.setCell ⟨kb + 1, 4, none⟩ u) (kb + 1) v0 v1 v2 v3 u v5 := by
 have h2 := h1.set4 u; exact ⟨⟨h.rest, h.ml, h.mj, h.a.far (p := ⟨kb + 1, 4, none⟩) (by show n ≠ kb + 1; omega) _, by obtain ⟨f, h1, h2⟩ := h.k; exact ⟨f, h1, h2.far (p := ⟨kb + 1, 4, none⟩) (by show kb ≠ kb + 1; omega) _⟩, ⟨_, _, _, _, _, _, h2⟩, hI.stab _ _ _ _ h.i ((Ks.refl W _).set (kb + 1) 4 (.inr (.inr rfl)) _)⟩, h2⟩
theorem FeS.next {e : List Int} {es' : List (List Int)} {j' : Nat} (h : FeS s str num ix n kb es I (Own n kb) j m W) (he : es.drop m = e :: es') (hr : Rest (bytesOf s) j' es') (hj : j < j') (hi : I (Own n kb) (m + 1) W2) (hs : ∀ k, Own n kb k → W2.heap[k]? = W.heap[k]?) : FeS s str num ix n kb es I (Own n kb) j' (m + 1) W2 :=
 ⟨by rw [drop_next he]; exact hr, drop_lt he, by have := h.mj; omega, h.a.same (hs _ (.inl rfl)), by obtain ⟨f, h1, h2⟩ := h.k; exact ⟨f, h1, h2.same (hs _ (.inr (.inl rfl)))⟩, by obtain ⟨v0, v1, v2, v3, v4, v5, h1⟩ := h.v; exact ⟨v0, v1, v2, v3, v4, v5, h1.same (hs _ (.inr (.inr rfl)))⟩, hi⟩
theorem FeS.own {O : Nat → Prop} (h : FeS s str num ix n kb es I O j m W) : ∀ k, Own n kb k → k < W.heap.size := fun k hk => by
 obtain ⟨f, h1, h2⟩ := h.k; obtain ⟨v0, v1, v2, v3, v4, v5, h3⟩ := h.v
 rcases hk with rfl | rfl | rfl
 ·exact h.a.lt
 ·exact h2.lt
 ·exact h3.lt
theorem get_drop {e : List Int} {es' : List (List Int)} (he : es.drop m = e :: es') : es[m]? = some e := by
 have hl := drop_lt he; rw [List.drop_eq_getElem_cons hl] at he; injection he with h1 h2
 rw [List.getElem?_eq_getElem hl, h1]
end
theorem own_k (n kb : Nat) : (fun k => k = n ∨ k = kb ∨ k = kb + 1) kb := .inr (.inl rfl)
theorem fe_arr (hU : UnC) (s : ByteArray) (hs : s.size ≤ 65536) (h0 : 0 < s.size) (hc : bt s 0 = 91) (es : List (List Int)) (hR : Rest (bytesOf s) 1 es) (str : ByteArray) (num : Nat) (ix : Int) (w : World) (p2 p3 p4 p5 : Addr) (I : (Nat → Prop) → Nat → World → Prop) (hI : ItP w es 41 p2 p3 p4 p5 I) :
  Calls Tryz.prog 37 #[RV 5 s str num ix, fnV 41 p2 p3 p4 p5] w fun e w' => e = .returned (.tuple #[]) ∧ ∃ O : Nat → Prop, (∀ k, O k → w.heap.size ≤ k) ∧ I O es.length w' := by
 have hI2 : ∀ n kb, w.heap.size = n → n < kb → ∀ {W : World}, Below n w W → I (fun k => k = n ∨ k = kb ∨ k = kb + 1) 0 W := fun n kb e h W hb => hI.init _ _ (fun k hk => by rw [e]; rcases hk with rfl | rfl | rfl <;> omega) (by rw [e]; exact hb); have HS := sd hs; have HU := sd hU; have HR := sd hR; have HI := sd hI; obtain ⟨x1, x2, x3, x4, x5, x6, x7, x8, x9, x10⟩ := str_facts h0 hs; rw [show ((0 : Nat) : Int) = 0 from rfl] at x1 x3 x4 x6 x7 x8 x10; rw [hc] at x10; clear x6 x8 x9 hs hU hR hI h0; go_enter Tryz.func37, Tryz.ntmps37; go_upto_region 7 with (first | (go_at_call 51; (with_reducible refine (exists_c s str num ix _).mono ?_); rintro e0 w2 ⟨rfl, hb⟩; have HB := sd hb; clear hb; have HT := sd ((RB.new w (.int .i64 5) (.string s) (.string str) (.float .f64 num) (.int .i64 ix) (.slice none 0 0)).below HB.out); obtain ⟨p0, p1, p2', p3', p4', p5'⟩ := HT.out.cells))
 clear p0 p1 p2' p3' p4' p5'; have HB0 := sd (below_step (below_alloc (Below.refl w.heap.size w) _) HB.out); have HLT := sd HT.out.lt; go_upto_region 8 with (fail)
 have HA := sd ((HT.out.alloc (.cells #[.int .i64 0, .string ⟨#[]⟩, .string ⟨#[]⟩, .float .f64 0, .int .i64 0, .slice none 0 0] 64)).alloc (.cells #[.int .i64 0, .string ⟨#[]⟩, .string ⟨#[]⟩, .float .f64 0, .int .i64 0, .slice none 0 0] 64)); have HK := sd ((RB.new w2 (.int .i64 0) (.string ⟨#[]⟩) (.string ⟨#[]⟩) (.float .f64 0) (.int .i64 0) (.slice none 0 0)).alloc (.cells #[.int .i64 0, .string ⟨#[]⟩, .string ⟨#[]⟩, .float .f64 0, .int .i64 0, .slice none 0 0] 64)); have HV := sd (RB.new (w2.alloc (.cells #[.int .i64 0, .string ⟨#[]⟩, .string ⟨#[]⟩, .float .f64 0, .int .i64 0, .slice none 0 0] 64)) (.int .i64 0) (.string ⟨#[]⟩) (.string ⟨#[]⟩) (.float .f64 0) (.int .i64 0) (.slice none 0 0)); rw [World.size_alloc] at HV
 have HB1 := sd (below_alloc (below_alloc HB0.out (.cells #[.int .i64 0, .string ⟨#[]⟩, .string ⟨#[]⟩, .float .f64 0, .int .i64 0, .slice none 0 0] 64)) (.cells #[.int .i64 0, .string ⟨#[]⟩, .string ⟨#[]⟩, .float .f64 0, .int .i64 0, .slice none 0 0] 64)); clear HB HB0 HT; generalize hn : w.heap.size = n at *; generalize w2.heap.size = kb at *; generalize (w2.alloc (.cells #[.int .i64 0, .string ⟨#[]⟩, .string ⟨#[]⟩, .float .f64 0, .int .i64 0, .slice none 0 0] 64)).alloc (.cells #[.int .i64 0, .string ⟨#[]⟩, .string ⟨#[]⟩, .float .f64 0, .int .i64 0, .slice none 0 0] 64) = w3 at *; have HO := sd (hI2 n kb rfl HLT.out HB1.out); obtain ⟨k0, k1, k2, k3, k4, k5⟩ := HK.out.cells; have f0 := HK.out.free 0; have f3 := HK.out.free 3; refine wp_loop_rounds 1 ?_; rw [rounds_succ]; go_upto_region 19 with (fail)
 have HK2 := sd ((HK.out.set0 (.int .i64 2)).set3 (.float .f64 13830554455654793216)); have HA2 := sd ((HA.out.far (p := ⟨kb, 0, none⟩) (Nat.ne_of_lt HLT.out) (.int .i64 2)).far (p := ⟨kb, 3, none⟩) (Nat.ne_of_lt HLT.out) (.float .f64 13830554455654793216)); have HV2 := sd ((HV.out.far (p := ⟨kb, 0, none⟩) (Nat.succ_ne_self kb) (.int .i64 2)).far (p := ⟨kb, 3, none⟩) (Nat.succ_ne_self kb) (.float .f64 13830554455654793216)); have HI2 := sd (HI.out.stab _ _ _ _ HO.out (((Ks.refl w3 _).set kb 0 (own_k n kb) (.int .i64 2)).set kb 3 (own_k n kb) (.float .f64 13830554455654793216))); have HB2 := sd (bset (bset HB1.out kb 0 (Nat.le_of_lt HLT.out) (.int .i64 2)) kb 3 (Nat.le_of_lt HLT.out) (.float .f64 13830554455654793216)); clear HK HA HV HO HB1 k0 k1 k2 k3 k4 k5 f0 f3; generalize (w3.setCell ⟨kb, 0, none⟩ (.int .i64 2)).setCell ⟨kb, 3, none⟩ (.float .f64 13830554455654793216) = w4 at *
 have HF := sd (show FeS s str num ix n kb es I (fun k => k = n ∨ k = kb ∨ k = kb + 1) 1 0 w4 from ⟨HR.out, Nat.zero_le _, Nat.zero_le _, HA2.out, ⟨_, fn_m1, HK2.out⟩, ⟨_, _, _, _, _, _, HV2.out⟩, HI2.out⟩); clear HR HA2 HK2 HV2 HI2 HB2 x1 x2 x3 x4 x5 x7 x10; clear hI2; go_upto_region 23 with (fail)
 go_loopw [6, 12] (fun x y wr => ∃ (j m : Nat), x = .int .i64 (j : Int) ∧ y = .int .i64 (m : Int) ∧ Aside0 (FeS s str num ix n kb es I (fun k => k = n ∨ k = kb ∨ k = kb + 1) j m wr)) (fun x _ _ => s.size - (intOf x).toNat)
 case atStart => exact ⟨1, 0, rfl, rfl, HF⟩
 case round =>
  clear HF; obtain ⟨j, m, rfl, rfl, HF⟩ := hrel
  by_cases hj : j < s.size
  rotate_left
  ·skip
   obtain ⟨z1, z2, _, _⟩ := str_end hj; have HD := sd (show es.length = m from by
    have h1 := over_done HF.out.rest (by rw [bytesOf_length]; exact hj); have h2 := HF.out.ml; have := List.drop_eq_nil_iff.mp h1; omega)
   clear hj; go_wp2; go_end0; exact ⟨rfl, fun k => k = n ∨ k = kb ∨ k = kb + 1, fun k hk => by rw [hn]; have := HLT.out; rcases hk with rfl | rfl | rfl <;> omega, by rw [HD.out]; exact HF.out.i⟩
  ·have HJ := sd hj; obtain ⟨x1, x2, x3, x4, x5, x6, x7, x8, x9, x10⟩ := str_facts hj HS.out; clear x6 x8 x9 x10 hj; obtain ⟨f, hfn, hk⟩ := HF.out.k; obtain ⟨r, hr, hrn⟩ := fn_add hfn; have hq := fun W => run_float_arith (P := Tryz.prog) W .add 61 .f64 _ _ _ hr; have HN := sd hrn; clear hr hrn hfn; have HK := sd hk; clear hk; have k3 := HK.out.cells.2.2.2.1; have f3 := HK.out.free 3; go_upto_region 36 with (fail)
   have HF5 := sd (HF.out.snum HI.out HLT.out HN.out); clear HF HK k3 f3 hq HN; generalize wr.setCell ⟨kb, 3, none⟩ (.float .f64 r) = w5 at *; obtain ⟨wl, c, rl, hah⟩ := ahead HF5.out.rest (by rw [bytesOf_length]; exact HJ.out); have HAH := sd hah; clear hah x1 x2 x3 x4 x5 x7; go_loopw [6] (fun x wr2 => ∃ (j2 : Nat) (w2 : List Int), x = .int .i64 (j2 : Int) ∧ Aside0 ((bytesOf s).drop j2 = w2 ++ c :: rl ∧ (∀ x ∈ w2, Skp x) ∧ j2 + w2.length = j + wl.length) ∧ wr2 = w5) (fun x _ => s.size - (intOf x).toNat)
   case atStart => exact ⟨j, wl, rfl, ⟨HAH.out.at_, HAH.out.skip, rfl⟩, rfl⟩
   case round =>
    obtain ⟨j2, w2, rfl, HW, rfl⟩ := hrel; have hcc : (bytesOf s).drop j2 = w2 ++ c :: rl := HW.out.1
    cases w2 with
    | cons d w2 =>
     have hd := hdc hcc; have HDS := sd hd.1; obtain ⟨x1, x2, x3, x4, x5, x6, x7, x8, x9, x10⟩ := str_facts hd.1 HS.out; rw [hd.2] at x10; have hsk := HW.out.2.1 d List.mem_cons_self; obtain ⟨j3, hj3⟩ : ∃ j3, j3 = j2 + 1 := ⟨_, rfl⟩
     have HW2 := sd (show (bytesOf s).drop (j2 + 1) = w2 ++ c :: rl ∧ (∀ x ∈ w2, Skp x) ∧ j2 + 1 + w2.length = j + wl.length from ⟨drop_next hcc, fun x hx => HW.out.2.1 x (List.mem_cons_of_mem _ hx), by have := HW.out.2.2; simp at this; omega⟩); rw [← hj3] at x6 HW2; have HJ3 := sd hj3; clear x8 x9 hd hcc HW hj3
     rcases hsk with hb | rfl
     ·have y1 : decide (d ≤ 32) = true := decide_eq_true (by unfold Blk at hb; omega); clear hb; go_wp2; refine ⟨⟨j3, w2, by rw [x6], HW2, trivial⟩, ?_⟩; rw [x6]; simp only [intOf]; have := HDS.out; have := HJ3.out; omega
     ·skip
      go_wp2; refine ⟨⟨j3, w2, by rw [x6], HW2, trivial⟩, ?_⟩; rw [x6]; simp only [intOf]; have := HDS.out; have := HJ3.out; omega
    | nil =>
     have hcc : (bytesOf s).drop j2 = c :: rl := hcc; have hd := hdc hcc; have HDS := sd hd.1; have HCC := sd hcc; obtain ⟨x1, x2, x3, x4, x5, x6, x7, x8, x9, x10⟩ := str_facts hd.1 HS.out; rw [hd.2] at x10; have HBT := sd hd.2; have y1 : decide (c ≤ 32) = false := decide_eq_false (by have := HAH.out.stop; omega); have y2 : (c == 44) = false := nb _ _ HAH.out.stop.2.1; have y3 : (c == 58) = false := nb _ _ HAH.out.stop.2.2; have HJ2 := sd (show j2 = j + wl.length from by have := HW.out.2.2; simpa using this); clear x6 x8 x9 hd hcc HW
     rcases HAH.out.case with ⟨he, rfl, rfl⟩ | ⟨e, q, jj, es', he, hce, hv, hq, hrest⟩
     ·skip
      have hz : s.size = j2 + 1 := (sz_len HCC.out (by have := HDS.out; omega)).symm; have HZ := sd hz; have HE := sd (show es.length = m from by have h1 := List.drop_eq_nil_iff.mp he; have := HF5.out.ml; omega); clear he hz; go_upto_region 41 with (first | (go_at_call 54; (with_reducible refine (pa_end s HS.out j2 (j2 + 1) HDS.out rfl HZ.out HBT.out _).mono ?_); rintro e0 w6 ⟨⟨nn, rfl⟩, hb⟩; have HF6 := sd (HF5.out.below HI.out hb); clear hb HF5; obtain ⟨v0, v1, v2, v3, v4, v5, hv⟩ := HF6.out.v; obtain ⟨p0, p1, p2', p3', p4', p5'⟩ := hv.cells; have f0 := hv.free 0; have f1 := hv.free 1; have f2 := hv.free 2; have f3 := hv.free 3; have f4 := hv.free 4; have f5 := hv.free 5))
      have HF7 := sd (HF6.out.val HI.out HLT.out (.int .i64 0) (.string ⟨#[]⟩) (.string ⟨#[]⟩) (.float .f64 0) (.int .i64 0) (.slice none 0 0)).1
      change Code.wp _ _ _ _ (pu6 w6 (kb + 1) (.int .i64 0) (.string ⟨#[]⟩) (.string ⟨#[]⟩) (.float .f64 0) (.int .i64 0) (.slice none 0 0))
      go_wp2; (try simp only [Exit.inBlock, Exit.then]); refine bodyPost_ret (results_none rfl _ _ _) rfl ?_; exact ⟨rfl, fun k => k = n ∨ k = kb ∨ k = kb + 1, fun k hk => by rw [hn]; have := HLT.out; rcases hk with rfl | rfl | rfl <;> omega, by rw [HE.out]; exact HF7.out.i⟩
     ·skip
      obtain ⟨jn, hjn⟩ : ∃ jn, jn = j2 + e.length := ⟨_, rfl⟩
      have HRE := sd hrest; have HHE := sd he; have HJN := sd hjn; have HVV := sd (And.intro hv hq); have HDR := sd (show (bytesOf s).drop j2 = e ++ q from by rw [HCC.out, hce]); clear hrest he hjn hv hq hce; go_upto_region 41 with (first | (go_at_call 54; (with_reducible refine (pa_any' HU.out s HS.out j2 jn e q jj HDR.out HVV.out.1 HVV.out.2 HJN.out _ (HI.out.pw _ _ _ HF5.out.i)).mono ?_); rintro e0 w6 ⟨⟨ty, raw, str2, num2, ix2, rfl, hraw, hty⟩, hb⟩; have HF6 := sd (HF5.out.below HI.out hb); have HRW := sd (And.intro hraw hty); clear hb HF5 hraw hty; obtain ⟨v0, v1, v2, v3, v4, v5, hv⟩ := HF6.out.v; obtain ⟨p0, p1, p2', p3', p4', p5'⟩ := hv.cells; have f0 := hv.free 0; have f1 := hv.free 1; have f2 := hv.free 2; have f3 := hv.free 3; have f4 := hv.free 4; have f5 := hv.free 5))
      have HF7 := sd (HF6.out.val HI.out HLT.out (.int .i64 ty) (.string raw) (.string str2) (.float .f64 num2) (.int .i64 ix2) (.slice none 0 0)).1; have HV7 := sd (HF6.out.val HI.out HLT.out (.int .i64 ty) (.string raw) (.string str2) (.float .f64 num2) (.int .i64 ix2) (.slice none 0 0)).2; clear p0 p1 p2' p3' p4' p5' f0 f1 f2 f3 f4 f5 hv HF6
      change Code.wp _ _ _ _ (pu6 w6 (kb + 1) (.int .i64 ty) (.string raw) (.string str2) (.float .f64 num2) (.int .i64 ix2) (.slice none 0 0))
      generalize pu6 w6 (kb + 1) (.int .i64 ty) (.string raw) (.string str2) (.float .f64 num2) (.int .i64 ix2) (.slice none 0 0) = w7 at *; obtain ⟨a0, a1, a2, a3, a4, a5⟩ := HF7.out.a.cells; have f4 := HV7.out.free 4; have a44 := HV7.out.cells.2.2.2.2.1; go_upto_region 46 with (fail)
      generalize hixx : wrap64 ((j2 : Int) + ix) = ixx; have HF8 := sd (HF7.out.ix4 HI.out HLT.out HV7.out (.int .i64 ixx)).1; have HV8 := sd (HF7.out.ix4 HI.out HLT.out HV7.out (.int .i64 ixx)).2; clear HF7 HV7 a0 a1 a2 a3 a4 a5 f4 a44 hixx; generalize w7.setCell ⟨kb + 1, 4, none⟩ (.int .i64 ixx) = w8 at *; obtain ⟨p0, p1, p2', p3', p4', p5'⟩ := HV8.out.cells; obtain ⟨f8, hf8, hk8⟩ := HF8.out.k; obtain ⟨q0, q1, q2, q3, q4, q5⟩ := hk8.cells; clear hf8 hk8; obtain ⟨jn1, hjn1⟩ : ∃ jn1, jn1 = jn + 1 := ⟨_, rfl⟩
      obtain ⟨m1, hm1⟩ : ∃ m1, m1 = m + 1 := ⟨_, rfl⟩
      have HJ1 := sd hjn1; have HM1 := sd hm1; have HSZ := sd (show jn ≤ s.size from by have h1 := sz_len HDR.out (by have := HDS.out; omega); have := HJN.out; simp at h1; omega); have z1 : wrap64 ((jn : Int) + 1) = (jn1 : Int) := by rw [w64_1 (by have := HSZ.out; have := HS.out; omega), ← hjn1]
      have z2 : wrap64 ((m : Int) + 1) = (m1 : Int) := by rw [w64_1 (by have := HF8.out.mj; have := HJ.out; have := HS.out; omega), ← hm1]
      clear hjn1 hm1; go_upto_region 47 with (first | (go_at_call 41; (with_reducible refine (HI.out.step _ m _ e _ ty raw str2 num2 ixx (get_drop HHE.out) HF8.out.i HF8.out.own HRW.out.1 HRW.out.2).mono ?_); rintro e0 w9 ⟨rfl, hi9, hs9, hz9⟩; have HN := sd (HF8.out.next HHE.out HRE.out (show j < j + wl.length + e.length + 1 by omega) hi9 hs9); clear hi9 hs9 hz9))
      have HN2 := sd (show FeS s str num ix n kb es I (Own n kb) jn1 m1 w9 from by
       have h1 := HN.out; rw [show j + wl.length + e.length + 1 = jn1 by have := HJ1.out; have := HJN.out; have := HJ2.out; omega, ← HM1.out] at h1; exact h1)
      have HMS := sd (show s.size - jn1 < s.size - j from by have := HJ1.out; have := HJN.out; have := HJ2.out; have := HJ.out; omega); clear HN HF8 HV8 p0 p1 p2' p3' p4' p5' q0 q1 q2 q3 q4 q5; go_wp2; refine ⟨⟨jn1, m1, by first | rfl | rw [z1], by first | rfl | rw [z2], HN2⟩, ?_⟩; (try rw [z1]); simp only [intOf, Int.toNat_natCast]; exact HMS.out
end Go.Proofs.YtdacgdjjdifneaaGreatDoor.PFnGjFlattenOften
