/- Part of the proof of the card in text ZF. -/
import Derived.Test.YtdacgdjjdifneaaGreatDoorZD
import Derived.Test.YtdacgdjjdifneaaGreatDoorV1
import Derived.Test.YtdacgdjjdifneaaGreatDoorV2
import Derived.Test.YtdacgdjjdifneaaGreatDoorV3
import Derived.Test.YtdacgdjjdifneaaGreatDoorZK
import Derived.Test.YtdacgdjjdifneaaGreatDoorV0
import Derived.Test.YtdacgdjjdifneaaGreatDoorV4
import Derived.Test.YtdacgdjjdifneaaGreatDoorV5
import Derived.Test.YtdacgdjjdifneaaGreatDoorV10
import Derived.Test.YtdacgdjjdifneaaGreatDoorV8
import Derived.Test.YtdacgdjjdifneaaGreatDoorV9
import Derived.Test.YtdacgdjjdifneaaGreatDoorZL
set_option linter.all false
namespace Go.Proofs.YtdacgdjjdifneaaGreatDoor.PFnGjFlattenOften
theorem ws_nil : Ws [] := fun c hc => by cases hc
theorem ws_app {a b : List Int} (h : Ws a) (k : Ws b) : Ws (a ++ b) := fun c hc => by
 rcases List.mem_append.mp hc with hc | hc
 ·exact h c hc
 ·exact k c hc
inductive Bd : List Int → List (List Int) → Prop
 | one (e : List Int) (j : J) : V e j → Bd e [e]
 | more (e : List Int) (j : J) (w1 w2 b : List Int) (es : List (List Int)) : V e j → Ws w1 → Ws w2 → Bd b es → Bd (e ++ (w1 ++ 44 :: (w2 ++ b))) (e :: es)
def St (b : List Int) (es : List (List Int)) : Prop := (b = [] ∧ es = []) ∨ Bd b es
def ArrB (l b : List Int) (es : List (List Int)) : Prop := ∃ w w', Ws w ∧ Ws w' ∧ l = 91 :: (w ++ (b ++ (w' ++ [93]))) ∧ St b es
def NotA (e : List Int) : Prop := ∀ r, e ≠ 91 :: r
inductive Vs : List (List Int) → List J → Prop
 | nil : Vs [] []
 | cons (e : List Int) (j : J) (es : List (List Int)) (js : List J) : V e j → Vs es js → Vs (e :: es) (j :: js)
theorem els_bd {l : List Int} {ks : List J} (h : Els l ks) : ∃ b w' es, l = b ++ (w' ++ [93]) ∧ Ws w' ∧ Bd b es ∧ Vs es ks := by
 refine Els.rec (motive_1 := fun _ _ _ => True) (motive_2 := fun l ks _ => ∃ b w' es, l = b ++ (w' ++ [93]) ∧ Ws w' ∧ Bd b es ∧ Vs es ks) (motive_3 := fun _ _ _ => True) ?_ ?_ ?_ ?_ ?_ ?_ ?_ ?_ ?_ ?_ h
 all_goals first | (intros; trivial) | skip
 ·intro l j w hv hw _; exact ⟨l, w, [l], rfl, hw, .one l j hv, .cons l j [] [] hv .nil⟩
 ·intro l j w1 w2 r ks hv h1 h2 _ _ ih; obtain ⟨b, w', es, rfl, hw, hb, hs⟩ := ih; refine ⟨l ++ (w1 ++ 44 :: (w2 ++ b)), w', l :: es, by simp, hw, .more l j w1 w2 b es hv h1 h2 hb, .cons l j es ks hv hs⟩
theorem arr_of {l : List Int} {ks : List J} (h : V l (.arr ks)) : ∃ b es, ArrB l b es ∧ Vs es ks := by
 cases h with
 | arr0 w hw => exact ⟨[], [], ⟨w, [], hw, ws_nil, by simp, .inl ⟨rfl, rfl⟩⟩, .nil⟩
 | arr w l ks hw h =>
  obtain ⟨b, w', es, rfl, hw', hb, hs⟩ := els_bd h; exact ⟨b, es, ⟨w, w', hw, hw', rfl, .inr hb⟩, hs⟩
theorem bd_vs {b : List Int} {es : List (List Int)} (h : Bd b es) : ∃ ks, Vs es ks := by
 induction h with
 | one e j h => exact ⟨[j], .cons e j [] [] h .nil⟩
 | more e j w1 w2 b es h _ _ _ ih => obtain ⟨ks, hk⟩ := ih; exact ⟨j :: ks, .cons e j es ks h hk⟩
theorem bd_els {b : List Int} {es : List (List Int)} (h : Bd b es) {ks : List J} (hv : Vs es ks) (w' : List Int) (hw : Ws w') : Els (b ++ (w' ++ [93])) ks := by
 induction h generalizing ks with
 | one e j h =>
  cases hv with
  | cons e j es js h1 h2 => cases h2 with
   | nil => exact .last e j w' h1 hw
 | more e j w1 w2 b es h h1 h2 hb ih =>
  cases hv with
  | cons e j es js g1 g2 =>
   have := Els.more e j w1 w2 _ js g1 h1 h2 (ih g2)
   simpa using this
theorem arr_v {l b : List Int} {es : List (List Int)} (h : ArrB l b es) : ∃ ks, V l (.arr ks) ∧ Vs es ks := by
 obtain ⟨w, w', hw, hw', rfl, h⟩ := h
 rcases h with ⟨rfl, rfl⟩ | hb
 ·refine ⟨[], ?_, .nil⟩; have := V.arr0 (w ++ w') (ws_app hw hw')
  simpa using this
 ·obtain ⟨ks, hk⟩ := bd_vs hb; exact ⟨ks, .arr w _ ks hw (bd_els hb hk w' hw'), hk⟩
theorem bd_app {a : List Int} {es : List (List Int)} (h : Bd a es) {b : List Int} {fs : List (List Int)} (h2 : Bd b fs) : Bd (a ++ 44 :: b) (es ++ fs) := by
 induction h with
 | one e j h => exact .more e j [] [] b fs h ws_nil ws_nil h2
 | more e j w1 w2 c es h h1 h3 hb ih =>
  have := Bd.more e j w1 w2 _ _ h h1 h3 ih
  simpa using this
theorem v_ne {l : List Int} {j : J} (h : V l j) : l ≠ [] := by
 cases h with
 | atom l h =>
  rcases h with rfl | rfl | rfl | h
  ·simp
  ·simp
  ·simp
  ·obtain ⟨_, c, r, rfl, _⟩ := h.c; simp
 | _ => simp
theorem bd_ne {b : List Int} {es : List (List Int)} (h : Bd b es) : b ≠ [] := by
 cases h with
 | one e j h => exact v_ne h
 | more e j w1 w2 b es h => have := v_ne h; simp
def addB (a b : List Int) : List Int := if b = [] then a else if a = [] then b else a ++ 44 :: b
theorem st_add {a b : List Int} {es fs : List (List Int)} (h : St a es) (k : St b fs) : St (addB a b) (es ++ fs) := by
 unfold addB
 rcases k with ⟨rfl, rfl⟩ | k
 ·simpa using h
 ·rw [if_neg (bd_ne k)]
  rcases h with ⟨rfl, rfl⟩ | h
  ·exact .inr k
  ·rw [if_neg (bd_ne h)]; exact .inr (bd_app h k)
theorem addB_nil (a : List Int) : addB a [] = a := by simp [addB]
theorem nil_addB (a : List Int) : addB [] a = a := by unfold addB; split <;> simp_all
theorem addB_assoc (a b c : List Int) : addB (addB a b) c = addB a (addB b c) := by
 by_cases hc : c = []
 ·subst hc; rw [addB_nil, addB_nil]
 by_cases hb : b = []
 ·subst hb; rw [addB_nil, nil_addB]
 by_cases ha : a = []
 ·subst ha; rw [nil_addB, nil_addB]
 ·simp [addB, ha, hb, hc]
theorem addB_len (a b : List Int) : (addB a b).length ≤ a.length + b.length + 1 := by
 unfold addB; split
 ·omega
 ·split
  ·omega
  ·simp; omega
def outB (ls : List (List Int)) : List Int := ls.foldl addB []
theorem fold_addB (a : List Int) : ∀ ls : List (List Int), ls.foldl addB a = addB a (outB ls) := by
 intro ls
 induction ls generalizing a with
 | nil => rw [show outB [] = [] from rfl, addB_nil]; rfl
 | cons e ls ih =>
  rw [List.foldl_cons, ih]
  show addB (addB a e) (outB ls) = addB a (List.foldl addB (addB [] e) ls)
  rw [nil_addB, ih e, addB_assoc]
theorem outB_app (a b : List (List Int)) : outB (a ++ b) = addB (outB a) (outB b) := by
 rw [outB, List.foldl_append, fold_addB]; rfl
inductive Ne : Nat → List (List Int) → List (List Int) → Prop
 | nil (d : Nat) : Ne d [] []
 | leaf (d : Nat) (e : List Int) (j : J) (es ls : List (List Int)) : V e j → NotA e → Ne d es ls → Ne d (e :: es) (e :: ls)
 | arr (d : Nat) (e b : List Int) (es' ls' es ls : List (List Int)) : ArrB e b es' → Ne d es' ls' → Ne (d + 1) es ls → Ne (d + 1) (e :: es) (ls' ++ ls)
theorem Ne.app {d : Nat} {es ls fs ms : List (List Int)} (h : Ne d es ls) (k : Ne d fs ms) : Ne d (es ++ fs) (ls ++ ms) := by
 induction h with
 | nil d => exact k
 | leaf d e j es ls hv hn _ ih => exact .leaf _ e j _ _ hv hn (ih k)
 | arr d e b es' ls' es ls ha h1 _ _ ih2 =>
  rw [List.append_assoc]; exact .arr _ e b es' ls' _ _ ha h1 (ih2 k)
inductive Pc : List (List Int) → List (List Int) → List (List Int) → Prop
 | nil : Pc [] [] []
 | leaf (e : List Int) (j : J) (es bs fs : List (List Int)) : V e j → NotA e → Pc es bs fs → Pc (e :: es) (e :: bs) (e :: fs)
 | arr (e b : List Int) (es' es bs fs : List (List Int)) : ArrB e b es' → Pc es bs fs → Pc (e :: es) (b :: bs) (es' ++ fs)
theorem pc_st {es bs fs : List (List Int)} (h : Pc es bs fs) : St (outB bs) fs := by
 induction h with
 | nil => exact .inl ⟨rfl, rfl⟩
 | leaf e j es bs fs hv hn _ ih =>
  have := st_add (.inr (.one e j hv)) ih; rw [outB, List.foldl_cons, nil_addB, fold_addB]; exact this
 | arr e b es' es bs fs ha _ ih =>
  obtain ⟨w, w', _, _, _, hs⟩ := ha; rw [outB, List.foldl_cons, nil_addB, fold_addB]; exact st_add hs ih
theorem pc_ne {d : Nat} : ∀ {es ls : List (List Int)}, Ne (d + 1) es ls → ∃ bs fs, Pc es bs fs ∧ Ne d fs ls := by
 intro es ls h; generalize hd : d + 1 = d1 at h
 induction h with
 | nil => exact ⟨[], [], .nil, .nil d⟩
 | leaf d' e j es ls hv hn _ ih =>
  obtain ⟨bs, fs, h1, h2⟩ := ih hd; exact ⟨e :: bs, e :: fs, .leaf e j es bs fs hv hn h1, .leaf d e j fs ls hv hn h2⟩
 | arr d' e b es' ls' es ls ha h1 h2 _ ih2 =>
  obtain ⟨bs, fs, g1, g2⟩ := ih2 hd; have : d' = d := by omega
  subst this; exact ⟨b :: bs, es' ++ fs, .arr e b es' es bs fs ha g1, h1.app g2⟩
theorem pc_leaf {es ls : List (List Int)} (h : Ne 0 es ls) : Pc es es es ∧ ls = es := by
 generalize hd : 0 = d at h
 induction h with
 | nil => exact ⟨.nil, rfl⟩
 | leaf d e j es ls hv hn _ ih =>
  obtain ⟨h1, rfl⟩ := ih hd; exact ⟨.leaf e j _ _ _ hv hn h1, rfl⟩
 | arr => cases hd
theorem bd_len {b : List Int} {es bs fs : List (List Int)} (h : Bd b es) (hp : Pc es bs fs) : (outB bs).length ≤ b.length := by
 induction h generalizing bs fs with
 | one e j hv =>
  cases hp with
  | leaf e j es bs fs hv hn hp => cases hp; rw [outB, List.foldl_cons, nil_addB]; exact Nat.le_refl _
  | arr e b es' es bs fs ha hp =>
   cases hp
   obtain ⟨w, w', _, _, rfl, _⟩ := ha; rw [outB, List.foldl_cons, nil_addB]; simp; omega
 | more e j w1 w2 b es hv h1 h2 hb ih =>
  cases hp with
  | leaf e j es bs fs hv hn hp =>
   have := ih hp; rw [outB, List.foldl_cons, nil_addB, fold_addB]; have := addB_len e (outB bs); simp; omega
  | arr e b es' es bs fs ha hp =>
   obtain ⟨w, w', _, _, rfl, _⟩ := ha; have := ih hp; rw [outB, List.foldl_cons, nil_addB, fold_addB]; have := addB_len b (outB bs); simp; omega
def roundT (bs : List (List Int)) : List Int := 91 :: (outB bs ++ [93])
theorem round_arr {es bs fs : List (List Int)} (h : Pc es bs fs) : ArrB (roundT bs) (outB bs) fs :=
 ⟨[], [], ws_nil, ws_nil, rfl, pc_st h⟩
theorem round_len {l b : List Int} {es bs fs : List (List Int)} (h : ArrB l b es) (hp : Pc es bs fs) : (roundT bs).length ≤ l.length := by
 obtain ⟨w, w', _, _, rfl, hs⟩ := h
 rcases hs with ⟨rfl, rfl⟩ | hb
 ·cases hp; simp [roundT, outB]; omega
 ·have := bd_len hb hp; simp [roundT]; omega
def mxN (a b : Nat) : Nat := if a ≤ b then b else a
mutual
def dep : J → Nat
 | .arr ks => depL ks + 1
 | _ => 0
def depL : List J → Nat
 | [] => 0
 | j :: ks => mxN (dep j) (depL ks)
end
theorem v_notA {e : List Int} {j : J} (h : V e j) : (∃ ks, j = .arr ks) ∨ (NotA e ∧ dep j = 0) := by
 cases h with
 | arr0 w => exact .inl ⟨_, rfl⟩
 | arr w l ks => exact .inl ⟨_, rfl⟩
 | atom l h =>
  refine .inr ⟨fun r e => ?_, by simp [dep]⟩
  rcases h with rfl | rfl | rfl | h
  ·simp at e
  ·simp at e
  ·simp at e
  ·obtain ⟨_, c, r', rfl, hc⟩ := h.c; injection e with e _; omega
 | str s => exact .inr ⟨fun r e => by simp at e, by simp [dep]⟩
 | obj0 w => exact .inr ⟨fun r e => by simp at e, by simp [dep]⟩
 | obj w l ms => exact .inr ⟨fun r e => by simp at e, by simp [dep]⟩
theorem mxN_le {a b d : Nat} (h : mxN a b ≤ d) : a ≤ d ∧ b ≤ d := by unfold mxN at h; split at h <;> omega
theorem ne_of : ∀ (d : Nat) (es : List (List Int)) (ks : List J), Vs es ks → depL ks ≤ d → ∃ ls, Ne d es ls := by
 intro d
 induction d with
 | zero =>
  intro es ks h
  induction h with
  | nil => exact fun _ => ⟨[], .nil _⟩
  | cons e j es js hv _ ih =>
   intro hd; rw [depL] at hd; obtain ⟨h1, h2⟩ := mxN_le hd; obtain ⟨ls, hl⟩ := ih h2
   rcases v_notA hv with ⟨ks, rfl⟩ | ⟨hn, _⟩
   ·rw [dep] at h1; omega
   ·exact ⟨e :: ls, .leaf _ e j es ls hv hn hl⟩
 | succ d ihd =>
  intro es ks h
  induction h with
  | nil => exact fun _ => ⟨[], .nil _⟩
  | cons e j es js hv _ ih =>
   intro hd; rw [depL] at hd; obtain ⟨h1, h2⟩ := mxN_le hd; obtain ⟨ls, hl⟩ := ih h2
   rcases v_notA hv with ⟨ks, rfl⟩ | ⟨hn, _⟩
   ·rw [dep] at h1; obtain ⟨b, es', ha, hs⟩ := arr_of hv; obtain ⟨ls', hl'⟩ := ihd es' ks hs (by omega); exact ⟨ls' ++ ls, .arr d e b es' ls' es ls ha hl' hl⟩
   ·exact ⟨e :: ls, .leaf _ e j es ls hv hn hl⟩
open Go.RowKit Go.Proofs.YtdacgdjjdifneaaGreatDoorW.PrintWords Go.Proofs.YtdacgdjjdifneaaGreatDoorW.PrintLast Go.Proofs.YtdacgdjjdifneaaGreatDoorW.PrintMore
theorem take_yes {a : ByteArray} (hn : a.size ≤ 65536) {i : Nat} {c : Int} {r : List Int} (h : (bytesOf a).drop i = c :: r) : spec_reader_take.f a (i : Int) c = some (true, a, ((i + 1 : Nat) : Int)) := by
 obtain ⟨b, w, r', e, he, hv⟩ := take_f a hn i c
 rcases hv with ⟨rfl, rfl⟩ | ⟨rfl, rfl, hno⟩
 ·exact he
 ·exact absurd h (hno r)
theorem take_no {a : ByteArray} (hn : a.size ≤ 65536) {i : Nat} {c : Int} (h : ∀ r, (bytesOf a).drop i ≠ c :: r) : spec_reader_take.f a (i : Int) c = some (false, a, (i : Int)) := by
 obtain ⟨b, w, r', e, he, hv⟩ := take_f a hn i c
 rcases hv with ⟨rfl, rfl⟩ | ⟨rfl, rfl, hno⟩
 ·exact absurd e (h r')
 ·exact he
def Hd (P : Int → Prop) (l : List Int) : Prop := ∀ c r, l = c :: r → P c
theorem Hd.ne {P : Int → Prop} {l m : List Int} {x : Int} (h : Hd P l) (e : m = l) (hx : ¬ P x) : ∀ r, m ≠ x :: r := fun r e2 => hx (h x r (by rw [← e, e2]))
theorem Hd.cons {P : Int → Prop} {c : Int} {r : List Int} (h : P c) : Hd P (c :: r) := fun d s e => by injection e with e1 _; rw [← e1]; exact h
theorem Hd.imp {P Q : Int → Prop} {l : List Int} (h : Hd P l) (k : ∀ c, P c → Q c) : Hd Q l := fun c r e => k c (h c r e)
def NoNum (r : List Int) : Prop := Hd (fun c => ¬ NumC c) r
def NoDg (r : List Int) : Prop := Hd (fun c => ¬ (48 ≤ c ∧ c ≤ 57)) r
theorem NoNum.dg {r : List Int} (h : NoNum r) : NoDg r := h.imp fun c hc hd => hc (.inl hd)
theorem digits_c0 (a : ByteArray) (hn : a.size ≤ 65536) (st : Int) : ∀ (ds r : List Int) (i k j : Nat) (c : Int), (bytesOf a).drop i = ds ++ r → Dgs ds → NoDg r → ds.length < k → (∀ d r', ds ++ r = d :: r' → c = d) → (ds ++ r = [] → c = 0) → j = i + ds.length →
  spec_reader_digits.l0 k st c a (i : Int) = some (decide ((j : Int) > st), a, (j : Int)) := by
 intro ds
 induction ds with
 | nil =>
  intro r i k j c h hd hr hk h1 h2 hj; subst hj; obtain ⟨k, rfl⟩ : ∃ m, k = m + 1 := ⟨k - 1, by omega⟩
  have hc : ¬ (48 ≤ c ∧ c ≤ 57) := by
   cases r with
   | nil => rw [h2 rfl]; omega
   | cons d r => rw [h1 d r rfl]; exact hr d r rfl
  simp only [spec_reader_digits.l0]
  by_cases hc1 : 48 ≤ c
  ·rw [if_pos hc1, if_neg (by omega)]
  ·rw [if_neg hc1]
 | cons d ds ih =>
  intro r i k j c h hd hr hk h1 h2 hj; obtain ⟨k, rfl⟩ : ∃ m, k = m + 1 := ⟨k - 1, by simp at hk; omega⟩
  rw [h1 d _ rfl]; have hdd := hd d List.mem_cons_self; have hlt := sz_lt h; simp only [spec_reader_digits.l0]; rw [if_pos hdd.1, if_pos hdd.2, w64_1 (by omega)]; have h3 : (bytesOf a).drop (i + 1) = ds ++ r := drop_next h; obtain ⟨c', hh, h4, h5⟩ := here_f a (i + 1); rw [hh]; simp only [Option.bind_some]; exact ih r (i + 1) k j c' h3 (fun x hx => hd x (List.mem_cons_of_mem _ hx)) hr (by simp at hk; omega) (fun d r' e => h4 d r' (by rw [h3, e])) (fun e => h5 (by rw [h3, e])) (by rw [hj, List.length_cons]; omega)
theorem digits_c (a : ByteArray) (hn : a.size ≤ 65536) (i k j : Nat) (ds r : List Int) (h : (bytesOf a).drop i = ds ++ r) (hd : Dgs ds) (h0 : ds ≠ []) (hr : NoDg r) (hk : a.size < k) (hj : j = i + ds.length) :
  spec_reader_digits.f k a (i : Int) = some (true, a, (j : Int)) := by
 unfold spec_reader_digits.f; obtain ⟨c', hh, h4, h5⟩ := here_f a i; rw [hh]; simp only [Option.bind_some]; have hp : 0 < ds.length := List.length_pos_iff.mpr h0; have hl := dlen a i; rw [h, List.length_append] at hl; rw [digits_c0 a hn (i : Int) ds r i k j c' h hd hr (by omega) (fun d r' e => h4 d r' (by rw [h, e])) (fun e => h5 (by rw [h, e])) hj]; rw [show decide ((j : Int) > (i : Int)) = true from decide_eq_true (by omega)]
theorem dg_hd {qs r : List Int} (h : Dgs qs) (h0 : qs ≠ []) : Hd (fun c => 48 ≤ c ∧ c ≤ 57) (qs ++ r) := by
 match qs, h0 with
 | c :: s, _ => exact .cons (h c List.mem_cons_self)
theorem app_drop {a : ByteArray} {i : Nat} {w r : List Int} {j : Nat} (h : (bytesOf a).drop i = w ++ r) (hj : j = i + w.length) : (bytesOf a).drop j = r := by rw [hj]; exact drop_app h
theorem num2_c (a : ByteArray) (hn : a.size ≤ 65536) (i k j : Nat) (v r : List Int) (h : (bytesOf a).drop i = v ++ r) (hv : ExpB v) (hr : NoNum r) (hk : a.size + 1 < k) (hj : j = i + v.length) :
  spec_reader_number.j2 k true a (i : Int) = some (true, a, (j : Int)) := by
 obtain ⟨k, rfl⟩ : ∃ m, k = m + 1 := ⟨k - 1, by omega⟩
 obtain ⟨sg, qs, rfl, hs, h0, hq⟩ := hv; simp only [spec_reader_number.j2]; rw [if_pos trivial]
 rcases hs with rfl | rfl | rfl
 ·rw [List.nil_append] at h hj; rw [take_no hn ((dg_hd hq h0).ne h (by omega))]; simp only [Option.bind_some]; rw [if_neg (by decide), take_no hn ((dg_hd hq h0).ne h (by omega))]; simp only [Option.bind_some]; rw [digits_c a hn i k j qs r h hq h0 hr.dg (by omega) hj]; rfl
 ·rw [take_yes hn (show _ = 43 :: (qs ++ r) from h)]; simp only [Option.bind_some]; rw [if_pos trivial]; rw [digits_c a hn (i + 1) k j qs r (drop_next h) hq h0 hr.dg (by omega) (by rw [hj]; simp; omega)]; rfl
 ·rw [take_no hn (fun r' e => by rw [h] at e; injection e with e1 _; omega)]; simp only [Option.bind_some]; rw [if_neg (by decide), take_yes hn (show _ = 45 :: (qs ++ r) from h)]; simp only [Option.bind_some]; rw [digits_c a hn (i + 1) k j qs r (drop_next h) hq h0 hr.dg (by omega) (by rw [hj]; simp; omega)]; rfl
theorem num1_c (a : ByteArray) (hn : a.size ≤ 65536) (i k j : Nat) (v r : List Int) (h : (bytesOf a).drop i = v ++ r) (hv : ExW v) (hr : NoNum r) (hk : a.size + 2 < k) (hj : j = i + v.length) :
  spec_reader_number.j1 k false a (i : Int) = some (true, a, (j : Int)) := by
 obtain ⟨k, rfl⟩ : ∃ m, k = m + 1 := ⟨k - 1, by omega⟩
 simp only [spec_reader_number.j1]; rw [if_neg (by decide)]
 rcases hv with rfl | ⟨c, v, rfl, hc, hv⟩
 ·rw [List.nil_append] at h; rw [take_no hn (hr.ne h (by unfold NumC; omega))]; simp only [Option.bind_some]; rw [if_neg (by decide), take_no hn (hr.ne h (by unfold NumC; omega))]; simp only [Option.bind_some]; obtain ⟨k, rfl⟩ : ∃ m, k = m + 1 := ⟨k - 1, by omega⟩
  simp only [spec_reader_number.j2]; rw [if_neg (by decide), hj]; rfl
 ·rcases hc with rfl | rfl
  ·rw [take_yes hn (show _ = 101 :: (v ++ r) from h)]; simp only [Option.bind_some]; rw [if_pos trivial]; exact num2_c a hn (i + 1) k j v r (drop_next h) hv hr (by omega) (by rw [hj]; simp; omega)
  ·rw [take_no hn (fun r' e => by rw [h] at e; injection e with e1 _; omega)]; simp only [Option.bind_some]; rw [if_neg (by decide), take_yes hn (show _ = 69 :: (v ++ r) from h)]; simp only [Option.bind_some]; exact num2_c a hn (i + 1) k j v r (drop_next h) hv hr (by omega) (by rw [hj]; simp; omega)
theorem ex_hd {v r : List Int} (hv : ExW v) (hr : NoNum r) : Hd (fun c => c ≠ 46 ∧ ¬ (48 ≤ c ∧ c ≤ 57)) (v ++ r) := by
 rcases hv with rfl | ⟨c, v, rfl, hc, _⟩
 ·exact hr.imp fun c h => ⟨fun e => h (by unfold NumC; omega), fun e => h (.inl e)⟩
 ·exact .cons (by omega)
theorem num0_c (a : ByteArray) (hn : a.size ≤ 65536) (i k j : Nat) (fr v r : List Int) (h : (bytesOf a).drop i = fr ++ (v ++ r)) (hf : FrW fr) (hv : ExW v) (hr : NoNum r) (hk : a.size + 3 < k) (hj : j = i + fr.length + v.length) :
  spec_reader_number.j0 k false a (i : Int) = some (true, a, (j : Int)) := by
 obtain ⟨k, rfl⟩ : ∃ m, k = m + 1 := ⟨k - 1, by omega⟩
 simp only [spec_reader_number.j0]; rw [if_neg (by decide)]
 rcases hf with rfl | ⟨fd, h0, hd, rfl⟩
 ·rw [List.nil_append] at h; rw [take_no hn ((ex_hd hv hr).ne h (by omega))]; simp only [Option.bind_some]; rw [if_neg (by decide)]; exact num1_c a hn i k j v r h hv hr (by omega) (by rw [hj]; simp)
 ·rw [take_yes hn (show _ = 46 :: (fd ++ (v ++ r)) from h)]; simp only [Option.bind_some]; rw [if_pos trivial]; have h1 : (bytesOf a).drop (i + 1) = fd ++ (v ++ r) := drop_next h; rw [digits_c a hn (i + 1) k (i + 1 + fd.length) fd (v ++ r) h1 hd h0 ((ex_hd hv hr).imp fun c h => h.2) (by omega) rfl]; simp only [Option.bind_some]; exact num1_c a hn _ k j v r (drop_app h1) hv hr (by omega) (by rw [hj]; simp; omega)
theorem fr_hd {fr v r : List Int} (hf : FrW fr) (hv : ExW v) (hr : NoNum r) : NoDg (fr ++ (v ++ r)) := by
 rcases hf with rfl | ⟨fd, h0, hd, rfl⟩
 ·exact (ex_hd hv hr).imp fun c h => h.2
 ·exact .cons (by omega)
theorem number_c (a : ByteArray) (hn : a.size ≤ 65536) (i k j : Nat) (l r : List Int) (h : (bytesOf a).drop i = l ++ r) (hl : Num l) (hr : NoNum r) (hk : a.size + 3 < k) (hj : j = i + l.length) :
  spec_reader_number.f k a (i : Int) = some (true, a, (j : Int)) := by
 obtain ⟨sgn, ip, fr, ex, hN⟩ := hl; have hid := hN.ipd; obtain ⟨rfl, hs, hi, hf, hx⟩ := hN; have e : (bytesOf a).drop i = sgn ++ (ip ++ (fr ++ (ex ++ r))) := by rw [h]; simp
 have key : ∀ i1 : Nat, i1 = i + sgn.length → (spec_reader_take.f a (i1 : Int) 48).bind (fun x => if x.1 = true then spec_reader_number.j0 k false x.2.1 x.2.2 else (spec_reader_digits.f k x.2.1 x.2.2).bind fun y => spec_reader_number.j0 k (!y.1) y.2.1 y.2.2) = some (true, a, (j : Int)) := by
  intro i1 hi1; have e1 := app_drop e hi1; have h0 : ip ≠ [] := by rcases hi with rfl | ⟨c, r, rfl, _⟩ <;> simp
  rcases hi with rfl | ⟨c, s, rfl, hc, _⟩
  ·rw [take_yes hn (show _ = 48 :: (fr ++ (ex ++ r)) from e1)]; simp only [Option.bind_some]; rw [if_pos trivial]; exact num0_c a hn (i1 + 1) k j fr ex r (drop_next e1) hf hx hr hk (by rw [hj, hi1]; simp; omega)
  ·rw [take_no hn (fun r' e => by rw [e1] at e; injection e with e2 _; omega)]; simp only [Option.bind_some]; rw [if_neg (by decide), digits_c a hn i1 k (i1 + (c :: s).length) (c :: s) _ e1 hid h0 (fr_hd hf hx hr) (by omega) rfl]; simp only [Option.bind_some]; exact num0_c a hn _ k j fr ex r (drop_app e1) hf hx hr hk (by rw [hj, hi1]; simp; omega)
 unfold spec_reader_number.f
 rcases hs with rfl | rfl
 ·rw [take_no hn (fun r' e2 => by
   rw [e] at e2
   rcases hi with rfl | ⟨c, s, rfl, hc, _⟩ <;> (injection e2 with e3 _; omega))]
  exact key i rfl
 ·rw [take_yes hn (show _ = 45 :: (ip ++ (fr ++ (ex ++ r))) from e)]; exact key (i + 1) rfl
theorem hex_c (a : ByteArray) (hn : a.size ≤ 65536) : ∀ (w r : List Int) (i k x j : Nat), (bytesOf a).drop i = w ++ r → (∀ c ∈ w, HexD c) → x + w.length = 4 → w.length + 3 ≤ k → j = i + w.length → spec_reader_escape.l0 k (x : Int) a (i : Int) = some (true, a, (j : Int)) := by
 intro w
 induction w with
 | nil =>
  intro r i k x j h _ hx hk hj; obtain ⟨k, rfl⟩ : ∃ m, k = m + 1 := ⟨k - 1, by omega⟩
  simp only [spec_reader_escape.l0]; rw [if_neg (by simp at hx; omega), hj]; rfl
 | cons c w ih =>
  intro r i k x j h hw hx hk hj; obtain ⟨k, rfl⟩ : ∃ m, k = m + 1 := ⟨k - 1, by omega⟩
  simp only [List.length_cons] at hx hk hj; have hlt := sz_lt h; have hr := byte_drop h; simp only [spec_reader_escape.l0]; rw [if_pos (by omega), here_cons h]; simp only [Option.bind_some]; obtain ⟨v, hv, _⟩ := hexDigit_f k (by omega) c hr.1 hr.2; rw [hv]; simp only [Option.bind_some]; rw [if_pos (by simpa using hw c List.mem_cons_self), w64_1 (n := i) (by omega), w64_1 (n := x) (by omega)]; exact ih r (i + 1) k (x + 1) j (drop_next h) (fun d hd => hw d (List.mem_cons_of_mem _ hd)) (by omega) (by omega) (by omega)
theorem escape_c (a : ByteArray) (hn : a.size ≤ 65536) (i k j : Nat) (hk : 12 ≤ k) (w r : List Int) (h : (bytesOf a).drop i = w ++ r) (hw : EscW w) (hj : j = i + w.length) : spec_reader_escape.f k a (i : Int) = some (true, a, (j : Int)) := by
 obtain ⟨k, rfl⟩ : ∃ m, k = m + 1 := ⟨k - 1, by omega⟩
 unfold spec_reader_escape.f
 rcases hw with ⟨e, rfl, he⟩ | ⟨p, q, s, t, rfl, hp, hq, hs, ht⟩
 ·have hlt := sz_lt h; rw [here_cons h]; simp only [Option.bind_some]; have key : ∀ x : Bool, x = true → spec_reader_escape.j0 (k + 1) e x a (i : Int) = some (true, a, (j : Int)) := fun x hx => by
   subst hx; simp only [spec_reader_escape.j0]; rw [if_pos trivial, w64_1 (by omega), hj]; rfl
  rcases he with rfl | rfl | rfl | rfl | rfl | rfl | rfl | rfl
  ·rw [if_pos rfl]; exact key _ rfl
  ·rw [if_neg (by decide), if_pos rfl]; exact key _ rfl
  ·rw [if_neg (by decide), if_neg (by decide), if_pos rfl]; exact key _ rfl
  ·rw [if_neg (by decide), if_neg (by decide), if_neg (by decide), if_pos rfl]; exact key _ rfl
  ·rw [if_neg (by decide), if_neg (by decide), if_neg (by decide), if_neg (by decide), if_pos rfl]; exact key _ rfl
  ·rw [if_neg (by decide), if_neg (by decide), if_neg (by decide), if_neg (by decide), if_neg (by decide), if_pos rfl]; exact key _ rfl
  ·rw [if_neg (by decide), if_neg (by decide), if_neg (by decide), if_neg (by decide), if_neg (by decide), if_neg (by decide), if_pos rfl]; exact key _ rfl
  ·rw [if_neg (by decide), if_neg (by decide), if_neg (by decide), if_neg (by decide), if_neg (by decide), if_neg (by decide), if_neg (by decide)]; exact key _ (by decide)
 ·have hlt := sz_lt h; rw [here_cons h]; simp only [Option.bind_some]; rw [if_neg (by decide), if_neg (by decide), if_neg (by decide), if_neg (by decide), if_neg (by decide), if_neg (by decide), if_neg (by decide)]; simp only [spec_reader_escape.j0]; rw [if_neg (by decide), if_pos trivial, w64_1 (by omega)]; have h1 : (bytesOf a).drop (i + 1) = [p, q, s, t] ++ r := drop_next h; have := hex_c a hn [p, q, s, t] r (i + 1) k 0 j h1 (by intro c hc; simp at hc; rcases hc with rfl | rfl | rfl | rfl <;> assumption) rfl (by simp; omega) (by rw [hj]; simp); exact this
theorem quoted_c0 (a : ByteArray) (hn : a.size ≤ 65536) (r : List Int) : ∀ {s : List Int}, SB s → ∀ (i k j : Nat), (bytesOf a).drop i = s ++ 34 :: r → s.length + 20 ≤ k → j = i + s.length + 1 → spec_reader_quoted.l0 k a (i : Int) = some (true, a, (j : Int)) := by
 intro s hs
 induction hs with
 | nil =>
  intro i k j h hk hj; obtain ⟨k, rfl⟩ : ∃ m, k = m + 1 := ⟨k - 1, by omega⟩
  have h : (bytesOf a).drop i = 34 :: r := h; have hlt := sz_lt h; simp only [spec_reader_quoted.l0]; rw [if_pos (by omega), if_pos (by omega), bt_drop h, w64_1 (by omega), if_pos rfl, hj]; rfl
 | chr c s h1 h2 h3 h4 hs ih =>
  intro i k j h hk hj; obtain ⟨k, rfl⟩ : ∃ m, k = m + 1 := ⟨k - 1, by omega⟩
  simp only [List.length_cons] at hk hj; have hlt := sz_lt h; simp only [spec_reader_quoted.l0]; rw [if_pos (by omega), if_pos (by omega), bt_drop h, w64_1 (by omega), if_neg h3, if_neg (by omega), if_neg h4]; exact ih (i + 1) k j (drop_next h) (by omega) (by omega)
 | esc e s he hs ih =>
  intro i k j h hk hj; obtain ⟨k, rfl⟩ : ∃ m, k = m + 1 := ⟨k - 1, by omega⟩
  simp only [List.length_cons] at hk hj; have hlt := sz_lt h; have h1 : (bytesOf a).drop (i + 1) = [e] ++ (s ++ 34 :: r) := drop_next h; simp only [spec_reader_quoted.l0]; rw [if_pos (by omega), if_pos (by omega), bt_drop h, w64_1 (by omega), if_neg (by decide), if_neg (by decide), if_pos rfl, escape_c a hn (i + 1) k (i + 2) (by omega) [e] _ h1 (.inl ⟨e, rfl, he⟩) rfl]; simp only [Option.bind_some]; rw [if_pos trivial]; exact ih (i + 2) k j (drop_app h1) (by omega) (by omega)
 | uni p q s' t s hp hq hs' ht hs ih =>
  intro i k j h hk hj; obtain ⟨k, rfl⟩ : ∃ m, k = m + 1 := ⟨k - 1, by omega⟩
  simp only [List.length_cons] at hk hj; have hlt := sz_lt h; have h1 : (bytesOf a).drop (i + 1) = [117, p, q, s', t] ++ (s ++ 34 :: r) := drop_next h; simp only [spec_reader_quoted.l0]; rw [if_pos (by omega), if_pos (by omega), bt_drop h, w64_1 (by omega), if_neg (by decide), if_neg (by decide), if_pos rfl, escape_c a hn (i + 1) k (i + 6) (by omega) [117, p, q, s', t] _ h1 (.inr ⟨p, q, s', t, rfl, hp, hq, hs', ht⟩) rfl]; simp only [Option.bind_some]; rw [if_pos trivial]; exact ih (i + 6) k j (drop_app h1) (by omega) (by omega)
theorem quoted_c (a : ByteArray) (hn : a.size ≤ 65536) (i k j : Nat) (s r : List Int) (h : (bytesOf a).drop i = 34 :: (s ++ 34 :: r)) (hs : SB s) (hk : s.length + 20 ≤ k) (hj : j = i + s.length + 2) : spec_reader_quoted.f k a (i : Int) = some (true, a, (j : Int)) := by
 have hlt := sz_lt h; unfold spec_reader_quoted.f; rw [w64_1 (by omega)]; exact quoted_c0 a hn r hs (i + 1) k j (drop_next h) hk (by omega)
theorem word_yes (a : ByteArray) (hn : a.size ≤ 65536) (i j : Nat) (b : ByteArray) (hb : b.size ≤ 100) (r : List Int) (hi : i ≤ a.size) (h : (bytesOf a).drop i = bytesOf b ++ r) (hj : j = i + b.size) : spec_reader_word.f a (i : Int) b = some (true, a, (j : Int)) := by
 have hl := dlen a i; rw [h, List.length_append, bytesOf_length] at hl; unfold spec_reader_word.f; rw [show wrap64 ((a.size : Int) - (i : Int)) = (a.size : Int) - (i : Int) from Go.IntWalk.wrap64_in _ (by omega), w64s (n := i) (m := b.size) (by omega)]; rw [if_neg (by omega), if_pos (by omega), if_pos (by omega), if_pos (by omega)]; have e : a.extract i (i + b.size) = b := by
  apply bytesOf_inj; rw [bytesOf_extract, List.drop_take, h, ← bytesOf_length b]; simp
 rw [if_pos (by rw [Int.toNat_natCast, Int.toNat_natCast, e]), hj]
theorem word_no (a : ByteArray) (hn : a.size ≤ 65536) (i : Nat) (b : ByteArray) (hb : b.size ≤ 100) (hi : i ≤ a.size) (h : ∀ r, (bytesOf a).drop i ≠ bytesOf b ++ r) : spec_reader_word.f a (i : Int) b = some (false, a, (i : Int)) := by
 obtain ⟨x, w, r, e, he, hw⟩ := word_f a hn i hi b hb
 rcases hw with ⟨rfl, rfl⟩ | ⟨rfl, rfl⟩
 ·exact absurd e (h r)
 ·exact he
theorem ws_same : ∀ {w w0 r r0 : List Int}, w ++ r = w0 ++ r0 → Ws w → Ws w0 → NoBlk r → NoBlk r0 → w = w0 ∧ r = r0
 | [], [], _, _, h, _, _, _, _ => ⟨rfl, h⟩
 | [], c :: w0, r, r0, h, _, h0, hr, _ => absurd (h0 c List.mem_cons_self) (hr c _ h)
 | c :: w, [], r, r0, h, h1, _, _, hr => absurd (h1 c List.mem_cons_self) (hr c _ h.symm)
 | c :: w, d :: w0, r, r0, h, h1, h0, hr, hr0 => by
  injection h with h2 h3
  obtain ⟨rfl, rfl⟩ := ws_same h3 (fun x hx => h1 x (List.mem_cons_of_mem _ hx)) (fun x hx => h0 x (List.mem_cons_of_mem _ hx)) hr hr0; exact ⟨by rw [h2], rfl⟩
theorem blanks_c (a : ByteArray) (hn : a.size ≤ 65536) (i k j : Nat) (w r : List Int) (h : (bytesOf a).drop i = w ++ r) (hw : Ws w) (hr : NoBlk r) (hk : a.size < k) (hj : j = i + w.length) : spec_reader_blanks.f k a (i : Int) = some (a, (j : Int)) := by
 have hl := dlen a i; obtain ⟨w0, r0, e, hw0, hr0, he⟩ := blanks_f a hn (k := k) h (by rw [h] at hl; omega); obtain ⟨rfl, rfl⟩ := ws_same e hw hw0 hr hr0; rw [he, hj]
theorem noBlk_cons {c : Int} {r : List Int} (h : ¬ Blk c) : NoBlk (c :: r) := fun c' r' e => by
 injection e with e1 _; rw [← e1]; exact h
theorem v_noblk {l r : List Int} {j : J} (h : V l j) : NoBlk (l ++ r) := by
 cases h with
 | atom l h =>
  rcases h with rfl | rfl | rfl | h
  ·exact noBlk_cons (by decide)
  ·exact noBlk_cons (by decide)
  ·exact noBlk_cons (by decide)
  ·obtain ⟨_, c, s, rfl, hc⟩ := h.c; exact noBlk_cons (by unfold Blk; omega)
 | _ => exact noBlk_cons (by decide)
theorem els_noblk {l r : List Int} {ks : List J} (h : Els l ks) : NoBlk (l ++ r) := by
 cases h with
 | last l j w hv _ => rw [List.append_assoc]; exact v_noblk hv
 | more l j w1 w2 s ks hv _ _ _ => rw [List.append_assoc]; exact v_noblk hv
theorem mbs_noblk {l r : List Int} {ms : List (List Int × J)} (h : Mbs l ms) : NoBlk (l ++ r) := by
 cases h with
 | last => exact noBlk_cons (by decide)
 | more => exact noBlk_cons (by decide)
theorem nonum_ws {w r : List Int} (hw : Ws w) (hr : NoNum r) : NoNum (w ++ r) := by
 cases w with
 | nil => exact hr
 | cons c w => exact .cons (by have := hw c List.mem_cons_self; unfold Blk at this; unfold NumC; omega)
def VC (l : List Int) : Prop := ∀ (a : ByteArray) (i k j : Nat) (r : List Int), a.size ≤ 65536 → (bytesOf a).drop i = l ++ r → NoNum r → 20 * l.length + a.size + 200 ≤ k → j = i + l.length → ∃ p : S31, spec_reader_value.f k a (i : Int) = some (p.f0, p.f1, p.f2, p.f3, p.f4, true, a, (j : Int))
def EC (l : List Int) : Prop := ∀ (a : ByteArray) (i k j : Nat) (r : List Int) (x6 : List S31), a.size ≤ 65536 → (bytesOf a).drop i = l ++ r → x6.length ≤ i → 20 * l.length + a.size + 200 ≤ k → j = i + l.length → ∃ ps, spec_reader_elements.l0 k x6 a (i : Int) = some (ps, true, a, (j : Int))
def MC (l : List Int) : Prop := ∀ (a : ByteArray) (i k j : Nat) (r : List Int) (x5 : List S54) (x6 : List S31), a.size ≤ 65536 → (bytesOf a).drop i = l ++ r → x5.length ≤ i → x6.length ≤ i → 20 * l.length + a.size + 200 ≤ k → j = i + l.length → ∃ ns ps, spec_reader_members.l0 k x5 x6 a (i : Int) = some (ns, ps, true, a, (j : Int))
theorem le_of_drop {a : ByteArray} {i : Nat} {l r : List Int} (h : (bytesOf a).drop i = l ++ r) (hl : l ≠ []) : i + l.length ≤ a.size := by
 match l, hl with
 | c :: l, _ => exact Stp.le h (Nat.le_of_lt (sz_lt h))
theorem w_nul : bytesOf ⟨#[110, 117, 108, 108]⟩ = [110, 117, 108, 108] := by decide
theorem w_fal : bytesOf ⟨#[102, 97, 108, 115, 101]⟩ = [102, 97, 108, 115, 101] := by decide
theorem w_tru : bytesOf ⟨#[116, 114, 117, 101]⟩ = [116, 114, 117, 101] := by decide
theorem vc_atom {l : List Int} (h : AtomOk l) : VC l := by
 intro a i k j r hn hd hr hk hj; obtain ⟨k, rfl⟩ : ∃ m, k = m + 2 := ⟨k - 2, by omega⟩
 simp only [spec_reader_value.f]; have hne : l ≠ [] := v_ne (.atom l h); have hle := le_of_drop hd hne
 rcases h with rfl | rfl | rfl | h
 ·rw [here_cons (c := 110) (r := [117, 108, 108] ++ r) hd]; simp only [Option.bind_some]; rw [if_neg (by decide), if_neg (by decide), if_neg (by decide), if_neg (by decide), if_pos (by decide)]; simp only [spec_reader_value.j0]; rw [if_neg (by simp), word_yes a hn i j ⟨#[110, 117, 108, 108]⟩ (by decide) r (by omega) (by rw [w_nul]; exact hd) hj]; simp only [Option.bind_some]; rw [if_pos trivial]; exact ⟨⟨_, _, _, _, _⟩, rfl⟩
 ·rw [here_cons (c := 102) (r := [97, 108, 115, 101] ++ r) hd]; simp only [Option.bind_some]; rw [if_neg (by decide), if_neg (by decide), if_neg (by decide), if_neg (by decide), if_pos (by decide)]; simp only [spec_reader_value.j0]; rw [if_neg (by simp), word_no a hn i ⟨#[110, 117, 108, 108]⟩ (by decide) (by omega) (by intro q e; rw [w_nul, hd] at e; injection e with e1 _; omega)]; simp only [Option.bind_some]; rw [if_neg (by simp), word_yes a hn i j ⟨#[102, 97, 108, 115, 101]⟩ (by decide) r (by omega) (by rw [w_fal]; exact hd) hj]; simp only [Option.bind_some]; rw [if_pos trivial]; exact ⟨⟨_, _, _, _, _⟩, rfl⟩
 ·rw [here_cons (c := 116) (r := [114, 117, 101] ++ r) hd]; simp only [Option.bind_some]; rw [if_neg (by decide), if_neg (by decide), if_neg (by decide), if_neg (by decide), if_pos (by decide)]; simp only [spec_reader_value.j0]; rw [if_neg (by simp), word_no a hn i ⟨#[110, 117, 108, 108]⟩ (by decide) (by omega) (by intro q e; rw [w_nul, hd] at e; injection e with e1 _; omega)]; simp only [Option.bind_some]; rw [if_neg (by decide), word_no a hn i ⟨#[102, 97, 108, 115, 101]⟩ (by decide) (by omega) (by intro q e; rw [w_fal, hd] at e; injection e with e1 _; omega)]; simp only [Option.bind_some]; rw [if_neg (by decide), word_yes a hn i j ⟨#[116, 114, 117, 101]⟩ (by decide) r (by omega) (by rw [w_tru]; exact hd) hj]; simp only [Option.bind_some]; rw [if_pos trivial]; exact ⟨⟨_, _, _, _, _⟩, rfl⟩
 ·have hN := h; obtain ⟨_, c, s, rfl, hc⟩ := h.c; rw [here_cons (c := c) (r := s ++ r) hd]; simp only [Option.bind_some]; have key : ∃ p : S31, spec_reader_value.j0 (k + 1) true true a (i : Int) 0 (i : Int) 0 = some (p.f0, p.f1, p.f2, p.f3, p.f4, true, a, (j : Int)) := by
   simp only [spec_reader_value.j0]; rw [if_pos trivial, number_c a hn i k j (c :: s) r hd hN hr (by simp at hk; omega) hj]; exact ⟨⟨_, _, _, _, _⟩, rfl⟩
  rw [if_neg (by omega), if_neg (by omega), if_neg (by omega)]
  by_cases h45 : c = 45
  ·rw [if_pos h45]; exact key
  ·rw [if_neg h45, if_pos (by omega), show decide (c ≤ 57) = true from decide_eq_true (by omega)]; exact key
theorem vc_str {s : List Int} (hs : SB s) : VC (34 :: (s ++ [34])) := by
 intro a i k j r hn hd hr hk hj; obtain ⟨k, rfl⟩ : ∃ m, k = m + 1 := ⟨k - 1, by omega⟩
 have hd : (bytesOf a).drop i = 34 :: (s ++ 34 :: r) := by rw [hd]; simp
 have hl : (34 :: (s ++ [34])).length = s.length + 2 := by simp
 rw [hl] at hk hj; simp only [spec_reader_value.f]; rw [here_cons hd]; simp only [Option.bind_some]; rw [if_neg (by decide), if_neg (by decide), if_pos trivial, quoted_c a hn i k j s r hd hs (by omega) (by omega)]; exact ⟨⟨_, _, _, _, _⟩, rfl⟩
theorem vc_el (a : ByteArray) (i k j : Nat) (r z : List Int) (hd : (bytesOf a).drop i = 91 :: z) (hk : 1 ≤ k) (h : ∃ ps, spec_reader_elements.f (k - 1) a (i : Int) = some (ps, true, a, (j : Int))) :
  ∃ p : S31, spec_reader_value.f k a (i : Int) = some (p.f0, p.f1, p.f2, p.f3, p.f4, true, a, (j : Int)) := by
 obtain ⟨k, rfl⟩ : ∃ m, k = m + 1 := ⟨k - 1, by omega⟩
 obtain ⟨ps, h⟩ := h; rw [show k + 1 - 1 = k by omega] at h; simp only [spec_reader_value.f]; rw [here_cons hd]; simp only [Option.bind_some]; rw [if_neg (by decide), if_pos trivial, h]; exact ⟨⟨_, _, _, _, _⟩, rfl⟩
theorem vc_mb (a : ByteArray) (i k j : Nat) (r z : List Int) (hd : (bytesOf a).drop i = 123 :: z) (hk : 1 ≤ k) (h : ∃ ns ps, spec_reader_members.f (k - 1) a (i : Int) = some (ns, ps, true, a, (j : Int))) :
  ∃ p : S31, spec_reader_value.f k a (i : Int) = some (p.f0, p.f1, p.f2, p.f3, p.f4, true, a, (j : Int)) := by
 obtain ⟨k, rfl⟩ : ∃ m, k = m + 1 := ⟨k - 1, by omega⟩
 obtain ⟨ns, ps, h⟩ := h; rw [show k + 1 - 1 = k by omega] at h; simp only [spec_reader_value.f]; rw [here_cons hd]; simp only [Option.bind_some]; rw [if_pos trivial, h]; exact ⟨⟨_, _, _, _, _⟩, rfl⟩
theorem nb93 (r : List Int) : NoBlk (93 :: r) := noBlk_cons (by decide)
theorem nb125 (r : List Int) : NoBlk (125 :: r) := noBlk_cons (by decide)
theorem nb44 (r : List Int) : NoBlk (44 :: r) := noBlk_cons (by decide)
theorem nb58 (r : List Int) : NoBlk (58 :: r) := noBlk_cons (by decide)
theorem nn93 (r : List Int) : NoNum (93 :: r) := .cons (by unfold NumC; omega)
theorem nn125 (r : List Int) : NoNum (125 :: r) := .cons (by unfold NumC; omega)
theorem nn44 (r : List Int) : NoNum (44 :: r) := .cons (by unfold NumC; omega)
theorem vc_arr0 {w : List Int} (hw : Ws w) : VC (91 :: (w ++ [93])) := by
 intro a i k j r hn hd hr hk hj; have hd : (bytesOf a).drop i = 91 :: (w ++ 93 :: r) := by rw [hd]; simp
 have hl : (91 :: (w ++ [93])).length = w.length + 2 := by simp
 rw [hl] at hk hj; have hlt := sz_lt hd; refine vc_el a i k j r _ hd (by omega) ?_; obtain ⟨k, rfl⟩ : ∃ m, k = m + 2 := ⟨k - 2, by omega⟩
 have h1 := drop_next hd
 show ∃ ps, spec_reader_elements.f (k + 1) a (i : Int) = _
 simp only [spec_reader_elements.f]; rw [w64_1 (by omega), blanks_c a hn (i + 1) k (i + 1 + w.length) w (93 :: r) h1 hw (nb93 r) (by omega) rfl]; simp only [Option.bind_some]; rw [take_yes hn (drop_app h1)]; simp only [Option.bind_some]; rw [if_pos trivial]; exact ⟨_, by rw [hj]; rw [show i + (w.length + 2) = i + 1 + w.length + 1 by omega]⟩
theorem vc_obj0 {w : List Int} (hw : Ws w) : VC (123 :: (w ++ [125])) := by
 intro a i k j r hn hd hr hk hj; have hd : (bytesOf a).drop i = 123 :: (w ++ 125 :: r) := by rw [hd]; simp
 have hl : (123 :: (w ++ [125])).length = w.length + 2 := by simp
 rw [hl] at hk hj; have hlt := sz_lt hd; refine vc_mb a i k j r _ hd (by omega) ?_; obtain ⟨k, rfl⟩ : ∃ m, k = m + 2 := ⟨k - 2, by omega⟩
 have h1 := drop_next hd
 show ∃ ns ps, spec_reader_members.f (k + 1) a (i : Int) = _
 simp only [spec_reader_members.f]; rw [w64_1 (by omega), blanks_c a hn (i + 1) k (i + 1 + w.length) w (125 :: r) h1 hw (nb125 r) (by omega) rfl]; simp only [Option.bind_some]; rw [take_yes hn (drop_app h1)]; simp only [Option.bind_some]; rw [if_pos trivial]; exact ⟨_, _, by rw [hj]; rw [show i + (w.length + 2) = i + 1 + w.length + 1 by omega]⟩
theorem els_head {l : List Int} {ks : List J} (h : Els l ks) (r : List Int) : ∀ q, l ++ r ≠ 93 :: q := by
 have : ∀ {l : List Int} {j : J}, V l j → ∀ (r q : List Int), l ++ r ≠ 93 :: q := fun hv r q e => by
  cases hv with
  | atom l h =>
   rcases h with rfl | rfl | rfl | h
   ·injection e with e _; omega
   ·injection e with e _; omega
   ·injection e with e _; omega
   ·obtain ⟨_, c, s, rfl, hc⟩ := h.c; injection e with e _; omega
  | _ => injection e with e _; omega
 cases h with
 | last l j w hv _ => intro q; rw [List.append_assoc]; exact this hv _ q
 | more l j w1 w2 s ks hv _ _ _ => intro q; rw [List.append_assoc]; exact this hv _ q
theorem vc_arr {w l : List Int} {ks : List J} (hw : Ws w) (hl : Els l ks) (he : EC l) : VC (91 :: (w ++ l)) := by
 intro a i k j r hn hd hr hk hj; have hd : (bytesOf a).drop i = 91 :: (w ++ (l ++ r)) := by rw [hd]; simp
 have hlen : (91 :: (w ++ l)).length = w.length + l.length + 1 := by simp <;> omega
 rw [hlen] at hk hj; have hlt := sz_lt hd; refine vc_el a i k j r _ hd (by omega) ?_; obtain ⟨k, rfl⟩ : ∃ m, k = m + 2 := ⟨k - 2, by omega⟩
 have h1 := drop_next hd; have h2 := drop_app h1
 show ∃ ps, spec_reader_elements.f (k + 1) a (i : Int) = _
 simp only [spec_reader_elements.f]; rw [w64_1 (by omega), blanks_c a hn (i + 1) k (i + 1 + w.length) w (l ++ r) h1 hw (els_noblk hl) (by omega) rfl]; simp only [Option.bind_some]; rw [take_no hn (fun q => by rw [h2]; exact els_head hl r q)]; simp only [Option.bind_some]; rw [if_neg (by decide)]; obtain ⟨ps, h⟩ := he a (i + 1 + w.length) k j r [] hn h2 (Nat.zero_le _) (by omega) (by omega); rw [h]; exact ⟨_, rfl⟩
theorem mbs_head {l : List Int} {ms : List (List Int × J)} (h : Mbs l ms) (r : List Int) : (∀ q, l ++ r ≠ 125 :: q) := by
 cases h with
 | last => intro q e; injection e with e _; omega
 | more => intro q e; injection e with e _; omega
theorem vc_obj {w l : List Int} {ms : List (List Int × J)} (hw : Ws w) (hl : Mbs l ms) (he : MC l) : VC (123 :: (w ++ l)) := by
 intro a i k j r hn hd hr hk hj; have hd : (bytesOf a).drop i = 123 :: (w ++ (l ++ r)) := by rw [hd]; simp
 have hlen : (123 :: (w ++ l)).length = w.length + l.length + 1 := by simp <;> omega
 rw [hlen] at hk hj; have hlt := sz_lt hd; refine vc_mb a i k j r _ hd (by omega) ?_; obtain ⟨k, rfl⟩ : ∃ m, k = m + 2 := ⟨k - 2, by omega⟩
 have h1 := drop_next hd; have h2 := drop_app h1
 show ∃ ns ps, spec_reader_members.f (k + 1) a (i : Int) = _
 simp only [spec_reader_members.f]; rw [w64_1 (by omega), blanks_c a hn (i + 1) k (i + 1 + w.length) w (l ++ r) h1 hw (mbs_noblk hl) (by omega) rfl]; simp only [Option.bind_some]; rw [take_no hn (fun q => by rw [h2]; exact mbs_head hl r q)]; simp only [Option.bind_some]; rw [if_neg (by decide)]; obtain ⟨ns, ps, h⟩ := he a (i + 1 + w.length) k j r [] [] hn h2 (Nat.zero_le _) (Nat.zero_le _) (by omega) (by omega); rw [h]; exact ⟨_, _, rfl⟩
theorem v_len1 {l : List Int} {j : J} (h : V l j) : 1 ≤ l.length := List.length_pos_iff.mpr (v_ne h)
theorem ec_last {l w : List Int} {j : J} (hv : V l j) (hl : VC l) (hw : Ws w) : EC (l ++ (w ++ [93])) := by
 intro a i k j r x6 hn hd hx hk hj; have hd : (bytesOf a).drop i = l ++ (w ++ 93 :: r) := by rw [hd]; simp
 have hlen : (l ++ (w ++ [93])).length = l.length + w.length + 1 := by simp <;> omega
 rw [hlen] at hk hj; obtain ⟨k, rfl⟩ : ∃ m, k = m + 1 := ⟨k - 1, by omega⟩
 have hle := le_of_drop hd (v_ne hv); have h1 := drop_app hd; have h2 := drop_app h1; obtain ⟨p, hp⟩ := hl a i k (i + l.length) (w ++ 93 :: r) hn hd (nonum_ws hw (nn93 r)) (by omega) rfl; simp only [spec_reader_elements.l0]; rw [hp]; simp only [Option.bind_some, if_true]; rw [if_pos (by omega), blanks_c a hn (i + l.length) k (i + l.length + w.length) w (93 :: r) h1 hw (nb93 r) (by omega) rfl]; simp only [Option.bind_some]; rw [take_yes hn h2]; simp only [Option.bind_some]; rw [if_pos trivial]; exact ⟨_, by rw [hj]; rw [show i + (l.length + w.length + 1) = i + l.length + w.length + 1 by omega]⟩
theorem ec_more {l w1 w2 z : List Int} {j : J} {ks : List J} (hv : V l j) (hl : VC l) (hw1 : Ws w1) (hw2 : Ws w2) (hz : Els z ks) (he : EC z) : EC (l ++ (w1 ++ 44 :: (w2 ++ z))) := by
 intro a i k j r x6 hn hd hx hk hj; have hd : (bytesOf a).drop i = l ++ (w1 ++ 44 :: (w2 ++ (z ++ r))) := by rw [hd]; simp
 have hlen : (l ++ (w1 ++ 44 :: (w2 ++ z))).length = l.length + w1.length + 1 + w2.length + z.length := by simp <;> omega
 rw [hlen] at hk hj; obtain ⟨k, rfl⟩ : ∃ m, k = m + 1 := ⟨k - 1, by omega⟩
 have hle := le_of_drop hd (v_ne hv); have h1 := drop_app hd; have h2 := drop_app h1; have h3 := drop_next h2; have h4 := drop_app h3; have hl1 := v_len1 hv; obtain ⟨p, hp⟩ := hl a i k (i + l.length) (w1 ++ 44 :: (w2 ++ (z ++ r))) hn hd (nonum_ws hw1 (nn44 _)) (by omega) rfl; simp only [spec_reader_elements.l0]; rw [hp]; simp only [Option.bind_some, if_true]; rw [if_pos (by omega), blanks_c a hn (i + l.length) k (i + l.length + w1.length) w1 _ h1 hw1 (nb44 _) (by omega) rfl]; simp only [Option.bind_some]; rw [take_no hn (fun q e => by rw [h2] at e; injection e with e _; omega)]; simp only [Option.bind_some]; rw [if_neg (by decide), take_yes hn h2]; simp only [Option.bind_some]; rw [if_pos trivial, blanks_c a hn _ k (i + l.length + w1.length + 1 + w2.length) w2 _ h3 hw2 (els_noblk hz) (by omega) rfl]; simp only [Option.bind_some]
 exact he a _ k j r _ hn h4 (by simp; omega) (by omega) (by omega)
theorem mc_last {s u w1 w2 l w3 : List Int} {j : J} (hs : SB s) (hw1 : Ws w1) (hw2 : Ws w2) (hv : V l j) (hl : VC l) (hw3 : Ws w3) : MC (34 :: (s ++ 34 :: (w1 ++ 58 :: (w2 ++ (l ++ (w3 ++ [125])))))) := by
 intro a i k j r x5 x6 hn hd hx5 hx6 hk hj; have hd : (bytesOf a).drop i = 34 :: (s ++ 34 :: (w1 ++ 58 :: (w2 ++ (l ++ (w3 ++ 125 :: r))))) := by rw [hd]; simp
 have hlen : (34 :: (s ++ 34 :: (w1 ++ 58 :: (w2 ++ (l ++ (w3 ++ [125])))))).length = s.length + w1.length + w2.length + l.length + w3.length + 4 := by simp <;> omega
 rw [hlen] at hk hj; obtain ⟨k, rfl⟩ : ∃ m, k = m + 2 := ⟨k - 2, by omega⟩
 have hlt := sz_lt hd; obtain ⟨i1, hi1⟩ : ∃ x, x = i + s.length + 2 := ⟨_, rfl⟩
 have d1 : (bytesOf a).drop i1 = w1 ++ 58 :: (w2 ++ (l ++ (w3 ++ 125 :: r))) := app_drop (w := 34 :: (s ++ [34])) (by rw [hd]; simp) (by simp <;> omega); obtain ⟨i2, hi2⟩ : ∃ x, x = i1 + w1.length := ⟨_, rfl⟩
 have d2 := app_drop d1 hi2; obtain ⟨i3, hi3⟩ : ∃ x, x = i2 + 1 := ⟨_, rfl⟩
 have d3 := drop_next d2; rw [← hi3] at d3; obtain ⟨i4, hi4⟩ : ∃ x, x = i3 + w2.length := ⟨_, rfl⟩
 have d4 := app_drop d3 hi4; obtain ⟨i5, hi5⟩ : ∃ x, x = i4 + l.length := ⟨_, rfl⟩
 have d5 := app_drop d4 hi5; obtain ⟨i6, hi6⟩ : ∃ x, x = i5 + w3.length := ⟨_, rfl⟩
 have d6 := app_drop d5 hi6; have hle := le_of_drop d4 (v_ne hv); have hl1 := v_len1 hv; have b5 : (x5.length : Int) + 1 ≤ 140737488355328 := by omega
 have b6 : (x6.length : Int) + 1 ≤ 140737488355328 := by omega
 obtain ⟨p, hp⟩ := hl a i4 k i5 _ hn d4 (nonum_ws hw3 (nn125 r)) (by omega) hi5; have q0 := quoted_c a hn i (k + 1) i1 s _ hd hs (by omega) hi1; have q1 := blanks_c a hn i1 k i2 w1 _ d1 hw1 (nb58 _) (by omega) hi2; have q2 := take_yes hn d2; rw [← hi3] at q2; have q3 := blanks_c a hn i3 k i4 w2 _ d3 hw2 (v_noblk hv) (by omega) hi4; have q5 := blanks_c a hn i5 k i6 w3 _ d5 hw3 (nb125 _) (by omega) hi6; have q6 := take_yes hn d6; rw [show i6 + 1 = j by omega] at q6; simp only [spec_reader_members.l0]; rw [here_cons hd]
 repeat rw [Option.bind_some]
 (try dsimp only); rw [if_pos rfl, q0]
 repeat rw [Option.bind_some]
 simp only [spec_reader_members.j1]; rw [if_neg (by decide), if_pos (by omega), q1]
 repeat rw [Option.bind_some]
 (try dsimp only); rw [q2]
 repeat rw [Option.bind_some]
 (try dsimp only); rw [if_pos rfl, q3]
 repeat rw [Option.bind_some]
 (try dsimp only); rw [hp]
 repeat rw [Option.bind_some]
 (try dsimp only); rw [if_pos rfl, if_pos (by omega), q5]
 repeat rw [Option.bind_some]
 (try dsimp only); rw [q6]
 repeat rw [Option.bind_some]
 (try dsimp only); rw [if_pos rfl]; exact ⟨_, _, rfl⟩
theorem mc_more {s u w1 w2 l w3 w4 z : List Int} {j : J} {ms : List (List Int × J)} (hs : SB s) (hw1 : Ws w1) (hw2 : Ws w2) (hv : V l j) (hl : VC l) (hw3 : Ws w3) (hw4 : Ws w4) (hz : Mbs z ms) (he : MC z) : MC (34 :: (s ++ 34 :: (w1 ++ 58 :: (w2 ++ (l ++ (w3 ++ 44 :: (w4 ++ z))))))) := by
 intro a i k j r x5 x6 hn hd hx5 hx6 hk hj; have hd : (bytesOf a).drop i = 34 :: (s ++ 34 :: (w1 ++ 58 :: (w2 ++ (l ++ (w3 ++ 44 :: (w4 ++ (z ++ r))))))) := by rw [hd]; simp
 have hlen : (34 :: (s ++ 34 :: (w1 ++ 58 :: (w2 ++ (l ++ (w3 ++ 44 :: (w4 ++ z))))))).length = s.length + w1.length + w2.length + l.length + w3.length + 4 + w4.length + z.length := by simp <;> omega
 rw [hlen] at hk hj; obtain ⟨k, rfl⟩ : ∃ m, k = m + 2 := ⟨k - 2, by omega⟩
 have hlt := sz_lt hd; obtain ⟨i1, hi1⟩ : ∃ x, x = i + s.length + 2 := ⟨_, rfl⟩
 have d1 : (bytesOf a).drop i1 = w1 ++ 58 :: (w2 ++ (l ++ (w3 ++ 44 :: (w4 ++ (z ++ r))))) := app_drop (w := 34 :: (s ++ [34])) (by rw [hd]; simp) (by simp <;> omega); obtain ⟨i2, hi2⟩ : ∃ x, x = i1 + w1.length := ⟨_, rfl⟩
 have d2 := app_drop d1 hi2; obtain ⟨i3, hi3⟩ : ∃ x, x = i2 + 1 := ⟨_, rfl⟩
 have d3 := drop_next d2; rw [← hi3] at d3; obtain ⟨i4, hi4⟩ : ∃ x, x = i3 + w2.length := ⟨_, rfl⟩
 have d4 := app_drop d3 hi4; obtain ⟨i5, hi5⟩ : ∃ x, x = i4 + l.length := ⟨_, rfl⟩
 have d5 := app_drop d4 hi5; obtain ⟨i6, hi6⟩ : ∃ x, x = i5 + w3.length := ⟨_, rfl⟩
 have d6 := app_drop d5 hi6; have hle := le_of_drop d4 (v_ne hv); have hl1 := v_len1 hv; have b5 : (x5.length : Int) + 1 ≤ 140737488355328 := by omega
 have b6 : (x6.length : Int) + 1 ≤ 140737488355328 := by omega
 obtain ⟨p, hp⟩ := hl a i4 k i5 _ hn d4 (nonum_ws hw3 (nn44 _)) (by omega) hi5; have q0 := quoted_c a hn i (k + 1) i1 s _ hd hs (by omega) hi1; have q1 := blanks_c a hn i1 k i2 w1 _ d1 hw1 (nb58 _) (by omega) hi2; have q2 := take_yes hn d2; rw [← hi3] at q2; have q3 := blanks_c a hn i3 k i4 w2 _ d3 hw2 (v_noblk hv) (by omega) hi4; have q5 := blanks_c a hn i5 k i6 w3 _ d5 hw3 (nb44 _) (by omega) hi6; obtain ⟨i7, hi7⟩ : ∃ x, x = i6 + 1 := ⟨_, rfl⟩
 have d7 := drop_next d6; rw [← hi7] at d7; obtain ⟨i8, hi8⟩ : ∃ x, x = i7 + w4.length := ⟨_, rfl⟩
 have d8 := app_drop d7 hi8; have q6 := take_no (c := 125) hn (fun q e => by rw [d6] at e; injection e with e _; omega); have q7 := take_yes hn d6; rw [← hi7] at q7; have q8 := blanks_c a hn i7 k i8 w4 _ d7 hw4 (mbs_noblk hz) (by omega) hi8; simp only [spec_reader_members.l0]; rw [here_cons hd]
 repeat rw [Option.bind_some]
 (try dsimp only); rw [if_pos rfl, q0]
 repeat rw [Option.bind_some]
 simp only [spec_reader_members.j1]; rw [if_neg (by decide), if_pos (by omega), q1]
 repeat rw [Option.bind_some]
 (try dsimp only); rw [q2]
 repeat rw [Option.bind_some]
 (try dsimp only); rw [if_pos rfl, q3]
 repeat rw [Option.bind_some]
 (try dsimp only); rw [hp]
 repeat rw [Option.bind_some]
 (try dsimp only); rw [if_pos rfl, if_pos (by omega), q5]
 repeat rw [Option.bind_some]
 (try dsimp only); rw [q6]
 repeat rw [Option.bind_some]
 (try dsimp only); rw [if_neg (by decide), q7]
 repeat rw [Option.bind_some]
 (try dsimp only); rw [if_pos rfl, q8]
 repeat rw [Option.bind_some]
 (try dsimp only); exact he a _ k j r _ _ hn d8 (by rw [List.length_append]; simp only [List.length_cons, List.length_nil]; omega) (by rw [List.length_append]; simp only [List.length_cons, List.length_nil]; omega) (by omega) (by omega)
theorem vc_all {l : List Int} {j : J} (h : V l j) : VC l := by
 refine V.rec (motive_1 := fun l _ _ => VC l) (motive_2 := fun l _ _ => EC l) (motive_3 := fun l _ _ => MC l) ?_ ?_ ?_ ?_ ?_ ?_ ?_ ?_ ?_ ?_ h
 ·intro l h; exact vc_atom h
 ·intro s h; exact vc_str h
 ·intro w h; exact vc_arr0 h
 ·intro w l ks hw h ih; exact vc_arr hw h ih
 ·intro w h; exact vc_obj0 h
 ·intro w l ms hw h ih; exact vc_obj hw h ih
 ·intro l j w hv hw ih; exact ec_last hv ih hw
 ·intro l j w1 w2 r ks hv h1 h2 hz ih1 ih2; exact ec_more hv ih1 h1 h2 hz ih2
 ·intro s u w1 w2 l j w3 hu h1 h2 hv h3 ih; exact mc_last (u := u) hu.SB h1 h2 hv ih h3
 ·intro s u w1 w2 l j w3 w4 r ms hu h1 h2 hv h3 h4 hz ih1 ih2; exact mc_more (u := u) hu.SB h1 h2 hv ih1 h3 h4 hz ih2
theorem places_c (a : ByteArray) (hn : a.size ≤ 65536) (j : J) (h : V (bytesOf a) j) (k : Nat) (hk : 2000000 ≤ k) : ∃ p : S31, spec_Places.f k a = some (p.f0, p.f1, p.f2, p.f3, p.f4, true) := by
 have hd : (bytesOf a).drop 0 = bytesOf a ++ [] := by simp
 have hl : (bytesOf a).length = a.size := bytesOf_length a; unfold spec_Places.f; have e1 := blanks_c a hn 0 k 0 [] (bytesOf a ++ []) (by rw [hd]; rfl) ws_nil (v_noblk h) (by omega) rfl; have e1 : spec_reader_blanks.f k a 0 = some (a, ((0 : Nat) : Int)) := e1; rw [e1]; simp only [Option.bind_some]; obtain ⟨p, hp⟩ := vc_all h a 0 k a.size [] hn hd (fun c r e => by cases e) (by omega) (by omega); rw [hp]; simp only [Option.bind_some, if_true]; have e2 := blanks_c a hn a.size k a.size [] [] (by rw [List.drop_eq_nil_of_le (by omega)]; rfl) ws_nil (fun c r e => by cases e) (by omega) rfl; rw [e2]; simp only [Option.bind_some]; rw [if_pos trivial]; exact ⟨p, rfl⟩
theorem places_up (a : ByteArray) {r : Int × Int × Int × List S54 × List S31 × Bool} {k0 : Nat} (h : spec_Places.f k0 a = some r) (k : Nat) (hk : k0 ≤ k) : spec_Places.f k a = some r := by
 obtain ⟨m, rfl⟩ : ∃ m, k = k0 + m := ⟨k - k0, by omega⟩
 induction m with
 | zero => exact h
 | succ m ih => exact spec_Places.mono a _ _ (ih (by omega))
theorem read_f (a : ByteArray) (hn : a.size ≤ 65536) : ∃ K, ∃ (n : S25) (ok : Bool), (∀ k, K ≤ k → spec_Read.f k a = some (n.f0, n.f1, n.f2, n.f3, ok)) ∧ DepOk n ∧ (ok = true → ∃ p l j, (∃ w v, bytesOf a = w ++ (l ++ v) ∧ Ws w ∧ Ws v) ∧ V l j ∧ Rl (bytesOf a) p j ∧ (∀ k, 1000000 ≤ k → spec_Places.f k a = some (p.f0, p.f1, p.f2, p.f3, p.f4, true)) ∧ n.f0 = p.f0) ∧
  ((∃ j, V (bytesOf a) j) → ok = true) := by
 obtain ⟨r0, hr0, hok0⟩ := places_all a hn 1000000 (Nat.le_refl _); have hpl := places_up a hr0; have hyes : (∃ j, V (bytesOf a) j) → r0.2.2.2.2.2 = true := fun ⟨j, hj⟩ => by
  obtain ⟨p, hp⟩ := places_c a hn j hj 2000000 (Nat.le_refl _); rw [hpl 2000000 (by omega)] at hp; injection hp with hp
  rw [hp]
 by_cases ok : r0.2.2.2.2.2 = true
 rotate_left
 ·refine ⟨1000000, ⟨0, ⟨#[]⟩, [], []⟩, false, fun k hk => ?_, dep_of _ (by show ([] : List ByteArray).length ≤ 100000; simp) (by show ([] : List S25).length ≤ 100000; simp) (fun x hx => by cases hx), (fun h => by cases h), fun h => absurd (hyes h) ok⟩; unfold spec_Read.f; rw [hpl k hk, Option.bind_some, if_neg ok]
 obtain ⟨p, w, l, v, j, e, hw, hv, hV, rfl, hRl, hT⟩ := hok0 ok; obtain ⟨K, n, h1, h2, h3, h4, h5⟩ := tree_all a hn hRl; refine ⟨K + 1000000, n, true, fun k hk => ?_, h2, fun _ => ⟨p, l, j, ⟨w, v, e, hw, hv⟩, hV, hRl, hpl, h3⟩, fun _ => rfl⟩; unfold spec_Read.f; rw [hpl k (by omega), Option.bind_some, if_pos rfl]; dsimp only; rw [h1 k (by omega)]; rfl
theorem gjText_f (a : ByteArray) : ∃ K, ∃ (n : S25) (ok : Bool), (∀ k, K ≤ k → laws_gjText.f k a = some (n.f0, n.f1, n.f2, n.f3, ok)) ∧ DepOk n ∧ (ok = true → a.size ≤ 65536 ∧ ∃ p l j, (∃ w v, bytesOf a = w ++ (l ++ v) ∧ Ws w ∧ Ws v) ∧ V l j ∧ Rl (bytesOf a) p j ∧ (∀ k, 1000000 ≤ k → spec_Places.f k a = some (p.f0, p.f1, p.f2, p.f3, p.f4, true)) ∧ n.f0 = p.f0) := by
 have hempty : DepOk ⟨0, ⟨#[]⟩, [], []⟩ := dep_of _ (by show ([] : List ByteArray).length ≤ 100000; simp) (by show ([] : List S25).length ≤ 100000; simp) (fun x hx => by cases hx)
 by_cases hsz : a.size ≤ 65536
 rotate_left
 ·refine ⟨1, ⟨0, ⟨#[]⟩, [], []⟩, false, fun k hk => ?_, hempty, fun h => by cases h⟩; unfold laws_gjText.f; rw [if_pos (by omega)]
 obtain ⟨K, n, ok, h1, h2, h3, _⟩ := read_f a hsz; obtain ⟨b1, hb1⟩ := utf8_tot a hsz 100000 (Nat.le_refl _); obtain ⟨b2, hb2⟩ := paired_tot a hsz 100000 (Nat.le_refl _); have hu1 : ∀ m, spec_UTF8.f (100000 + m) a = some b1 := fun m => by
  induction m with
  | zero => exact hb1
  | succ m ih => exact spec_UTF8.mono a _ _ ih
 have hu2 : ∀ m, spec_Paired.f (100000 + m) a = some b2 := fun m => by
  induction m with
  | zero => exact hb2
  | succ m ih => exact spec_Paired.mono a _ _ ih
 cases b1 with
 | false =>
  refine ⟨100000, ⟨0, ⟨#[]⟩, [], []⟩, false, fun k hk => ?_, hempty, fun h => by cases h⟩; unfold laws_gjText.f; rw [if_neg (by omega), show k = 100000 + (k - 100000) by omega, hu1, Option.bind_some, if_neg (by decide)]
 | true =>
  cases b2 with
  | false =>
   refine ⟨100000, ⟨0, ⟨#[]⟩, [], []⟩, false, fun k hk => ?_, hempty, fun h => by cases h⟩; unfold laws_gjText.f; rw [if_neg (by omega), show k = 100000 + (k - 100000) by omega, hu1, Option.bind_some, if_pos rfl, hu2, Option.bind_some, if_neg (by decide)]
  | true =>
   refine ⟨K + 100000, n, ok, fun k hk => ?_, h2, fun h => ⟨hsz, h3 h⟩⟩; have e1 : spec_Read.f k a = some (n.f0, n.f1, n.f2, n.f3, ok) := h1 k (by omega); have e2 : spec_UTF8.f k a = some true := by rw [show k = 100000 + (k - 100000) by omega]; exact hu1 _
   have e3 : spec_Paired.f k a = some true := by rw [show k = 100000 + (k - 100000) by omega]; exact hu2 _
   unfold laws_gjText.f; rw [if_neg (by omega), e2, Option.bind_some, if_pos rfl, e3, Option.bind_some, if_pos rfl, e1]; rfl
theorem mx_int (a b : Nat) : mx (a : Int) (b : Int) = ((mxN a b : Nat) : Int) := by
 unfold mx mxN; split <;> split <;> omega
theorem mxN_assoc (a b c : Nat) : mxN (mxN a b) c = mxN a (mxN b c) := by
 unfold mxN; repeat' split
 all_goals omega
theorem mxN_le' {a b d : Nat} (ha : a ≤ d) (hb : b ≤ d) : mxN a b ≤ d := by unfold mxN; split <;> omega
theorem rd31' {l : List S31} {i : Nat} {p : S31} {r : List S31} (h : l.drop i = p :: r) : rd_T31 l (i : Int) = p := rd60 h
def DepthsOk (p : S31) (d : Nat) : Prop := ∃ K, ∀ k, K ≤ k → spec_Depths.f k p.f0 p.f1 p.f2 p.f3 p.f4 = some (d : Int)
theorem depths_l0 (ps : List S31) (hl : ps.length ≤ 65536) : ∀ (s : List S31) (ks : List J) (i v : Nat), ps.drop i = s → s.length = ks.length → (∀ q ∈ s.zip ks, DepthsOk q.1 (dep q.2)) → mxN v (depL ks) ≤ 100000 → v ≤ 100000 →
  ∃ K, ∀ k, K ≤ k → spec_Depths.l0 k (v : Int) ps (ps.length : Int) (i : Int) = some (((mxN v (depL ks) + 1 : Nat) : Int)) := by
 intro s
 induction s with
 | nil =>
  intro ks i v hs hk _ hb hv; have : ks = [] := List.length_eq_zero_iff.mp (by simpa using hk.symm); subst this; have hi : ps.length ≤ i := List.drop_eq_nil_iff.mp hs; refine ⟨1, fun k hk => ?_⟩; obtain ⟨k, rfl⟩ : ∃ m, k = m + 1 := ⟨k - 1, by omega⟩
  simp only [spec_Depths.l0]; rw [if_neg (by omega), depL, show mxN v 0 = v by unfold mxN; split <;> omega, w64_1 (by omega)]
 | cons p s ih =>
  intro ks i v hs hk hall hb hv
  match ks, hk with
  | j :: ks, hk =>
  have hlt := drop_lt hs; obtain ⟨K1, h1⟩ := hall (p, j) (by simp); rw [depL, ← mxN_assoc] at hb; have hb2 : mxN v (dep j) ≤ 100000 := (mxN_le hb).1; obtain ⟨K2, h2⟩ := ih ks (i + 1) (mxN v (dep j)) (drop_next hs) (by simpa using hk) (fun q hq => hall q (by simp [hq])) hb hb2; refine ⟨K1 + K2 + 1, fun k hk => ?_⟩; obtain ⟨k, rfl⟩ : ∃ m, k = m + 1 := ⟨k - 1, by omega⟩
  simp only [spec_Depths.l0]; rw [if_pos (by omega), if_pos (by omega), if_pos (by omega), rd31' hs, h1 k (by omega), Option.bind_some, mx_int, w64_1 (by omega), h2 k (by omega), depL, mxN_assoc]
theorem leafK_ne5 {t : List Int} {p : S31} (h : LeafK t p) : p.f0 ≠ 5 := by
 rcases h with ⟨h, _⟩ | ⟨h, _⟩ | h | h | h <;> omega
mutual
theorem depths_all (t : List Int) : ∀ {p : S31} {j : J}, Rl t p j → dep j ≤ 100000 → DepthsOk p (dep j)
 | _, _, .leaf p j h3 h4 hl hj => fun _ => ⟨1, fun k hk => by
  obtain ⟨k, rfl⟩ : ∃ m, k = m + 1 := ⟨k - 1, by omega⟩
  simp only [spec_Depths.f]; rw [if_neg (leafK_ne5 hl)]
  rcases hj with rfl | rfl <;> rfl⟩
 | _, _, .arr p ks h5 h3 hl h => fun hd => by
  rw [dep] at hd; obtain ⟨K, hK⟩ := depths_l0 p.f4 (by rw [rlL_len h]; exact hl) p.f4 ks 0 0 rfl (rlL_len h) (depths_els t h (by omega)) (mxN_le' (Nat.zero_le _) (by omega)) (Nat.zero_le _); refine ⟨K + 1, fun k hk => ?_⟩; obtain ⟨k, rfl⟩ : ∃ m, k = m + 1 := ⟨k - 1, by omega⟩
  simp only [spec_Depths.f]; have hK := hK k (by omega); rw [show mxN 0 (depL ks) = depL ks by unfold mxN; split <;> omega] at hK; rw [if_pos h5, dep]; exact hK
 | _, _, .obj p ms h6 hl h => fun _ => ⟨1, fun k hk => by
  obtain ⟨k, rfl⟩ : ∃ m, k = m + 1 := ⟨k - 1, by omega⟩
  simp only [spec_Depths.f]; rw [if_neg (by omega)]; rfl⟩
theorem depths_els (t : List Int) : ∀ {ps : List S31} {ks : List J}, RlL t ps ks → depL ks ≤ 100000 → ∀ q ∈ ps.zip ks, DepthsOk q.1 (dep q.2)
 | _, _, .nil => fun _ q hq => by cases hq
 | _, _, .cons p j ps ks h hs => fun hd q hq => by
  rw [depL] at hd; obtain ⟨g1, g2⟩ := mxN_le hd; rw [List.zip_cons_cons] at hq
  rcases List.mem_cons.mp hq with rfl | hq
  ·exact depths_all t h g1
  ·exact depths_els t hs g2 q hq
end
theorem dep_len {l : List Int} {j : J} (h : V l j) : dep j ≤ l.length := by
 refine V.rec (motive_1 := fun l j _ => dep j ≤ l.length) (motive_2 := fun l ks _ => depL ks ≤ l.length) (motive_3 := fun _ _ _ => True) ?_ ?_ ?_ ?_ ?_ ?_ ?_ ?_ ?_ ?_ h
 ·intro l _; rw [dep]; exact Nat.zero_le _
  all_goals (intro _ h; cases h)
 ·intro s _; rw [dep]; exact Nat.zero_le _
  all_goals (intro _ h; cases h)
 ·intro w _; rw [dep, depL]; simp
 ·intro w l ks _ _ ih; rw [dep]; simp; omega
 ·intro w _; rw [dep]; exact Nat.zero_le _
  all_goals (intro _ h; cases h)
 ·intro w l ms _ _ _; rw [dep]; exact Nat.zero_le _
  all_goals (intro _ h; cases h)
 ·intro l j w _ _ ih; rw [depL, depL]; exact mxN_le' (by simp; omega) (Nat.zero_le _)
 ·intro l j w1 w2 r ks _ _ _ _ ih1 ih2; rw [depL]; exact mxN_le' (by simp; omega) (by simp; omega)
 ·intros; trivial
 ·intros; trivial
theorem law_text {a : ByteArray} {p : S31} {l : List Int} {j : J} (ht : ∃ w v, bytesOf a = w ++ (l ++ v) ∧ Ws w ∧ Ws v) (hV : V l j) (hR : Rl (bytesOf a) p j) (h5 : p.f0 = 5) (hn : a.size ≤ 65536)
  (h1 : ¬ Blk (bt a 0)) (h2 : ¬ Blk (bt a ((a.size - 1 : Nat) : Int))) : ∃ (d : Nat) (b : List Int) (es ls : List (List Int)), ArrB (bytesOf a) b es ∧ Ne d es ls ∧ DepthsOk p (d + 1) ∧ d ≤ a.size := by
 obtain ⟨w, v, e, hw, hv⟩ := ht; have hlen := bytesOf_length a; have hl1 := v_len1 hV; have hw0 : w = [] := by
  match w, hw, e with
  | [], _, _ => rfl
  | c :: w, hw, e =>
   exfalso
   apply h1; rw [show (0 : Int) = ((0 : Nat) : Int) from rfl, bt_drop (a := a) (i := 0) (c := c) (r := w ++ (l ++ v)) (by rw [List.drop_zero, e]; rfl)]; exact hw c List.mem_cons_self
 subst hw0; have hv0 : v = [] := by
  rcases List.eq_nil_or_concat v with rfl | ⟨v', c, rfl⟩
  ·rfl
  ·exfalso
   apply h2; have hsz : a.size - 1 = l.length + v'.length := by rw [← hlen, e]; simp
   rw [hsz, bt_drop (a := a) (i := l.length + v'.length) (c := c) (r := []) (by rw [e]; simp [List.drop_append])]; exact hv c (by simp)
 subst hv0; rw [List.nil_append, List.append_nil] at e; have hdl := dep_len hV; rw [← e, hlen] at hdl; obtain ⟨ks, rfl⟩ : ∃ ks, j = .arr ks := by
  cases hR with
  | leaf p j _ _ hl _ => exact absurd h5 (leafK_ne5 hl)
  | arr p ks => exact ⟨ks, rfl⟩
  | obj p ms h6 => omega
 obtain ⟨b, es, hA, hs⟩ := arr_of hV; rw [dep] at hdl; obtain ⟨ls, hN⟩ := ne_of (depL ks) es ks hs (Nat.le_refl _); have hD := depths_all _ hR (by rw [dep]; omega); rw [dep] at hD; exact ⟨depL ks, b, es, ls, by rw [e]; exact hA, hN, hD, by omega⟩
end Go.Proofs.YtdacgdjjdifneaaGreatDoor.PFnGjFlattenOften
