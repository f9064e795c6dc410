/- Part of the proof of the card in text ZF. -/
import Derived.Test.YtdacgdjjdifneaaGreatDoorZM
import Derived.Test.YtdacgdjjdifneaaGreatDoorZA
import Derived.Outline
import Derived.Laws.Closers25b
import Derived.Test.YtdacgdjjdifneaaGreatDoorZN
set_option linter.all false
set_option maxHeartbeats 16000000
set_option maxRecDepth 100000
namespace Go.Proofs.YtdacgdjjdifneaaGreatDoor.PFnGjFlattenOften
def Sol (c : Int) : Prop := 33 ≤ c ∧ c ≤ 126
structure SolT (e : List Int) : Prop where
 first : ∃ c r, e = c :: r ∧ Sol c
 last : ∃ r c, e = r ++ [c] ∧ Sol c
theorem sol_num {c : Int} (h : NumC c) : Sol c := by unfold NumC at h; unfold Sol; omega
theorem ne_last {e : List Int} (h : e ≠ []) : ∃ r c, e = r ++ [c] := by
 rcases List.eq_nil_or_concat e with rfl | ⟨r, c, rfl⟩
 ·exact absurd rfl h
 ·exact ⟨r, c, by simp⟩
theorem mbs_last {l : List Int} {ms : List (List Int × J)} (h : Mbs l ms) : ∃ r, l = r ++ [125] := by
 refine Mbs.rec (motive_1 := fun _ _ _ => True) (motive_2 := fun _ _ _ => True) (motive_3 := fun l ms _ => ∃ r, l = r ++ [125]) ?_ ?_ ?_ ?_ ?_ ?_ ?_ ?_ ?_ ?_ h
 all_goals first | (intros; trivial) | skip
 ·intro s u w1 w2 l j w3 _ _ _ _ _ _; exact ⟨34 :: (s ++ 34 :: (w1 ++ 58 :: (w2 ++ (l ++ w3)))), by simp⟩
 ·intro s u w1 w2 l j w3 w4 r ms _ _ _ _ _ _ _ _ ih; obtain ⟨r', rfl⟩ := ih; exact ⟨34 :: (s ++ 34 :: (w1 ++ 58 :: (w2 ++ (l ++ (w3 ++ 44 :: (w4 ++ r')))))), by simp⟩
theorem v_sol {e : List Int} {j : J} (h : V e j) : SolT e := by
 cases h with
 | atom l h =>
  have hall : ∀ c ∈ e, Sol c := by
   rcases h with rfl | rfl | rfl | h
   ·intro c hc; simp at hc; unfold Sol; omega
   ·intro c hc; simp at hc; unfold Sol; omega
   ·intro c hc; simp at hc; unfold Sol; omega
   ·exact fun c hc => sol_num (h.c.1 c hc)
  have hne : e ≠ [] := by
   rcases h with rfl | rfl | rfl | h
   ·simp
   ·simp
   ·simp
   ·obtain ⟨_, c, r, rfl, _⟩ := h.c; simp
  refine ⟨?_, ?_⟩
  ·cases e with
   | nil => exact absurd rfl hne
   | cons c r => exact ⟨c, r, rfl, hall c List.mem_cons_self⟩
  ·obtain ⟨r, c, rfl⟩ := ne_last hne; exact ⟨r, c, rfl, hall c (by simp)⟩
 | str s hs => exact ⟨⟨34, _, rfl, by unfold Sol; omega⟩, ⟨34 :: s, 34, by simp, by unfold Sol; omega⟩⟩
 | arr0 w hw => exact ⟨⟨91, _, rfl, by unfold Sol; omega⟩, ⟨91 :: w, 93, by simp, by unfold Sol; omega⟩⟩
 | arr w l ks hw h =>
  obtain ⟨b, w', es, rfl, _, _, _⟩ := els_bd h; exact ⟨⟨91, _, rfl, by unfold Sol; omega⟩, ⟨91 :: (w ++ (b ++ w')), 93, by simp, by unfold Sol; omega⟩⟩
 | obj0 w hw => exact ⟨⟨123, _, rfl, by unfold Sol; omega⟩, ⟨123 :: w, 125, by simp, by unfold Sol; omega⟩⟩
 | obj w l ms hw h =>
  obtain ⟨r, rfl⟩ := mbs_last h; exact ⟨⟨123, _, rfl, by unfold Sol; omega⟩, ⟨123 :: (w ++ r), 125, by simp, by unfold Sol; omega⟩⟩
theorem bd_sol {b : List Int} {es : List (List Int)} (h : Bd b es) : SolT b := by
 induction h with
 | one e j h => exact v_sol h
 | more e j w1 w2 b es h h1 h2 hb ih =>
  obtain ⟨⟨c, r, rfl, hc⟩, _⟩ := v_sol h; obtain ⟨_, r', c', rfl, hc'⟩ := ih; exact ⟨⟨c, _, rfl, hc⟩, ⟨c :: (r ++ (w1 ++ 44 :: (w2 ++ r'))), c', by simp, hc'⟩⟩
theorem st_sol {b : List Int} {es : List (List Int)} (h : St b es) : b = [] ∨ SolT b := by
 rcases h with ⟨h, _⟩ | h
 ·exact .inl h
 ·exact .inr (bd_sol h)
def Hq (q : List Int) : Prop := ∃ c r, q = c :: r ∧ (Blk c ∨ c = 44 ∨ c = 93 ∨ c = 125)
theorem hq_ws {w q : List Int} {c : Int} (hw : Ws w) (hc : c = 44 ∨ c = 93 ∨ c = 125) : Hq (w ++ c :: q) := by
 cases w with
 | nil => exact ⟨c, q, rfl, .inr hc⟩
 | cons d w => exact ⟨d, _, rfl, .inl (hw d List.mem_cons_self)⟩
def Skp (c : Int) : Prop := Blk c ∨ c = 44
inductive Rest (l : List Int) : Nat → List (List Int) → Prop
 | fin (i : Nat) (w : List Int) : l.drop i = w ++ [93] → (∀ c ∈ w, Skp c) → Rest l i []
 | over (i : Nat) : l.length ≤ i → Rest l i []
 | more (i : Nat) (w e q : List Int) (j : J) (es : List (List Int)) : l.drop i = w ++ (e ++ q) → (∀ c ∈ w, Skp c) → V e j → Hq q → Rest l (i + w.length + e.length + 1) es → Rest l i (e :: es)
theorem sk_ws {w : List Int} (h : Ws w) : ∀ c ∈ w, Skp c := fun c hc => .inl (h c hc)
theorem sk_app {a b : List Int} (h : ∀ c ∈ a, Skp c) (k : ∀ c ∈ b, Skp c) : ∀ c ∈ a ++ b, Skp c := fun c hc => by
 rcases List.mem_append.mp hc with hc | hc
 ·exact h c hc
 ·exact k c hc
theorem rest_bd (l : List Int) {b : List Int} {es : List (List Int)} (h : Bd b es) : ∀ (i : Nat) (w w' : List Int), l.drop i = w ++ (b ++ (w' ++ [93])) → (∀ c ∈ w, Skp c) → Ws w' → Rest l i es := by
 induction h with
 | one e j hv =>
  intro i w w' hd hw hw'; refine .more i w e (w' ++ [93]) j [] hd hw hv (hq_ws hw' (by omega)) ?_; have h1 : l.drop (i + w.length + e.length) = w' ++ [93] := by
   have := drop_app hd; exact drop_app this
  cases w' with
  | nil =>
   refine .over _ ?_; have h2 := drop_next h1; exact List.drop_eq_nil_iff.mp h2
  | cons c w' =>
   refine .fin _ w' (drop_next h1) (sk_ws fun x hx => hw' x (List.mem_cons_of_mem _ hx))
 | more e j w1 w2 b es hv h1 h2 hb ih =>
  intro i w w' hd hw hw'; have hd' : l.drop i = w ++ (e ++ (w1 ++ 44 :: (w2 ++ (b ++ (w' ++ [93]))))) := by rw [hd]; simp
  refine .more i w e _ j es hd' hw hv (hq_ws h1 (by omega)) ?_; have h3 : l.drop (i + w.length + e.length) = w1 ++ 44 :: (w2 ++ (b ++ (w' ++ [93]))) := by
   have := drop_app hd'; exact drop_app this
  cases w1 with
  | nil => exact ih _ w2 w' (drop_next h3) (sk_ws h2) hw'
  | cons c w1 =>
   refine ih _ (w1 ++ 44 :: w2) w' (by rw [drop_next h3]; simp) ?_ hw'; refine sk_app (sk_ws fun x hx => h1 x (List.mem_cons_of_mem _ hx)) fun c hc => ?_
   rcases List.mem_cons.mp hc with rfl | hc
   ·exact .inr rfl
   ·exact .inl (h2 c hc)
theorem rest_arr {l b : List Int} {es : List (List Int)} (h : ArrB l b es) : Rest l 1 es := by
 obtain ⟨w, w', hw, hw', rfl, hs⟩ := h
 rcases hs with ⟨rfl, rfl⟩ | hb
 ·exact .fin 1 (w ++ w') (by simp) (sk_ws (ws_app hw hw'))
 ·exact rest_bd _ hb 1 w w' rfl (sk_ws hw) hw'
open Go.RowKit Go.Proofs.YtdacgdjjdifneaaGreatDoorW.PrintWords Go.Proofs.YtdacgdjjdifneaaGreatDoorW.PrintLast Go.Proofs.YtdacgdjjdifneaaGreatDoorW.PrintMore
theorem nb (c k : Int) (h : c ≠ k) : (c == k) = false := beq_eq_false_iff_ne.mpr h
theorem zs_no (c : Int) (h : Sol c) (w : World) : Calls Tryz.prog 60 #[.int .i32 c] w fun e w' => e = .returned (.bool false) ∧ w = w' := by
 unfold Sol at h; have a1 := nb c 9 (by omega); have a2 := nb c 10 (by omega); have a3 := nb c 11 (by omega); have a4 := nb c 12 (by omega); have a5 := nb c 13 (by omega); have a6 := nb c 32 (by omega); have a7 := nb c 133 (by omega); have a8 := nb c 160 (by omega); have a9 := nb c 5760 (by omega); have b1 := nb c 8232 (by omega); have b2 := nb c 8233 (by omega); have b3 := nb c 8239 (by omega); have b4 := nb c 8287 (by omega); have b5 := nb c 12288 (by omega); have b6 : decide (8192 ≤ c) = false := decide_eq_false (by omega); clear h; go_enter Tryz.func60, Tryz.ntmps60; go_wp2; go_ret; exact ⟨rfl, rfl⟩
theorem zs_yes (c : Int) (h : Blk c) (w : World) : Calls Tryz.prog 60 #[.int .i32 c] w fun e w' => e = .returned (.bool true) ∧ w = w' := by
 unfold Blk at h
 rcases h with rfl | rfl | rfl | rfl
 ·go_enter Tryz.func60, Tryz.ntmps60; go_wp2; go_ret; exact ⟨rfl, rfl⟩
 ·go_enter Tryz.func60, Tryz.ntmps60; go_wp2; go_ret; exact ⟨rfl, rfl⟩
 ·go_enter Tryz.func60, Tryz.ntmps60; go_wp2; go_ret; exact ⟨rfl, rfl⟩
 ·go_enter Tryz.func60, Tryz.ntmps60; go_wp2; go_ret; exact ⟨rfl, rfl⟩
theorem first_sign (s : ByteArray) (h : 0 < s.size) (c : Int) (hc : bt s 0 = c) (h0 : 0 ≤ c ∧ c < 128) (w : World) : Calls Tryz.prog 59 #[.string s] w fun e w' => e = .returned (.tuple #[.int .i32 c, .int .i64 1]) ∧ w = w' := by
 have e0 : s.toList ≠ [] := fun e => by
  rw [toList_nil_iff_emptyBytes] at e; subst e; exact absurd h (by decide)
 have a1 : s.toList.isEmpty = false := by simpa using e0
 have a0 : (s.toList = []) = False := eq_false e0; clear e0; have a2 : (0 < s.size) = True := eq_true h; have a3 := bt_c s 0 ; have a4 : decide (c < 128) = true := decide_eq_true h0.2; have a5 : wrap32 c = c := by unfold wrap32; omega
 have a6 : IntKind.i32.wrap c = c := by rw [IntKind.wrap_i32]; omega
 have a7 : ∀ h : 0 < s.size, ((s[0]'h).toNat : Int) = c := fun h => by rw [← hc]; exact bt_c s 0 h
 clear a3 hc h0 h; go_enter Tryz.func59, Tryz.ntmps59; go_wp2; go_ret2; exact ⟨rfl, rfl⟩
theorem last_sign (s : ByteArray) (n : Nat) (hn : s.size = n + 1) (hs : n ≤ 65536) (c : Int) (hc : bt s (n : Int) = c) (h0 : 0 ≤ c ∧ c < 128) (w : World) : Calls Tryz.prog 61 #[.string s] w fun e w' => e = .returned (.tuple #[.int .i32 c, .int .i64 1]) ∧ w = w' := by
 have a1 : ((s.size : Int) == 0) = false := nb _ _ (by omega); have a8 : (s.size == 0) = false := beq_eq_false_iff_ne.mpr (by omega); have a2 : wrap64 ((s.size : Int) - 1) = (n : Int) := by rw [hn, Go.IntWalk.wrap64_in _ (by omega)]; omega
 have a3 : ((0 ≤ (n : Int)) = True) := eq_true (by omega); have a9 : (((n : Int) < (s.size : Int)) = True) := eq_true (by omega); have b1 : ((n < s.size) = True) := eq_true (by omega); have a4 : decide (c < 128) = true := decide_eq_true h0.2; have a5 : wrap32 c = c := by unfold wrap32; omega
 have a6 : IntKind.i32.wrap c = c := by rw [IntKind.wrap_i32]; omega
 have a7 : ∀ h : n < s.size, ((s[n]'h).toNat : Int) = c := fun h => by rw [← hc]; exact bt_c s n h
 have b2 : (n : Int).toNat = n := Int.toNat_natCast n; clear hc h0 hn hs; go_enter Tryz.func61, Tryz.ntmps61; go_wp2; go_ret2; exact ⟨rfl, rfl⟩
def Ct (s : ByteArray) (b : List Int) : Prop := ∃ w w', Ws w ∧ Ws w' ∧ bytesOf s = w ++ (b ++ w')
theorem ct_lt {s : ByteArray} {c : Int} {r : List Int} (h : bytesOf s = c :: r) : 0 < s.size := by
 rw [← bytesOf_length, h]; simp
theorem ct_first {s : ByteArray} {c : Int} {r : List Int} (h : bytesOf s = c :: r) : bt s 0 = c := bt_drop (i := 0) (r := r) (by rw [List.drop_zero]; exact h)
theorem blk_in {c : Int} (h : Blk c) : 0 ≤ c ∧ c < 128 := by unfold Blk at h; omega
theorem sol_in {c : Int} (h : Sol c) : 0 ≤ c ∧ c < 128 := by unfold Sol at h; omega
theorem bytes_cut1 {s : ByteArray} {c : Int} {r : List Int} (h : bytesOf s = c :: r) : bytesOf (s.extract 1 s.size) = r := by
 rw [bytesOf_extract, ← bytesOf_length, List.take_length, h]; rfl
theorem bytes_cutl {s : ByteArray} {c : Int} {r : List Int} {n : Nat} (h : bytesOf s = r ++ [c]) (hn : s.size = n + 1) : bytesOf (s.extract 0 n) = r := by
 have hl := bytesOf_length s; rw [h] at hl; simp at hl; have e : n = r.length := by omega
 rw [bytesOf_extract, List.drop_zero, h, e, List.take_left]
theorem size_snoc {s : ByteArray} {c : Int} {r : List Int} (h : bytesOf s = r ++ [c]) : s.size = r.length + 1 := by rw [← bytesOf_length, h]; simp
theorem bt_last {s : ByteArray} {c : Int} {r : List Int} (h : bytesOf s = r ++ [c]) : bt s (r.length : Int) = c := bt_drop (r := []) (by rw [h]; simp)
theorem pre_cases {b w w' : List Int} (hb : b = [] ∨ SolT b) (hw : Ws w) (hw' : Ws w') {s : ByteArray} (h : bytesOf s = w ++ (b ++ w')) :
  s.size = 0 ∨ (∃ c r, bytesOf s = c :: r ∧ Blk c ∧ ∃ v v', Ws v ∧ Ws v' ∧ r = v ++ (b ++ v')) ∨ (∃ c r, bytesOf s = c :: r ∧ Sol c ∧ w = []) := by
 cases w with
 | cons c w => exact .inr (.inl ⟨c, _, h, hw c List.mem_cons_self, w, w', fun x hx => hw x (List.mem_cons_of_mem _ hx), hw', rfl⟩)
 | nil =>
  rcases hb with rfl | ⟨⟨c, r, rfl, hc⟩, _⟩
  ·cases w' with
   | nil => exact .inl (by rw [← bytesOf_length, h]; rfl)
   | cons c w' => exact .inr (.inl ⟨c, w', h, hw' c List.mem_cons_self, [], w', ws_nil, fun x hx => hw' x (List.mem_cons_of_mem _ hx), rfl⟩)
  ·exact .inr (.inr ⟨c, _, h, hc, rfl⟩)
theorem post_cases {b w' : List Int} (hb : b = [] ∨ SolT b) (hw' : Ws w') {s : ByteArray} (h : bytesOf s = b ++ w') :
  (s.size = 0 ∧ b = []) ∨ (∃ c r v', bytesOf s = r ++ [c] ∧ Blk c ∧ Ws v' ∧ r = b ++ v') ∨ (∃ c r, bytesOf s = r ++ [c] ∧ Sol c ∧ bytesOf s = b) := by
 rcases List.eq_nil_or_concat w' with rfl | ⟨v, c, rfl⟩
 ·rw [List.append_nil] at h
  rcases hb with rfl | ⟨_, r, c, rfl, hc⟩
  ·exact .inl ⟨by rw [← bytesOf_length, h]; rfl, rfl⟩
  ·exact .inr (.inr ⟨c, r, h, hc, h⟩)
 ·refine .inr (.inl ⟨c, b ++ v, v, by rw [h]; simp, hw' c (by simp), fun x hx => hw' x (by simp [hx]), rfl⟩)
def strLen2 (v : Value) : Nat := match v with | .string s => s.size | _ => 0
theorem len_facts {s : ByteArray} (h : 0 < s.size) : decide (0 < (s.size : Int)) = true ∧ decide (0 < s.size) = true ∧ ((1 : Int) ≤ (s.size : Int)) = True ∧ (1 ≤ s.size) = True := ⟨decide_eq_true (by omega), decide_eq_true h, eq_true (by omega), eq_true (by omega)⟩
theorem len_zero {s : ByteArray} (h : s.size = 0) : decide (0 < (s.size : Int)) = false ∧ decide (0 < s.size) = false := ⟨decide_eq_false (by omega), decide_eq_false (by omega)⟩
theorem tsp (s0 : ByteArray) (hs : s0.size ≤ 65536) (b : List Int) (hb : b = [] ∨ SolT b) (h : Ct s0 b) (w : World) : Calls Tryz.prog 43 #[.string s0] w fun e w' => (∃ t : ByteArray, e = .returned (.string t) ∧ bytesOf t = b) ∧ w = w' := by
 have HB := sd hb; have HC := sd h; have HS := sd hs; clear hb h hs; go_enter Tryz.func43, Tryz.ntmps43; go_wp2; go_loopw [0] (fun v wr => ∃ s : ByteArray, v = .string s ∧ Aside0 (Ct s b) ∧ Aside0 (s.size ≤ 65536) ∧ wr = w) (fun v _ => strLen2 v)
 case atStart => exact ⟨s0, rfl, HC, HS, rfl⟩
 case round =>
  clear HC HS; obtain ⟨s, rfl, HC, HS, rfl⟩ := hrel; obtain ⟨v1, v2, g1, g2, g3⟩ := HC.out; have HG := sd g3; have HG1 := sd g1; have HG2 := sd g2; clear g1 g2 g3
  rcases pre_cases HB.out HG1.out HG2.out HG.out with h0 | ⟨c, r, hr, hc, hv⟩ | ⟨c, r, hr, hc, hv⟩
  ·obtain ⟨z1, z2⟩ := len_zero h0; have HD : Aside0 (∃ v2, Ws v2 ∧ bytesOf s = b ++ v2) := ⟨by
    have h1 : bytesOf s = [] := List.eq_nil_of_length_eq_zero (by rw [bytesOf_length]; exact h0); have h2 := HG.out; rw [h1] at h2; have h3 := (List.append_eq_nil_iff.mp h2.symm).2; exact ⟨v2, HG2.out, by rw [h1, h3]⟩⟩
   clear HG HG1 HG2 h0 HC; go_wp2; go_loopw [0] (fun v wr2 => ∃ s : ByteArray, v = .string s ∧ Aside0 (∃ v2, Ws v2 ∧ bytesOf s = b ++ v2) ∧ Aside0 (s.size ≤ 65536) ∧ wr2 = wr) (fun v _ => strLen2 v)
   case atStart => exact ⟨s, rfl, HD, HS, rfl⟩
   case round =>
    clear HS HD; obtain ⟨s, rfl, HD, HS, rfl⟩ := hrel; obtain ⟨v2, g2, g3⟩ := HD.out; have HG := sd g3; have HG2 := sd g2; clear g2 g3
    rcases post_cases HB.out HG2.out HG.out with ⟨h0, hbe⟩ | ⟨c, r, v3, hr, hc, hv3, hv⟩ | ⟨c, r, hr, hc, hv⟩
    ·obtain ⟨z1, z2⟩ := len_zero h0; have HF := sd (show bytesOf s = b by rw [hbe]; exact List.eq_nil_of_length_eq_zero (by rw [bytesOf_length]; exact h0)); clear h0 hbe; go_wp2; go_ret; exact ⟨⟨s, rfl, HF.out⟩, rfl⟩
    ·obtain ⟨n, hn⟩ : ∃ n, n = r.length := ⟨_, rfl⟩
     have hz := size_snoc hr; rw [← hn] at hz; have HZ := sd hz; have HR := sd hr; have HV := sd (And.intro hv3 hv); have HK := sd hc; have HN := sd hn; obtain ⟨z1, z2, z3, z4⟩ := len_facts (s := s) (by omega); have y1 : wrap64 ((s.size : Int) - 1) = (n : Int) := by rw [hz, Go.IntWalk.wrap64_in _ (by have := HS.out; omega)]; omega
     have y2 : ((0 ≤ (n : Int)) = True) := eq_true (by omega); have y3 : (((n : Int) ≤ (s.size : Int)) = True) := eq_true (by omega); have y4 : ((n ≤ s.size) = True) := eq_true (by omega); have y5 : (n : Int).toNat = n := Int.toNat_natCast n; clear hr hv hc hz hn hv3; go_wp2_with (first | (go_at_call 61; (with_reducible refine (last_sign s n HZ.out (by have := HS.out; have := HZ.out; omega) c (by rw [HN.out]; exact bt_last HR.out) (blk_in HK.out) _).mono ?_); rintro e0 w2 ⟨rfl, rfl⟩) | (go_at_call 60; (with_reducible refine (zs_yes c HK.out _).mono ?_); rintro e0 w2 ⟨rfl, rfl⟩)); go_roundw
     case rel => exact ⟨_, rfl, ⟨⟨v3, HV.out.1, (bytes_cutl HR.out HZ.out).trans HV.out.2⟩⟩, ⟨by have := HS.out; rw [ByteArray.size_extract]; omega⟩, trivial⟩
     case measure => simp only [strLen2, ByteArray.size_extract]; have := HZ.out; omega
    ·obtain ⟨n, hn⟩ : ∃ n, n = r.length := ⟨_, rfl⟩
     have hz := size_snoc hr; rw [← hn] at hz; have HZ := sd hz; have HR := sd hr; have HV := sd hv; have HK := sd hc; have HN := sd hn; obtain ⟨z1, z2, z3, z4⟩ := len_facts (s := s) (by omega); clear hr hv hc hz hn; go_wp2_with (first | (go_at_call 61; (with_reducible refine (last_sign s n HZ.out (by have := HS.out; have := HZ.out; omega) c (by rw [HN.out]; exact bt_last HR.out) (sol_in HK.out) _).mono ?_); rintro e0 w2 ⟨rfl, rfl⟩) | (go_at_call 60; (with_reducible refine (zs_no c HK.out _).mono ?_); rintro e0 w2 ⟨rfl, rfl⟩)); go_ret; exact ⟨⟨s, rfl, HV.out⟩, rfl⟩
  ·have HR := sd hr; have HV := sd hv; have HK := sd hc; obtain ⟨z1, z2, z3, z4⟩ := len_facts (ct_lt hr); clear hr hv hc HG HG1 HG2 HC; go_wp2_with (first | (go_at_call 59; (with_reducible refine (first_sign s (ct_lt HR.out) c (ct_first HR.out) (blk_in HK.out) _).mono ?_); rintro e0 w2 ⟨rfl, rfl⟩) | (go_at_call 60; (with_reducible refine (zs_yes c HK.out _).mono ?_); rintro e0 w2 ⟨rfl, rfl⟩)); go_roundw
   case rel =>
    obtain ⟨v, v', q1, q2, q3⟩ := HV.out; exact ⟨_, rfl, ⟨⟨v, v', q1, q2, (bytes_cut1 HR.out).trans q3⟩⟩, ⟨by have := HS.out; rw [ByteArray.size_extract]; omega⟩, trivial⟩
   case measure => simp only [strLen2, ByteArray.size_extract]; have := ct_lt HR.out; omega
  ·have HR := sd hr; have HK := sd hc; obtain ⟨z1, z2, z3, z4⟩ := len_facts (ct_lt hr); have HD : Aside0 (∃ v2, Ws v2 ∧ bytesOf s = b ++ v2) := ⟨⟨v2, HG2.out, by have h2 := HG.out; rw [hv] at h2; exact h2⟩⟩
   clear hr hv hc HG HG1 HG2 HC; go_wp2_with (first | (go_at_call 59; (with_reducible refine (first_sign s (ct_lt HR.out) c (ct_first HR.out) (sol_in HK.out) _).mono ?_); rintro e0 w2 ⟨rfl, rfl⟩) | (go_at_call 60; (with_reducible refine (zs_no c HK.out _).mono ?_); rintro e0 w2 ⟨rfl, rfl⟩)); clear z1 z2 z3 z4 HR HK; go_loopw [0] (fun v wr2 => ∃ s : ByteArray, v = .string s ∧ Aside0 (∃ v2, Ws v2 ∧ bytesOf s = b ++ v2) ∧ Aside0 (s.size ≤ 65536) ∧ wr2 = wr) (fun v _ => strLen2 v)
   case atStart => exact ⟨s, rfl, HD, HS, rfl⟩
   case round =>
    clear HS HD; obtain ⟨s, rfl, HD, HS, rfl⟩ := hrel; obtain ⟨v2, g2, g3⟩ := HD.out; have HG := sd g3; have HG2 := sd g2; clear g2 g3
    rcases post_cases HB.out HG2.out HG.out with ⟨h0, hbe⟩ | ⟨c, r, v3, hr, hc, hv3, hv⟩ | ⟨c, r, hr, hc, hv⟩
    ·obtain ⟨z1, z2⟩ := len_zero h0; have HF := sd (show bytesOf s = b by rw [hbe]; exact List.eq_nil_of_length_eq_zero (by rw [bytesOf_length]; exact h0)); clear h0 hbe; go_wp2; go_ret; exact ⟨⟨s, rfl, HF.out⟩, rfl⟩
    ·obtain ⟨n, hn⟩ : ∃ n, n = r.length := ⟨_, rfl⟩
     have hz := size_snoc hr; rw [← hn] at hz; have HZ := sd hz; have HR := sd hr; have HV := sd (And.intro hv3 hv); have HK := sd hc; have HN := sd hn; obtain ⟨z1, z2, z3, z4⟩ := len_facts (s := s) (by omega); have y1 : wrap64 ((s.size : Int) - 1) = (n : Int) := by rw [hz, Go.IntWalk.wrap64_in _ (by have := HS.out; omega)]; omega
     have y2 : ((0 ≤ (n : Int)) = True) := eq_true (by omega); have y3 : (((n : Int) ≤ (s.size : Int)) = True) := eq_true (by omega); have y4 : ((n ≤ s.size) = True) := eq_true (by omega); have y5 : (n : Int).toNat = n := Int.toNat_natCast n; clear hr hv hc hz hn hv3; go_wp2_with (first | (go_at_call 61; (with_reducible refine (last_sign s n HZ.out (by have := HS.out; have := HZ.out; omega) c (by rw [HN.out]; exact bt_last HR.out) (blk_in HK.out) _).mono ?_); rintro e0 w2 ⟨rfl, rfl⟩) | (go_at_call 60; (with_reducible refine (zs_yes c HK.out _).mono ?_); rintro e0 w2 ⟨rfl, rfl⟩)); go_roundw
     case rel => exact ⟨_, rfl, ⟨⟨v3, HV.out.1, (bytes_cutl HR.out HZ.out).trans HV.out.2⟩⟩, ⟨by have := HS.out; rw [ByteArray.size_extract]; omega⟩, trivial⟩
     case measure => simp only [strLen2, ByteArray.size_extract]; have := HZ.out; omega
    ·obtain ⟨n, hn⟩ : ∃ n, n = r.length := ⟨_, rfl⟩
     have hz := size_snoc hr; rw [← hn] at hz; have HZ := sd hz; have HR := sd hr; have HV := sd hv; have HK := sd hc; have HN := sd hn; obtain ⟨z1, z2, z3, z4⟩ := len_facts (s := s) (by omega); clear hr hv hc hz hn; go_wp2_with (first | (go_at_call 61; (with_reducible refine (last_sign s n HZ.out (by have := HS.out; have := HZ.out; omega) c (by rw [HN.out]; exact bt_last HR.out) (sol_in HK.out) _).mono ?_); rintro e0 w2 ⟨rfl, rfl⟩) | (go_at_call 60; (with_reducible refine (zs_no c HK.out _).mono ?_); rintro e0 w2 ⟨rfl, rfl⟩)); go_ret; exact ⟨⟨s, rfl, HV.out⟩, rfl⟩
theorem trim_id (s : ByteArray) (hs : s.size ≤ 65536) (h : SolT (bytesOf s)) (w : World) : Calls Tryz.prog 58 #[.string s] w fun e w' => e = .returned (.string s) ∧ w = w' := by
 obtain ⟨⟨c, r, hc, hcs⟩, r2, c2, hc2, hcs2⟩ := h; obtain ⟨n, hn⟩ : ∃ n, n = r2.length := ⟨_, rfl⟩
 have hz := size_snoc hc2; rw [← hn] at hz; obtain ⟨z1, z2, z3, z4⟩ := len_facts (s := s) (by omega); have z5 : (0 < s.size) = True := eq_true (by omega); have a2 : wrap64 ((s.size : Int) - 1) = (n : Int) := by rw [hz, Go.IntWalk.wrap64_in _ (by omega)]; omega
 have a3 : ((0 ≤ (n : Int)) = True) := eq_true (by omega); have a9 : (((n : Int) < (s.size : Int)) = True) := eq_true (by omega); have b1 : ((n < s.size) = True) := eq_true (by omega); have b2 : (n : Int).toNat = n := Int.toNat_natCast n; have b3 : ∀ h : n < s.size, ((s[n]'h).toNat : Int) = c2 := fun h => by rw [bt_c s n h, hn]; exact bt_last hc2
 have b4 : ∀ h : 0 < s.size, ((s[0]'h).toNat : Int) = c := fun h => by have := bt_c s 0 h; rw [show ((0 : Nat) : Int) = 0 from rfl, ct_first hc] at this; exact this
 have b5 : decide (c ≤ 32) = false := decide_eq_false (by unfold Sol at hcs; omega); have b6 : decide (c2 ≤ 32) = false := decide_eq_false (by unfold Sol at hcs2; omega); clear hc hcs hc2 hcs2 hn hz hs; go_enter Tryz.func58, Tryz.ntmps58; go_wp2; refine wp_scope_J (fun _ _ _ _ => False) 0 (fun _ => Code.skip) (fun _ _ _ _ h => h.elim) (fun _ _ _ _ h => h.elim) ?_; go_wp2; refine wp_label ?_; simp only [Exit.then]
 apply_assumption
 go_wp2; refine wp_label ?_; simp only [Exit.then]
 apply_assumption
 go_wp2; refine jmp_ret ?_; go_ret; exact ⟨rfl, rfl⟩
theorem brk_sol {l x : List Int} (h : l = 91 :: (x ++ [93])) : SolT l := by
 subst h; exact ⟨⟨91, _, rfl, by unfold Sol; omega⟩, ⟨91 :: x, 93, by simp, by unfold Sol; omega⟩⟩
theorem brk_size {s : ByteArray} {x : List Int} (h : bytesOf s = 91 :: (x ++ [93])) : s.size = x.length + 1 + 1 := by rw [← bytesOf_length, h]; simp
theorem brk_cut {s : ByteArray} {x : List Int} {n : Nat} (h : bytesOf s = 91 :: (x ++ [93])) (hn : s.size = n + 1) : bytesOf (s.extract 1 n) = x := by
 have := brk_size h; have e : n = x.length + 1 := by omega
 rw [bytesOf_extract, h, e]; simp
theorem unwrap_c (s : ByteArray) (hs : s.size ≤ 65536) (x : List Int) (h : bytesOf s = 91 :: (x ++ [93])) (w : World) : Calls Tryz.prog 42 #[.string s] w fun e w' => (∃ t : ByteArray, e = .returned (.string t) ∧ bytesOf t = x ∧ t.size ≤ s.size) ∧ w = w' := by
 have hz := brk_size h; obtain ⟨n, hn⟩ : ∃ n, n = x.length + 1 := ⟨_, rfl⟩
 rw [← hn] at hz; have z5 : (0 < s.size) = True := eq_true (by omega); have z6 : decide (2 ≤ (s.size : Int)) = true := decide_eq_true (by omega); have z7 : decide (2 ≤ s.size) = true := decide_eq_true (by omega); have a2 : wrap64 ((s.size : Int) - 1) = (n : Int) := by rw [hz, Go.IntWalk.wrap64_in _ (by omega)]; omega
 have a3 : ((1 ≤ (n : Int)) = True) := eq_true (by omega); have a4 : ((1 ≤ n) = True) := eq_true (by omega); have a5 : (((n : Int) ≤ (s.size : Int)) = True) := eq_true (by omega); have a6 : ((n ≤ s.size) = True) := eq_true (by omega); have b2 : (n : Int).toNat = n := Int.toNat_natCast n; have b4 : ∀ h : 0 < s.size, ((s[0]'h).toNat : Int) = 91 := fun h0 => by have := bt_c s 0 h0; rw [show ((0 : Nat) : Int) = 0 from rfl, ct_first h] at this; exact this
 have H := sd h; have HZ := sd hz; have HS := sd hs; clear h hz hn hs; go_enter Tryz.func42, Tryz.ntmps42; go_wp2_with (first | (go_at_call 58; (with_reducible refine (trim_id s HS.out (brk_sol H.out) _).mono ?_); rintro e0 w2 ⟨rfl, rfl⟩)); go_ret; exact ⟨⟨_, rfl, brk_cut H.out HZ.out, by rw [ByteArray.size_extract]; omega⟩, rfl⟩
abbrev RV (ty : Int) (raw str : ByteArray) (num : Nat) (ix : Int) : Value := .agg #[.int .i64 ty, .string raw, .string str, .float .f64 num, .int .i64 ix, .slice none 0 0]
theorem isArr_no (ty : Int) (raw str : ByteArray) (num : Nat) (ix : Int) (w : World) (h : ty ≠ 5) : Calls Tryz.prog 36 #[RV ty raw str num ix] w fun e w' => e = .returned (.bool false) ∧ Below w.heap.size w w' := by
 have h5 := nb ty 5 h; clear h; go_enter Tryz.func36, Tryz.ntmps36; go_wp2
 trace_state
 go_ret; exact ⟨rfl, below_alloc (Below.refl _ _) _⟩
theorem isArr_c (raw str : ByteArray) (num : Nat) (ix c : Int) (w : World) (h0 : 0 < raw.size) (hc : bt raw 0 = c) : Calls Tryz.prog 36 #[RV 5 raw str num ix] w fun e w' => e = .returned (.bool (c == 91)) ∧ Below w.heap.size w w' := by
 have z5 : (0 < raw.size) = True := eq_true h0; obtain ⟨z1, z2, z3, z4⟩ := len_facts h0; have b4 : ∀ h : 0 < raw.size, ((raw[0]'h).toNat : Int) = c := fun h0 => by have := bt_c raw 0 h0; rw [show ((0 : Nat) : Int) = 0 from rfl, hc] at this; exact this
 clear h0 hc; go_enter Tryz.func36, Tryz.ntmps36; go_wp2; go_ret; exact ⟨rfl, below_alloc (Below.refl _ _) _⟩
end Go.Proofs.YtdacgdjjdifneaaGreatDoor.PFnGjFlattenOften
