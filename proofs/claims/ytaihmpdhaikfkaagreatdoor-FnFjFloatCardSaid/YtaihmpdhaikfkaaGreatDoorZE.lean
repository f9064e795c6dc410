/- Part of the proof that laws.FnFjFloat answers true for every input (the card: text ZF). -/
import Derived.Test.YtaihmpdhaikfkaaGreatDoorZD
import Derived.Outline
import Derived.RegionTactic
set_option linter.all false
/- parseValue: one case of the first sign after the other. -/
namespace Go.Proofs.YtaihmpdhaikfkaaGreatDoor.PFnFjFloat
open Go.RowKit Go.Proofs.YtaihmpdhaikfkaaGreatDoorW.PrintWords Go.Proofs.YtaihmpdhaikfkaaGreatDoorW.PrintLast Go.Proofs.YtaihmpdhaikfkaaGreatDoorW.PrintMore
/-- A value that is no number begins so. -/
def NotNum (s : ByteArray) : Prop := bt s 0 = 123 ∨ bt s 0 = 91 ∨ bt s 0 = 34 ∨ bt s 0 = 116 ∨ bt s 0 = 102 ∨ (bt s 0 = 110 ∧ 4 ≤ s.size ∧ s.extract 0 4 = ⟨#[110, 117, 108, 108]⟩)
def TV (s : ByteArray) (t : Int) : Prop := NotNum s → t ≠ 4
section
variable (pb : Nat) (bs : Value) (s : ByteArray) (w : World) (B : Option Nat) (n m : Nat) (d : Int)
/-- The way into parseValue, decided. -/
structure Way (s : ByteArray) (d : Int) : Prop where
 s0 : ((s.size : Int) == 0) = false
 z0 : (0 < s.size) = True
 z1 : ((1 : Int) ≤ (s.size : Int)) = True
 hx : ∀ h : 0 < s.size, ((s[0]'h).toNat : Int) = bt s 0
 w1 : IntKind.i64.wrap (d + 1) = d + 1
 w2 : wrap64 (d + 1) = d + 1
 gt : decide (300 < d + 1) = false
theorem way_of (hs : 0 < s.size) (h0 : 0 ≤ d) (h1 : d < 300) : Way s d := by
 obtain ⟨a1, a2⟩ := wrap_both (x := d + 1) (by omega)
 exact ⟨beq_eq_false_iff_ne.mpr (by omega), eq_true hs, eq_true (by omega), bt_nat s 0, a1, a2, decide_eq_false (by omega)⟩
set_option maxHeartbeats 4000000 in
set_option maxRecDepth 100000 in
theorem pv_empty (hS : St w pb bs B n m) (hs : s.size = 0) : Calls Tryz.prog 30 #[.pointer (some ⟨pb, 1, none⟩), .string s, .int .i64 d] w (PvP (TV s) w pb bs B n s) := by
 have RU := sd (Run.start hS)
 have t0 : ((s.size : Int) == 0) = true := beq_iff_eq.mpr (by omega)
 clear hS hs
 go_enter Tryz.func30, Tryz.ntmps30
 go_wp2_with (first | (go_at_call 32; (with_reducible refine (err_new _ _).mono ?_); rintro e0 W ⟨ea, rfl, hb⟩; have RE := sd (RU.out.fr.below hb (fun b e => (RU.out.old b e).2)); clear hb))
 go_ret3
 exact ⟨RE.out, .inr ⟨_, _, rfl⟩⟩
set_option maxHeartbeats 4000000 in
set_option maxRecDepth 100000 in
theorem pv_deep (hS : St w pb bs B n m) (hs : 0 < s.size) : Calls Tryz.prog 30 #[.pointer (some ⟨pb, 1, none⟩), .string s, .int .i64 300] w (PvP (TV s) w pb bs B n s) := by
 have RU := sd (Run.start hS)
 have t0 : ((s.size : Int) == 0) = false := beq_eq_false_iff_ne.mpr (by omega)
 clear hS hs
 go_enter Tryz.func30, Tryz.ntmps30
 go_wp2_with (first | (go_at_call 32; (with_reducible refine (err_new _ _).mono ?_); rintro e0 W ⟨ea, rfl, hb⟩; have RE := sd (RU.out.fr.below hb (fun b e => (RU.out.old b e).2)); clear hb))
 go_ret3
 exact ⟨RE.out, .inr ⟨_, _, rfl⟩⟩
/-- What an inner part gives is what parseValue gives. -/
theorem pvP_mono {T T' : Int → Prop} {w w' : World} {pb n : Nat} {bs : Value} {B : Option Nat} {s s' : ByteArray} {e : Ending} (h : PvP T w pb bs B n s' e w') (hs : s'.size + 1 ≤ s.size) (hT : ∀ t, T t → T' t) :
  Fr w w' pb B n ∧ ∃ (vp : Option Addr) (tl : ByteArray) (er : Value), e = .returned (.tuple #[.pointer vp, .string tl, er]) ∧ ((er = .nilIface ∧ PvP T' w pb bs B n s (.returned (.tuple #[.pointer vp, .string tl, .nilIface])) w') ∨ ∃ ea : Addr, er = .iface 101 (.pointer (some ea))) := by
 obtain ⟨hf, ⟨vb, vo, tail, B', n', m', rfl, h1, h2, hr, hl, t, ss, k1, k2, k3, k4⟩ | ⟨a, ea, rfl⟩⟩ := h
 ·exact ⟨hf, _, _, _, rfl, .inl ⟨rfl, hf, .inl ⟨vb, vo, tail, B', n', m', rfl, by omega, by omega, hr, hl, t, ss, k1, k2, by omega, hT t k4.1, k4.2⟩⟩⟩
 ·exact ⟨hf, _, _, _, rfl, .inr ⟨ea, rfl⟩⟩
set_option maxHeartbeats 4000000 in
set_option maxRecDepth 100000 in
theorem pv_obj_case (hS : St w pb bs B n m) (hw : Way s d) (hc : (bt s 0 == 123) = true) (hs : (s.extract 1 s.size).size + 1 ≤ s.size)
  (hO : Calls Tryz.prog 45 #[.pointer (some ⟨pb, 1, none⟩), .string (s.extract 1 s.size), .int .i64 (d + 1)] w (PvP (fun t => t = 1) w pb bs B n (s.extract 1 s.size))) :
  Calls Tryz.prog 30 #[.pointer (some ⟨pb, 1, none⟩), .string s, .int .i64 d] w (PvP (TV s) w pb bs B n s) := by
 have RU := sd (Run.start hS)
 have HO := sd hO
 have HS := sd hs
 obtain ⟨s0, z0, z1, hx, w1, w2, gt⟩ := hw
 clear hS hs hO
 go_enter Tryz.func30, Tryz.ntmps30
 go_wp2_with (first | (go_at_call 45; (with_reducible refine HO.out.mono ?_); rintro e0 W1 hpv; obtain ⟨hfr, vp, tl, er, rfl, hcs⟩ := pvP_mono (T' := TV s) hpv HS.out (fun t ht _ => by omega); have RF := sd hfr; clear hpv hfr; rcases hcs with ⟨rfl, hp⟩ | ⟨ea, rfl⟩; have HP := sd hp; clear hp) | (go_at_call 32; (with_reducible refine (err_new _ _).mono ?_); rintro e0 W ⟨ea, rfl, hb⟩; have RE := sd (RF.out.below hb (fun b e => (RU.out.old b e).2)); clear hb))
 ·go_ret3
  exact HP.out
 ·go_ret3
  exact ⟨RE.out, .inr ⟨_, _, rfl⟩⟩
set_option maxHeartbeats 4000000 in
set_option maxRecDepth 100000 in
theorem pv_arr_case (hS : St w pb bs B n m) (hw : Way s d) (hc0 : (bt s 0 == 123) = false) (hc : (bt s 0 == 91) = true) (hs : (s.extract 1 s.size).size + 1 ≤ s.size)
  (hO : Calls Tryz.prog 46 #[.pointer (some ⟨pb, 1, none⟩), .string (s.extract 1 s.size), .int .i64 (d + 1)] w (PvP (fun t => t = 2) w pb bs B n (s.extract 1 s.size))) :
  Calls Tryz.prog 30 #[.pointer (some ⟨pb, 1, none⟩), .string s, .int .i64 d] w (PvP (TV s) w pb bs B n s) := by
 have RU := sd (Run.start hS)
 have HO := sd hO
 have HS := sd hs
 obtain ⟨s0, z0, z1, hx, w1, w2, gt⟩ := hw
 clear hS hs hO
 go_enter Tryz.func30, Tryz.ntmps30
 go_wp2_with (first | (go_at_call 46; (with_reducible refine HO.out.mono ?_); rintro e0 W1 hpv; obtain ⟨hfr, vp, tl, er, rfl, hcs⟩ := pvP_mono (T' := TV s) hpv HS.out (fun t ht _ => by omega); have RF := sd hfr; clear hpv hfr; rcases hcs with ⟨rfl, hp⟩ | ⟨ea, rfl⟩; have HP := sd hp; clear hp) | (go_at_call 32; (with_reducible refine (err_new _ _).mono ?_); rintro e0 W ⟨ea, rfl, hb⟩; have RE := sd (RF.out.below hb (fun b e => (RU.out.old b e).2)); clear hb))
 ·go_ret3
  exact HP.out
 ·go_ret3
  exact ⟨RE.out, .inr ⟨_, _, rfl⟩⟩
end
theorem gv_cells3 {w w' : World} {pb : Nat} {bs : Value} {B : Option Nat} {n g c : Nat} (h : GvP w w' pb bs B n g c) : w'.cell? ⟨g, n * 5 + 3, none⟩ = some (.string ⟨#[]⟩) ∧ w'.frozen? ⟨g, n * 5 + 3, none⟩ = false :=
 ⟨(h.zero 3 (by omega)).trans rfl, (h.loc.cell 3 (by omega)).2⟩
/-- A Value of the cache with its kind and its text. -/
theorem pv_val {w W1 W2 W3 : World} {pb n m g c : Nat} {bs : Value} {B : Option Nat} {s x tl : ByteArray} {t : Int} (h : Run w W1 pb bs B n B n m) (hg : GvP W1 W2 pb bs B n g c) (hx : x.size ≤ s.size) (ht : tl.size + 1 ≤ s.size) (hT : TV s t)
  (hb : Below ((W2.setCell ⟨g, n * 5 + 4, none⟩ (.int .i64 t)).setCell ⟨g, n * 5 + 3, none⟩ (.string x)).heap.size ((W2.setCell ⟨g, n * 5 + 4, none⟩ (.int .i64 t)).setCell ⟨g, n * 5 + 3, none⟩ (.string x)) W3) :
  PvP (TV s) w pb bs B n s (.returned (.tuple #[.pointer (some ⟨g, n * 5, none⟩), .string tl, .nilIface])) W3 ∧ W3.cell? ⟨g, n * 5 + 4, none⟩ = some (.int .i64 t) ∧ W3.cell? ⟨g, n * 5 + 3, none⟩ = some (.string x) := by
 have hn := h.newL hg.new
 obtain ⟨r1, l1, c1⟩ := (h.gv hg).set hg.loc hn 4 (by omega) (.int .i64 t)
 obtain ⟨r2, l2, c2⟩ := r1.set l1 hn 3 (by omega) (.string x)
 obtain ⟨l3, c3⟩ := l2.below hb
 have r3 := r2.below hb
 have k4 : W3.cell? ⟨g, n * 5 + 4, none⟩ = some (.int .i64 t) := by rw [c3, c2, if_neg (by omega), c1, if_pos rfl]
 have k3 : W3.cell? ⟨g, n * 5 + 3, none⟩ = some (.string x) := by rw [c3, c2, if_pos rfl]
 exact ⟨⟨r3.fr, .inl ⟨g, n * 5, tl, _, _, _, rfl, ht, by omega, r3, l3, t, x, k4, k3, hx, hT, hn⟩⟩, k4, k3⟩
/-- A Value of its own with its kind. -/
theorem pv_box {w W : World} {pb n m : Nat} {bs : Value} {B : Option Nat} {s tl : ByteArray} {t : Int} (h : Run w w pb bs B n B n m) (hh : W.heap = (w.alloc (.cells #[.slice none 0 0, .bool false, .slice none 0 0, .string ⟨#[]⟩, .int .i64 t] 86)).heap) (he : Env w W) (ht : tl.size + 1 ≤ s.size) (hT : TV s t) :
  PvP (TV s) w pb bs B n s (.returned (.tuple #[.pointer (some ⟨w.heap.size, 0, none⟩), .string tl, .nilIface])) W := by
 have hb := below_alloc (Below.refl w.heap.size w) (.cells #[.slice none 0 0, .bool false, .slice none 0 0, .string ⟨#[]⟩, .int .i64 t] 86)
 have hk := blk_new w (.cells #[.slice none 0 0, .bool false, .slice none 0 0, .string ⟨#[]⟩, .int .i64 t] 86)
 rw [← hh] at hk
 have hr : Run w W pb bs B n B n m := (h.below hb).of_heap (W2 := W) hh he
 have hpb := blk_lt h.st.hp
 have hl : Loc W pb B n w.heap.size 0 := ⟨blk_lt hk, by omega, fun e => absurd (h.old _ e.symm).2 (Nat.lt_irrefl _), _, hk, by simp⟩
 exact ⟨hr.fr, .inl ⟨_, 0, tl, B, n, m, rfl, ht, by omega, hr, hl, t, ⟨#[]⟩, (blk_cell hk 4).trans rfl, (blk_cell hk 3).trans rfl, Nat.zero_le _, hT, .inl (Nat.le_refl _)⟩⟩
theorem cut_k {s : ByteArray} {k : Nat} (h : k ≤ s.size) (hk : 1 ≤ k) : (s.extract k s.size).size + 1 ≤ s.size := by rw [size_cut]; omega
theorem not_of {s : ByteArray} (h0 : (bt s 0 == 123) = false) (h1 : (bt s 0 == 91) = false) (h2 : (bt s 0 == 34) = false) (h3 : (bt s 0 == 116) = false) (h4 : (bt s 0 == 102) = false) (h : NotNum s) : 4 ≤ s.size ∧ s.extract 0 4 = ⟨#[110, 117, 108, 108]⟩ := by
 rw [beq_eq_false_iff_ne] at h0 h1 h2 h3 h4
 rcases h with h | h | h | h | h | ⟨_, h⟩
 ·exact absurd h h0
 ·exact absurd h h1
 ·exact absurd h h2
 ·exact absurd h h3
 ·exact absurd h h4
 ·exact h
theorem null_ne {s : ByteArray} (h : ((s.extract 0 4).toList == [110, 117, 108, 108]) = false) : s.extract 0 4 ≠ ⟨#[110, 117, 108, 108]⟩ := by
 intro e
 rw [e] at h
 have h2 : ((⟨#[110, 117, 108, 108]⟩ : ByteArray).toList == [110, 117, 108, 108]) = true := by kernel_rfl
 rw [h2] at h
 cases h
theorem null_cases (s : ByteArray) : (decide ((s.size : Int) < 4) = false ∧ (((4 : Int) ≤ (s.size : Int)) = True) ∧ decide (3 ≤ (s.size : Int)) = true ∧ (((3 : Int) ≤ (s.size : Int)) = True) ∧ Aside0 (4 ≤ s.size) ∧ ((((s.extract 0 4).toList == [110, 117, 108, 108]) = true) ∨ ((s.extract 0 4).toList == [110, 117, 108, 108]) = false)) ∨
  (decide ((s.size : Int) < 4) = true ∧ decide (3 ≤ (s.size : Int)) = true ∧ (((3 : Int) ≤ (s.size : Int)) = True) ∧ Aside0 (3 = s.size)) ∨ (decide ((s.size : Int) < 4) = true ∧ decide (3 ≤ (s.size : Int)) = false ∧ Aside0 (s.size < 3)) := by
 by_cases a : 4 ≤ s.size
 ·refine .inl ⟨decide_eq_false (by omega), eq_true (by omega), decide_eq_true (by omega), eq_true (by omega), ⟨a⟩, ?_⟩
  cases (s.extract 0 4).toList == [110, 117, 108, 108]
  ·exact .inr rfl
  ·exact .inl rfl
 ·by_cases b : 3 = s.size
  ·exact .inr (.inl ⟨decide_eq_true (by omega), decide_eq_true (by omega), eq_true (by omega), ⟨b⟩⟩)
  ·exact .inr (.inr ⟨decide_eq_true (by omega), decide_eq_false (by omega), ⟨by omega⟩⟩)
section
variable (pb : Nat) (bs : Value) (s : ByteArray) (w : World) (B : Option Nat) (n m : Nat) (d : Int)
theorem n80 {n : Nat} {s : ByteArray} (h : n + s.size < 2 ^ 36) : (n + 1) * 80 ≤ 140737488355328 := by omega
set_option maxHeartbeats 4000000 in
set_option maxRecDepth 100000 in
theorem pv_str_case (hS : St w pb bs B n m) (hw : Way s d) (hn : n + s.size < 2 ^ 36) (hc0 : (bt s 0 == 123) = false) (hc1 : (bt s 0 == 91) = false) (hc : (bt s 0 == 34) = true) (hs : (s.extract 1 s.size).size + 1 ≤ s.size) :
  Calls Tryz.prog 30 #[.pointer (some ⟨pb, 1, none⟩), .string s, .int .i64 d] w (PvP (TV s) w pb bs B n s) := by
 have RU := sd (Run.start hS)
 have HS := sd hs
 have HN := sd hn
 have HK := sd (show (s.extract 1 s.size).size < 2 ^ 40 by omega)
 obtain ⟨s0, z0, z1, hx, w1, w2, gt⟩ := hw
 clear hS hs hn
 go_enter Tryz.func30, Tryz.ntmps30
 go_wp2_with (first | (go_at_call 47; (with_reducible refine (rawStr (s.extract 1 s.size) HK.out _).mono ?_); rintro e0 W1 hraw; obtain ⟨hb, x, tl, er, rfl, hcs⟩ := rawP_form hraw; have R1 := sd (RU.out.below hb); have RF := sd R1.out.fr; clear hb hraw; rcases hcs with ⟨rfl, g1, g2⟩ | ⟨ea, rfl⟩; have HX := sd (And.intro g1 g2); clear g1 g2) | (go_at_call 48; (with_reducible refine (gv_any _ pb bs B n m R1.out.st (n80 HN.out)).mono ?_); rintro e0 W2 ⟨g, c, rfl, hg⟩; have HG := sd hg; obtain ⟨k4, f4, _, _⟩ := gv_cells hg; obtain ⟨k3, f3⟩ := gv_cells3 hg; clear hg) | (go_at_call 32; (with_reducible refine (err_new _ _).mono ?_); rintro e0 W ⟨ea, rfl, hb⟩; have RE := sd (RF.out.below hb (fun b e => (RU.out.old b e).2)); clear hb))
 ·go_ret3
  exact (pv_val R1.out HG.out (by have := HX.out; have := HS.out; omega) (by have := HX.out; have := HS.out; omega) (fun _ => by decide) (Below.refl _ _)).1
 ·go_ret3
  exact ⟨RE.out, .inr ⟨_, _, rfl⟩⟩
set_option maxHeartbeats 4000000 in
set_option maxRecDepth 100000 in
theorem pv_true_case (hS : St w pb bs B n m) (hw : Way s d) (hc0 : (bt s 0 == 123) = false) (hc1 : (bt s 0 == 91) = false) (hc2 : (bt s 0 == 34) = false) (hc : (bt s 0 == 116) = true) :
  Calls Tryz.prog 30 #[.pointer (some ⟨pb, 1, none⟩), .string s, .int .i64 d] w (PvP (TV s) w pb bs B n s) := by
 have RU := sd (Run.start hS)
 have RF := sd RU.out.fr
 obtain ⟨s0, z0, z1, hx, w1, w2, gt⟩ := hw
 clear hS
 by_cases h4 : 4 ≤ s.size
 ·have t4 : decide ((s.size : Int) < 4) = false := decide_eq_false (by omega)
  have u4 : ((4 : Int) ≤ (s.size : Int)) = True := eq_true (by omega)
  have H4 := sd h4
  clear h4
  go_enter Tryz.func30, Tryz.ntmps30
  go_wp2_with (first | (go_at_call 32; (with_reducible refine (err_new _ _).mono ?_); rintro e0 W ⟨ea, rfl, hb⟩; have RE := sd (RF.out.below hb (fun b e => (RU.out.old b e).2)); clear hb))
  ·go_ret3
   exact ⟨RE.out, .inr ⟨_, _, rfl⟩⟩
  ·go_region
   all_goals go_wp2
   all_goals go_ret3
   all_goals exact pv_box RU.out rfl ⟨rfl, rfl, rfl⟩ (cut_k H4.out (by omega)) (fun _ => by decide)
 ·have t4 : decide ((s.size : Int) < 4) = true := decide_eq_true (by omega)
  clear h4
  go_enter Tryz.func30, Tryz.ntmps30
  go_wp2_with (first | (go_at_call 32; (with_reducible refine (err_new _ _).mono ?_); rintro e0 W ⟨ea, rfl, hb⟩; have RE := sd (RF.out.below hb (fun b e => (RU.out.old b e).2)); clear hb))
  go_ret3
  exact ⟨RE.out, .inr ⟨_, _, rfl⟩⟩
set_option maxHeartbeats 4000000 in
set_option maxRecDepth 100000 in
theorem pv_false_case (hS : St w pb bs B n m) (hw : Way s d) (hc0 : (bt s 0 == 123) = false) (hc1 : (bt s 0 == 91) = false) (hc2 : (bt s 0 == 34) = false) (hc3 : (bt s 0 == 116) = false) (hc : (bt s 0 == 102) = true) :
  Calls Tryz.prog 30 #[.pointer (some ⟨pb, 1, none⟩), .string s, .int .i64 d] w (PvP (TV s) w pb bs B n s) := by
 have RU := sd (Run.start hS)
 have RF := sd RU.out.fr
 obtain ⟨s0, z0, z1, hx, w1, w2, gt⟩ := hw
 clear hS
 by_cases h4 : 5 ≤ s.size
 ·have t4 : decide ((s.size : Int) < 5) = false := decide_eq_false (by omega)
  have u4 : ((5 : Int) ≤ (s.size : Int)) = True := eq_true (by omega)
  have H4 := sd h4
  clear h4
  go_enter Tryz.func30, Tryz.ntmps30
  go_wp2_with (first | (go_at_call 32; (with_reducible refine (err_new _ _).mono ?_); rintro e0 W ⟨ea, rfl, hb⟩; have RE := sd (RF.out.below hb (fun b e => (RU.out.old b e).2)); clear hb))
  ·go_ret3
   exact ⟨RE.out, .inr ⟨_, _, rfl⟩⟩
  ·go_region
   all_goals go_wp2
   all_goals go_ret3
   all_goals exact pv_box RU.out rfl ⟨rfl, rfl, rfl⟩ (cut_k H4.out (by omega)) (fun _ => by decide)
 ·have t4 : decide ((s.size : Int) < 5) = true := decide_eq_true (by omega)
  clear h4
  go_enter Tryz.func30, Tryz.ntmps30
  go_wp2_with (first | (go_at_call 32; (with_reducible refine (err_new _ _).mono ?_); rintro e0 W ⟨ea, rfl, hb⟩; have RE := sd (RF.out.below hb (fun b e => (RU.out.old b e).2)); clear hb))
  go_ret3
  exact ⟨RE.out, .inr ⟨_, _, rfl⟩⟩
set_option maxHeartbeats 4000000 in
set_option maxRecDepth 100000 in
theorem pv_null_case (hS : St w pb bs B n m) (hw : Way s d) (hn : n + s.size < 2 ^ 36) (hc0 : (bt s 0 == 123) = false) (hc1 : (bt s 0 == 91) = false) (hc2 : (bt s 0 == 34) = false) (hc3 : (bt s 0 == 116) = false) (hc4 : (bt s 0 == 102) = false) (hc : (bt s 0 == 110) = true) :
  Calls Tryz.prog 30 #[.pointer (some ⟨pb, 1, none⟩), .string s, .int .i64 d] w (PvP (TV s) w pb bs B n s) := by
 have RU := sd (Run.start hS)
 have HN := sd hn
 have RF := sd RU.out.fr
 have HQ := sd (not_of hc0 hc1 hc2 hc3 hc4)
 obtain ⟨s0, z0, z1, hx, w1, w2, gt⟩ := hw
 clear hS hn
 rcases null_cases s with ⟨t4, u4, t3, u3, H4, e4 | e4⟩ | ⟨t4, t3, u3, H3⟩ | ⟨t4, t3, H3⟩
 all_goals
  go_enter Tryz.func30, Tryz.ntmps30
  go_wp2_with (first | (go_at_call 49; (with_reducible refine (fold_calls _ _ (by rw [size_cut]; omega) _).mono ?_); rintro e0 W1 ⟨r, rfl, hb⟩; have R1 := sd (RU.out.below hb); have RF := sd R1.out.fr; clear hb; cases r) | (go_at_call 48; (with_reducible refine (gv_any _ pb bs B n m R1.out.st (n80 HN.out)).mono ?_); rintro e0 W2 ⟨g, c, rfl, hg⟩; have HG := sd hg; obtain ⟨k4, f4, _, _⟩ := gv_cells hg; obtain ⟨k3, f3⟩ := gv_cells3 hg; clear hg) | (go_at_call 32; (with_reducible refine (err_new _ _).mono ?_); rintro e0 W ⟨ea, rfl, hb⟩; have RE := sd (RF.out.below hb (fun b e => (RU.out.old b e).2)); clear hb))
 ·go_region
  all_goals go_wp2
  all_goals go_ret3
  all_goals exact pv_box RU.out rfl ⟨rfl, rfl, rfl⟩ (cut_k H4.out (by omega)) (fun _ => by decide)
 all_goals first
  | (go_ret3; exact ⟨RE.out, .inr ⟨_, _, rfl⟩⟩)
  | (go_quiet (fail); go_wp2; go_ret3; exact (pv_val R1.out HG.out (cut_le _ _ _) (cut_k (Nat.le_trans (by decide) H4.out) (by decide)) (fun h => absurd (HQ.out h).2 (null_ne e4)) (below_draws (Below.refl _ _) _)).1)
  | (go_quiet (fail); go_wp2; go_ret3; exact (pv_val R1.out HG.out (cut_le _ _ _) (cut_k (Nat.le_of_eq H3.out) (by decide)) (fun h => absurd (HQ.out h).1 (by have := H3.out; omega)) (below_draws (Below.refl _ _) _)).1)
end
theorem NumRun.one {s : ByteArray} {n k : Nat} (h : NumRun s n) (h' : NumRun s k) : n = k := by
 rcases Nat.lt_trichotomy n k with a | a | a
 ·exact absurd (h'.all n a) (h.stop (by have := h'.le; omega))
 ·exact a
 ·exact absurd (h.all k a) (h'.stop (by have := h.le; omega))
/-- Whole: the run of signs is the number. -/
def Whole (s : ByteArray) (k : Nat) : Prop := k = s.size ∨ ¬ Low s k
def NX (s x tl : ByteArray) : Prop := ∀ k, NumRun s k → Whole s k → bytesOf x = (bytesOf s).take k ∧ bytesOf tl = (bytesOf s).drop k
theorem numP_form {s : ByteArray} {w w' : World} {e : Ending} (h : NumP s w e w') (hs : 0 < s.size) : Below w.heap.size w w' ∧ ∃ (x tl : ByteArray) (er : Value), e = .returned (.tuple #[.string x, .string tl, er]) ∧
  ((er = .nilIface ∧ x.size ≤ s.size ∧ tl.size + 1 ≤ s.size ∧ NX s x tl) ∨ ((∃ ea : Addr, er = .iface 101 (.pointer (some ea))) ∧ ∀ k, NumRun s k → ¬ Whole s k)) := by
 obtain ⟨hb, n, hr, ⟨hn, rfl⟩ | ⟨hn, hl, rfl⟩ | ⟨hn, hl, ⟨ss, tl, rfl, h1, h2⟩ | ⟨a, b, ea, rfl⟩⟩⟩ := h
 ·refine ⟨hb, _, _, _, rfl, .inl ⟨rfl, Nat.le_refl _, by show 0 + 1 ≤ s.size; omega, fun k hk _ => ?_⟩⟩
  rw [← hr.one hk, hn]
  have hz : (bytesOf s).length = s.size := bytesOf_length s
  exact ⟨by rw [← hz, List.take_length], by rw [← hz, List.drop_length]; rfl⟩
 ·refine ⟨hb, _, _, _, rfl, .inl ⟨rfl, cut_le _ _ _, ?_, fun k hk _ => ?_⟩⟩
  ·have : n ≠ 0 := fun e => hl (.inl e)
   exact cut_k (Nat.le_of_lt hn) (by omega)
  ·rw [← hr.one hk]
   exact ⟨by rw [bytesOf_extract, List.drop_zero], bytesOf_rest s n⟩
 ·refine ⟨hb, _, _, _, rfl, .inl ⟨rfl, h1, h2, fun k hk hw => ?_⟩⟩
  rw [← hr.one hk] at hw
  rcases hw with h | h
  ·omega
  ·exact absurd hl h
 ·refine ⟨hb, _, _, _, rfl, .inr ⟨⟨ea, rfl⟩, fun k hk hw => ?_⟩⟩
  rw [← hr.one hk] at hw
  rcases hw with h | h
  ·omega
  ·exact absurd hl h
/-- What parseValue gives for a number. -/
def NumV (s : ByteArray) (e : Ending) (w' : World) : Prop := ∀ k, NumRun s k → Whole s k → ∃ (vb vo : Nat) (x tl : ByteArray), e = .returned (.tuple #[.pointer (some ⟨vb, vo, none⟩), .string tl, .nilIface]) ∧ w'.cell? ⟨vb, vo + 4, none⟩ = some (.int .i64 4) ∧ w'.cell? ⟨vb, vo + 3, none⟩ = some (.string x) ∧ bytesOf x = (bytesOf s).take k ∧ bytesOf tl = (bytesOf s).drop k
def PvN (s : ByteArray) (w : World) (pb : Nat) (bs : Value) (B : Option Nat) (n : Nat) (e : Ending) (w' : World) : Prop := PvP (TV s) w pb bs B n s e w' ∧ NumV s e w'
section
variable (pb : Nat) (bs : Value) (s : ByteArray) (w : World) (B : Option Nat) (n m : Nat) (d : Int)
set_option maxHeartbeats 4000000 in
set_option maxRecDepth 100000 in
theorem pv_num_case (hS : St w pb bs B n m) (hw : Way s d) (hp : 0 < s.size) (hn : n + s.size < 2 ^ 36) (hc0 : (bt s 0 == 123) = false) (hc1 : (bt s 0 == 91) = false) (hc2 : (bt s 0 == 34) = false) (hc3 : (bt s 0 == 116) = false) (hc4 : (bt s 0 == 102) = false) (hc5 : (bt s 0 == 110) = false) :
  Calls Tryz.prog 30 #[.pointer (some ⟨pb, 1, none⟩), .string s, .int .i64 d] w (PvN s w pb bs B n) := by
 have RU := sd (Run.start hS)
 have HN := sd hn
 have HP := sd hp
 have HK := sd (show s.size < 2 ^ 40 by omega)
 have HQ := sd (show ¬ NotNum s from fun h => by
  rw [beq_eq_false_iff_ne] at hc0 hc1 hc2 hc3 hc4 hc5
  rcases h with h | h | h | h | h | ⟨h, _⟩
  ·exact hc0 h
  ·exact hc1 h
  ·exact hc2 h
  ·exact hc3 h
  ·exact hc4 h
  ·exact hc5 h)
 obtain ⟨s0, z0, z1, hx, w1, w2, gt⟩ := hw
 clear hS hn hp
 go_enter Tryz.func30, Tryz.ntmps30
 go_wp2_with (first | (go_at_call 50; (with_reducible refine (rawNum s HK.out _).mono ?_); rintro e0 W1 hraw; obtain ⟨hb, x, tl, er, rfl, hcs⟩ := numP_form hraw HP.out; have R1 := sd (RU.out.below hb); have RF := sd R1.out.fr; clear hb hraw; rcases hcs with ⟨rfl, g1, g2, g3⟩ | ⟨⟨ea, rfl⟩, g3⟩; have HX := sd (And.intro g1 (And.intro g2 g3)); clear g1 g2 g3) | (go_at_call 48; (with_reducible refine (gv_any _ pb bs B n m R1.out.st (n80 HN.out)).mono ?_); rintro e0 W2 ⟨g, c, rfl, hg⟩; have HG := sd hg; obtain ⟨k4, f4, _, _⟩ := gv_cells hg; obtain ⟨k3, f3⟩ := gv_cells3 hg; clear hg) | (go_at_call 32; (with_reducible refine (err_new _ _).mono ?_); rintro e0 W ⟨ea, rfl, hb⟩; have RE := sd (RF.out.below hb (fun b e => (RU.out.old b e).2)); have HE := sd g3; clear hb))
 ·go_ret3
  obtain ⟨h1, h2, h3⟩ := pv_val (s := s) R1.out HG.out HX.out.1 HX.out.2.1 (fun h => absurd h HQ.out) (Below.refl _ _)
  exact ⟨h1, fun k hk hw => ⟨_, _, _, _, rfl, h2, h3, (HX.out.2.2 k hk hw).1, (HX.out.2.2 k hk hw).2⟩⟩
 ·go_ret3
  exact ⟨⟨RE.out, .inr ⟨_, _, rfl⟩⟩, fun k hk hw => absurd hw (HE.out k hk)⟩
end
/-- parseValue, whatever the text. -/
theorem pv_all (pb : Nat) (bs : Value) : ∀ N, VC TV pb bs N := by
 intro N
 induction N with
 | zero =>
  intro s w B n m d hN hS hn h0 h1
  exact pv_empty pb bs s w B n m d hS (by omega)
 | succ N ih =>
  intro s w B n m d hN hS hn h0 h1
  by_cases hs : s.size = 0
  ·exact pv_empty pb bs s w B n m d hS hs
  have hp : 0 < s.size := by omega
  by_cases hd : d = 300
  ·subst hd; exact pv_deep pb bs s w B n m hS hp
  have hw := way_of s d hp h0 (by omega)
  have hc := cut1 s
  have hV : VC TV pb bs (s.extract 1 s.size).size := fun s' w' B' n' m' d' h => ih s' w' B' n' m' d' (by omega)
  cases h123 : bt s 0 == 123
  ·cases h91 : bt s 0 == 91
   ·cases h34 : bt s 0 == 34
    ·cases h116 : bt s 0 == 116
     ·cases h102 : bt s 0 == 102
      ·cases h110 : bt s 0 == 110
       ·exact (pv_num_case pb bs s w B n m d hS hw hp hn h123 h91 h34 h116 h102 h110).mono fun _ _ h => h.1
       ·exact pv_null_case pb bs s w B n m d hS hw hn h123 h91 h34 h116 h102 h110
      ·exact pv_false_case pb bs s w B n m d hS hw h123 h91 h34 h116 h102
     ·exact pv_true_case pb bs s w B n m d hS hw h123 h91 h34 h116
    ·exact pv_str_case pb bs s w B n m d hS hw hn h123 h91 h34 (by omega)
   ·exact pv_arr_case pb bs s w B n m d hS hw h123 h91 (by omega) (arr_calls TV pb bs (s.extract 1 s.size) w B n m (d + 1) hV hS (by omega) (by omega) (by omega))
  ·exact pv_obj_case pb bs s w B n m d hS hw h123 (by omega) (obj_calls TV pb bs (s.extract 1 s.size) w B n m (d + 1) hV hS (by omega) (by omega) (by omega))
end Go.Proofs.YtaihmpdhaikfkaaGreatDoor.PFnFjFloat
