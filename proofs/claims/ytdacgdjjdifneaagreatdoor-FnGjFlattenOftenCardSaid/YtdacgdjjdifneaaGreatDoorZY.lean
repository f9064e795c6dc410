/- Part of the proof of the card in text ZF. -/
import Derived.Test.YtdacgdjjdifneaaGreatDoorZX
import Derived.Deep.CutBlock
import Derived.Outline
set_option linter.all false
set_option maxHeartbeats 16000000
set_option maxRecDepth 100000
namespace Go.Proofs.YtdacgdjjdifneaaGreatDoor.PFnGjFlattenOften
open Go.RowKit Go.Proofs.YtdacgdjjdifneaaGreatDoorW.PrintWords Go.Proofs.YtdacgdjjdifneaaGreatDoorW.PrintLast Go.Proofs.YtdacgdjjdifneaaGreatDoorW.PrintMore
attribute [local go_sem] store_float
theorem arr_head {l b : List Int} {es : List (List Int)} (h : ArrB l b es) : ∃ x, l = 91 :: (x ++ [93]) := by
 obtain ⟨w, w', _, _, rfl, _⟩ := h; exact ⟨w ++ (b ++ w'), by simp⟩
theorem mf_calls (hU : UnC) (json arg : ByteArray) (d : Bool) (hs : json.size ≤ 65536) (b : List Int) (es bs : List (List Int)) (hA : ArrB (bytesOf json) b es) (hOk : AllOk d arg es bs) (hL : ∀ m, (outB (bs.take m)).length ≤ 65000) (hE : ∀ (m : Nat) (e : List Int), es[m]? = some e → e.length ≤ 65536) (hRg : ∀ c ∈ outB bs, 0 ≤ c ∧ c ≤ 255) (w : World) (hPW : PW w)
  (hd : (d = false ∧ arg = ⟨#[]⟩) ∨ (d = true ∧ arg = deepA)) :
  Calls Tryz.prog 26 #[.string json, .string arg] w fun x W' => (∃ t : ByteArray, x = .returned (.string t) ∧ bytesOf t = roundT bs ∧ t.size ≤ 65536) ∧ Below w.heap.size w W' := by
 obtain ⟨xin, hxin⟩ := arr_head hA; have HX := sd hxin; have HS := sd hs; have HU := sd hU; have HA := sd hA; have HOK := sd hOk; have HL := sd hL; have HE := sd hE; have HPW := sd hPW; have HD := sd hd; have HRG := sd hRg; clear hxin hs hU hA hOk hL hE hPW hd hRg; go_enter Tryz.func26, Tryz.ntmps26; have HN0 := sd (blk_new w (.cells #[.string arg] 9)); have HB0 := sd (below_alloc (Below.refl w.heap.size w) (.cells #[.string arg] 9)); go_upto_region 2 with (first | (go_at_call 35; (with_reducible refine (parse_c json HS.out (ct_lt HX.out) 91 (ct_first HX.out) (.inl rfl) _).mono ?_); rintro e0 w2 ⟨rfl, hb⟩; have HN2 := sd (blk_below HN0.out hb); have HB2 := sd (below_step HB0.out hb); clear hb))
 have HR3 := sd (RB.new w2 (.int .i64 5) (.string json) (.string ⟨#[]⟩) (.float .f64 0) (.int .i64 0) (.slice none 0 0)); have HN3 := sd (blk_alloc HN2.out (.cells #[.int .i64 5, .string json, .string ⟨#[]⟩, .float .f64 0, .int .i64 0, .slice none 0 0] 64)); have HB3 := sd (below_alloc HB2.out (.cells #[.int .i64 5, .string json, .string ⟨#[]⟩, .float .f64 0, .int .i64 0, .slice none 0 0] 64)); clear HN0 HB0 HN2 HB2; generalize hn : w.heap.size = n at *; generalize w2.heap.size = rb at *; generalize w2.alloc (.cells #[.int .i64 5, .string json, .string ⟨#[]⟩, .float .f64 0, .int .i64 0, .slice none 0 0] 64) = w3 at *; obtain ⟨p0, p1, p2, p3, p4, p5⟩ := HR3.out.cells
 go_upto_region 5 with (first | (go_at_call 36; (with_reducible refine (isArr_c json ⟨#[]⟩ 0 0 91 _ (ct_lt HX.out) (ct_first HX.out)).mono ?_); rintro e0 w4 ⟨rfl, hb⟩; have HR4 := sd (HR3.out.below hb); have HN4 := sd (blk_below HN3.out hb); have HB4 := sd (bstep hn HB3.out hb); clear hb))
 have HM := sd (show MfA w n rb w4.heap.size false arg json (w4.alloc (.cells #[.bool false] 4)) from ⟨blk_alloc HN4.out _, HR4.out.alloc _, blk_new w4 _, balloc hn HB4.out _⟩); have HGD := sd (show n ≤ w4.heap.size from by have := HB4.out.size; rw [hn] at this; exact this); clear p0 p1 p2 p3 p4 p5 HR3 HN3 HB3 HR4 HN4 HB4; generalize w4.heap.size = db at *; generalize w4.alloc (.cells #[.bool false] 4) = w5 at *; have q0 : w5.cell? ⟨n, 0, none⟩ = some (.string arg) := (blk_cell HM.out.a 0).trans rfl; go_upto_if 16 with (fail)
 go_cut [14] (fun v wc => Aside0 (MfA w n rb db d arg json wc))
 case first =>
  rcases HD.out with ⟨hd, ha⟩ | ⟨hd, ha⟩
  ·skip
   have y0 : arg.toList = [] := (toList_nil_iff_emptyBytes arg).2 ha; have y1 : arg.toList.isEmpty = true := by rw [y0]; rfl
   have HM2 := HM; rw [← hd] at HM2; have y2 : (!arg.toList.isEmpty) = false := by rw [y1]; rfl
   clear ha hd; rw [y2]; go_wp2; go_meet
   case rel => exact HM2
  ·skip
   have y0 : arg.toList ≠ [] := fun e => by
    rw [toList_nil_iff_emptyBytes, ha] at e; exact absurd (congrArg ByteArray.size e) (by decide)
   have y1 : arg.toList.isEmpty = false := by simpa using y0
   have y2 : (!arg.toList.isEmpty) = true := by rw [y1]; rfl
   have HAR := sd ha; have HSA := sd (show arg.size ≤ 65536 ∧ 0 < arg.size ∧ bt arg 0 = 123 from by rw [ha]; exact ⟨by decide, by decide, rfl⟩); have HDT := sd hd; clear ha hd y0 y1; rw [y2]; clear y2; go_wp2_with (first | (go_at_call 35; (with_reducible refine (parse_c arg HSA.out.1 HSA.out.2.1 123 HSA.out.2.2 (.inr rfl) _).mono ?_); rintro e0 w6 ⟨rfl, hb⟩; have HM6 := sd (HM.out.below hn hb); clear hb) | (go_at_call 37; (with_reducible refine (fe_obj arg HAR.out db false _ HM6.out.b).mono ?_); rintro e0 w7 ⟨rfl, hd7, hk7⟩; have HM7 := sd (HM6.out.on HGD.out hd7 hk7); clear hd7 hk7)); rw [← HDT.out] at HM7; go_meet
   case rel => exact HM7
 case rest =>
  clear HM q0; have HM := hcut; clear hcut; obtain ⟨i0, hi, hz0, hz1, hz2⟩ := info_parts' info5u; have HI0 := sd (And.intro hi (And.intro hz0 (And.intro hz1 hz2))); clear hi hz0 hz1 hz2; go_upto_region 8 with (fail)
  have HM6 := sd (HM.out.below hn (below_alloc (Below.refl _ _) (.cells #[.slice none 0 0] 69))); have HO6 := sd (blk_new wc (.cells #[.slice none 0 0] 69)); have HGE := sd HM.out.fr.size; have HXL := sd (And.intro (blk_lt HM.out.a) (And.intro HM.out.r.lt (blk_lt HM.out.b))); have HSZ := sd (show (wc.alloc (.cells #[.slice none 0 0] 69)).heap.size = wc.heap.size + 1 from World.size_alloc _ _); clear HM; generalize wc.heap.size = ob at *; generalize wc.alloc (.cells #[.slice none 0 0] 69) = w6 at *; obtain ⟨o0, o1⟩ : w6.cell? ⟨ob, 0, none⟩ = some (.slice none 0 0) ∧ w6.frozen? ⟨ob, 0, none⟩ = false := ⟨(blk_cell HO6.out 0).trans rfl, blk_frozen HO6.out 0⟩
  have HB7 := sd (below_alloc (Below.refl w6.heap.size w6) (.cells #[.int .u8 91] 5)); have HM7 := sd (HM6.out.below hn HB7.out); have HO7 := sd (blk_below HO6.out HB7.out); go_upto_region 9 with (first | (at_builtin; refine wpList_nil_row rfl _ _ 69 rfl i0 Tryz.underlying69 HI0.out.1 HI0.out.2.1 HI0.out.2.2.1 HI0.out.2.2.2 rfl [91] (by decide) (by decide) ⟨⟨_, 0, none⟩, 1, rfl, new_cell1 _ _ _⟩ ?_; intro g L cp w8 hbr hb; have HBR := sd hbr; have HM8 := sd (HM7.out.below hn hb); have HO8 := sd (blk_below HO7.out hb); have o8 : w8.cell? ⟨ob, 0, none⟩ = some (.slice none 0 0) := (blk_cell HO8.out 0).trans rfl; have o9 : w8.frozen? ⟨ob, 0, none⟩ = false := blk_frozen HO8.out 0; clear hbr hb))
  have HF9 := sd (HM8.out.fr); have HX9 := sd (show n < ob ∧ rb < ob ∧ db < ob ∧ ob < g from ⟨HXL.out.1, HXL.out.2.1, HXL.out.2.2, by have := HBR.out.ge; have := HB7.out.size; have := blk_lt HO6.out; omega⟩); have HST := sd (ct_start hn HM8.out HO8.out HBR.out HX9.out); go_upto_region 10 with (fail)
  clear o8 o9 HM6 HM7 HM8 HO6 HO7 HO8 HB7 HGE HSZ HXL HX9 HF9 HBR; generalize (w8.setCell ⟨ob, 0, none⟩ (.slice (some ⟨g, 0, none⟩) L cp)).alloc (.cells #[.int .i64 0] 3) = w9 at *; obtain ⟨p0, p1, p2, p3, p4, p5⟩ := HST.out.2.1.cells; have HIT := sd (itP w w9 db n w8.heap.size ob d arg es bs HOK.out (fun m => Nat.le_trans (HL.out m) (by decide)) HE.out HPW.out HST.out.1 HST.out.2.2); generalize w8.heap.size = xb at *; go_upto_region 11 with (first | (go_at_call 37; (with_reducible refine (fe_arr HU.out json HS.out (ct_lt HX.out) (ct_first HX.out) es (rest_arr HA.out) ⟨#[]⟩ 0 0 w9 _ _ _ _ _ HIT.out).mono ?_); rintro e0 w10 ⟨rfl, O, hO, hI⟩; have HC := sd hI.forget; clear hO hI))
  clear HIT HST p0 p1 p2 p3 p4 p5; have htk : bs.take es.length = bs := by rw [← HOK.out.len, List.take_length]
  rw [htk] at HC; have HLN := sd (show (outB bs).length ≤ 65000 from by rw [← htk]; exact HL.out _); clear htk; obtain ⟨x, v, g2, cp2, hcs, _⟩ := HC.out.ex; have HCS := sd hcs; clear hcs; obtain ⟨c0, c1, c2, c3, c4, c5⟩ := HCS.out.cells; have HA0 := sd (below_alloc (Below.refl w10.heap.size w10) (.cells #[.int .u8 93] 5)); have HC0 := sd (HCS.out.below HA0.out); have HBS := sd HC0.out.fr.size; have H63 := sd (show (91 :: outB bs).length + [(93 : Int)].length ≤ 140737488355328 from by have := HLN.out; simp only [List.length_cons, List.length_nil]; omega)
  go_upto_region 12 with (first | (at_builtin; refine wpList_append_br2 rfl _ _ 69 69 rfl i0 Tryz.underlying69 HI0.out.1 HI0.out.2.1 HI0.out.2.2.1 HI0.out.2.2.2 rfl HC0.out.br HBS.out [93] H63.out (.inl ⟨⟨_, 0, none⟩, 1, rfl, rfl, new_cell1 _ _ _⟩) ?_; intro v1 w4 g1 cp1 hbr hks hgg; obtain ⟨L1, rfl⟩ := hbr.sl; have HAP := sd (HC0.out.app hbr hks hgg (fun k h => h.elim)); obtain ⟨m1, m2⟩ := HC0.out.mid hks; clear hbr hks hgg))
  clear c0 c1 c2 c3 c4 c5 m1 m2 HCS HC0 HA0 HBS H63 HC; generalize w4.setCell ⟨ob, 0, none⟩ (.slice (some ⟨g1, 0, none⟩) L1 cp1) = w5 at *; have HC5 := sd HAP.out.1; obtain ⟨c0, c1, c2, c3, c4, c5⟩ := HC5.out.cells; clear HAP; go_wp2_with (first | (go_at_call 44; (with_reducible refine (str_calls HC5.out.br).mono ?_); rintro e0 w11 ⟨rfl, hb⟩; have HB11 := sd (below_step HC5.out.fr hb); clear hb)); go_ret; refine ⟨⟨_, rfl, ?_, ?_⟩, HB11.out⟩
  ·rw [nums_bytes]
   ·rfl
   ·intro c hc; simp only [List.mem_append, List.mem_cons, List.mem_singleton, List.not_mem_nil, or_false] at hc
    rcases hc with rfl | hc | rfl
    ·omega
    ·exact HRG.out c hc
    ·omega
  ·rw [strOfNums_size]; have := HLN.out; simp only [List.length_append, List.length_cons, List.length_nil]; omega
end Go.Proofs.YtdacgdjjdifneaaGreatDoor.PFnGjFlattenOften
namespace Go.Proofs.YtdacgdjjdifneaaGreatDoor.PFnGjFlattenOften
open Go.RowKit Go.Proofs.YtdacgdjjdifneaaGreatDoorW.PrintWords Go.Proofs.YtdacgdjjdifneaaGreatDoorW.PrintLast Go.Proofs.YtdacgdjjdifneaaGreatDoorW.PrintMore
theorem bd_in {b : List Int} {es : List (List Int)} (h : Bd b es) : ∀ e ∈ es, (∀ c ∈ e, c ∈ b) ∧ e.length ≤ b.length := by
 induction h with
 | one e j h => intro x hx; rw [List.mem_singleton] at hx; subst hx; exact ⟨fun c hc => hc, Nat.le_refl _⟩
 | more e j w1 w2 b es h h1 h2 hb ih =>
  intro x hx
  rcases List.mem_cons.mp hx with rfl | hx
  ·exact ⟨fun c hc => List.mem_append_left _ hc, by simp⟩
  ·obtain ⟨g1, g2⟩ := ih x hx; exact ⟨fun c hc => by simp [g1 c hc], by simp; omega⟩
theorem arr_in {l b : List Int} {es : List (List Int)} (h : ArrB l b es) : (∀ c ∈ b, c ∈ l) ∧ b.length ≤ l.length ∧ ∀ e ∈ es, (∀ c ∈ e, c ∈ l) ∧ e.length ≤ l.length := by
 obtain ⟨w, w', _, _, rfl, hs⟩ := h; refine ⟨fun c hc => by simp [hc], by simp; omega, fun e he => ?_⟩
 rcases hs with ⟨_, rfl⟩ | hb
 ·cases he
 ·obtain ⟨g1, g2⟩ := bd_in hb e he; exact ⟨fun c hc => by simp [g1 c hc], by simp; omega⟩
theorem addB_mem {a b : List Int} {c : Int} (h : c ∈ addB a b) : c ∈ a ∨ c ∈ b ∨ c = 44 := by
 unfold addB at h
 split at h
 ·exact .inl h
 ·split at h
  ·exact .inr (.inl h)
  ·rcases List.mem_append.mp h with h | h
   ·exact .inl h
   ·rcases List.mem_cons.mp h with h | h
    ·exact .inr (.inr h)
    ·exact .inr (.inl h)
theorem outB_cons (b : List Int) (bs : List (List Int)) : outB (b :: bs) = addB b (outB bs) := by
 rw [outB, List.foldl_cons, nil_addB, fold_addB]
theorem outB_mem {bs : List (List Int)} {c : Int} (h : c ∈ outB bs) : c = 44 ∨ ∃ b ∈ bs, c ∈ b := by
 induction bs with
 | nil => cases h
 | cons b bs ih =>
  rw [outB_cons] at h
  rcases addB_mem h with h | h | h
  ·exact .inr ⟨b, List.mem_cons_self, h⟩
  ·rcases ih h with h | ⟨x, hx, hc⟩
   ·exact .inl h
   ·exact .inr ⟨x, List.mem_cons_of_mem _ hx, hc⟩
  ·exact .inl h
theorem addB_le (a b : List Int) : a.length ≤ (addB a b).length := by
 unfold addB; split
 ·exact Nat.le_refl _
 ·split
  ·simp_all
  ·simp
theorem take_le (bs : List (List Int)) (m : Nat) : (outB (bs.take m)).length ≤ (outB bs).length := by
 have h : outB bs = addB (outB (bs.take m)) (outB (bs.drop m)) := by rw [← outB_app, List.take_append_drop]
 rw [h]; exact addB_le _ _
theorem pc_in {es bs fs : List (List Int)} (h : Pc es bs fs) : ∀ b ∈ bs, ∃ e ∈ es, ∀ c ∈ b, c ∈ e := by
 induction h with
 | nil => intro b hb; cases hb
 | leaf e j es bs fs _ _ _ ih =>
  intro b hb
  rcases List.mem_cons.mp hb with rfl | hb
  ·exact ⟨_, List.mem_cons_self, fun c hc => hc⟩
  ·obtain ⟨x, hx, h⟩ := ih b hb; exact ⟨x, List.mem_cons_of_mem _ hx, h⟩
 | arr e b' es' es bs fs ha _ ih =>
  intro b hb
  rcases List.mem_cons.mp hb with rfl | hb
  ·exact ⟨_, List.mem_cons_self, (arr_in ha).1⟩
  ·obtain ⟨x, hx, h⟩ := ih b hb; exact ⟨x, List.mem_cons_of_mem _ hx, h⟩
theorem ne_in {d : Nat} {es ls : List (List Int)} (h : Ne d es ls) : ∀ x ∈ ls, ∃ e ∈ es, ∀ c ∈ x, c ∈ e := by
 induction h with
 | nil => intro x hx; cases hx
 | leaf d e j es ls _ _ _ ih =>
  intro x hx
  rcases List.mem_cons.mp hx with rfl | hx
  ·exact ⟨_, List.mem_cons_self, fun c hc => hc⟩
  ·obtain ⟨y, hy, h⟩ := ih x hx; exact ⟨y, List.mem_cons_of_mem _ hy, h⟩
 | arr d e b es' ls' es ls ha _ _ ih1 ih2 =>
  intro x hx
  rcases List.mem_append.mp hx with hx | hx
  ·obtain ⟨y, hy, h⟩ := ih1 x hx; exact ⟨e, List.mem_cons_self, fun c hc => ((arr_in ha).2.2 y hy).1 c (h c hc)⟩
  ·obtain ⟨y, hy, h⟩ := ih2 x hx; exact ⟨y, List.mem_cons_of_mem _ hy, h⟩
theorem ne_len : ∀ (d : Nat) {l b : List Int} {es ls : List (List Int)}, ArrB l b es → Ne d es ls → (roundT ls).length ≤ l.length
 | 0, l, b, es, ls, ha, hn => by
  obtain ⟨hp, rfl⟩ := pc_leaf hn; exact round_len ha hp
 | d + 1, l, b, es, ls, ha, hn => by
  obtain ⟨bs, fs, hp, hn2⟩ := pc_ne hn; exact Nat.le_trans (ne_len d (round_arr hp) hn2) (round_len ha hp)
theorem ne_leaves {d : Nat} {es ls : List (List Int)} (h : Ne d es ls) : ∀ x ∈ ls, (∃ j, V x j) ∧ NotA x := by
 induction h with
 | nil => intro x hx; cases hx
 | leaf d e j es ls hv hn _ ih =>
  intro x hx
  rcases List.mem_cons.mp hx with rfl | hx
  ·exact ⟨⟨j, hv⟩, hn⟩
  ·exact ih x hx
 | arr d e b es' ls' es ls ha _ _ ih1 ih2 =>
  intro x hx
  rcases List.mem_append.mp hx with hx | hx
  ·exact ih1 x hx
  ·exact ih2 x hx
theorem pc_leaves : ∀ {ls : List (List Int)}, (∀ x ∈ ls, (∃ j, V x j) ∧ NotA x) → Pc ls ls ls
 | [], _ => .nil
 | x :: ls, h => by
  obtain ⟨⟨j, hv⟩, hn⟩ := h x List.mem_cons_self; exact .leaf x j ls ls ls hv hn (pc_leaves fun y hy => h y (List.mem_cons_of_mem _ hy))
theorem byte_in {s : ByteArray} {c : Int} (h : c ∈ bytesOf s) : 0 ≤ c ∧ c ≤ 255 := byte_range h
theorem one_leaf (d : Bool) (arg : ByteArray) {e : List Int} {j : J} (hv : V e j) (hn : NotA e) : OneOk d arg e e := ⟨.inr (v_sol hv), .inl ⟨hn, ⟨j, hv⟩, rfl⟩⟩
theorem one_arr {arg : ByteArray} {e b : List Int} {es : List (List Int)} (h : ArrB e b es) : OneOk false arg e b := by
 obtain ⟨w, w', hw, hw', rfl, hs⟩ := h; exact ⟨st_sol hs, .inr ⟨w ++ (b ++ w'), by simp, .inl ⟨rfl, w, w', hw, hw', rfl⟩⟩⟩
theorem all_plain {es bs fs : List (List Int)} (h : Pc es bs fs) : AllOk false ⟨#[]⟩ es bs := by
 induction h with
 | nil => exact .nil
 | leaf e j es bs fs hv hn _ ih => exact .cons _ _ _ _ (one_leaf _ _ hv hn) ih
 | arr e b es' es bs fs ha _ ih => exact .cons _ _ _ _ (one_arr ha) ih
abbrev ResT (l : List Int) (w : World) (x : Ending) (W' : World) : Prop := (∃ t : ByteArray, x = .returned (.string t) ∧ bytesOf t = l ∧ t.size ≤ 65536) ∧ Below w.heap.size w W'
theorem flat_plain (hU : UnC) (json : ByteArray) (hs : json.size ≤ 60000) {b : List Int} {es bs fs : List (List Int)} (hA : ArrB (bytesOf json) b es) (hp : Pc es bs fs) (w : World) (hPW : PW w) : Calls Tryz.prog 26 #[.string json, .string ⟨#[]⟩] w (ResT (roundT bs) w) := by
 have hl := round_len hA hp; rw [bytesOf_length] at hl; have hl2 : (outB bs).length + 2 ≤ json.size := by simp [roundT] at hl; omega
 refine mf_calls hU json ⟨#[]⟩ false (by omega) b es bs hA (all_plain hp) (fun m => by have := take_le bs m; omega) (fun m e he => ?_) (fun c hc => ?_) w hPW (.inl ⟨rfl, rfl⟩)
 ·have := ((arr_in hA).2.2 e (List.mem_of_getElem? he)).2; rw [bytesOf_length] at this; omega
 ·rcases outB_mem hc with rfl | ⟨x, hx, hc⟩
  ·omega
  ·obtain ⟨e, he, h⟩ := pc_in hp x hx; exact byte_in (((arr_in hA).2.2 e he).1 c (h c hc))
theorem all_deep (hU : UnC) {d : Nat} {es ls : List (List Int)} (h : Ne d es ls) : (∀ e ∈ es, e.length ≤ 60000 ∧ ∀ c ∈ e, 0 ≤ c ∧ c ≤ 255) → (∀ e b es', e ∈ es → ArrB e b es' → True) → ∃ bs, AllOk true deepA es bs ∧ outB bs = outB ls := by
 induction h with
 | nil => exact fun _ _ => ⟨[], .nil, rfl⟩
 | leaf d e j es ls hv hn _ ih =>
  intro hr hx; obtain ⟨bs, h1, h2⟩ := ih (fun x hx => hr x (List.mem_cons_of_mem _ hx)) (fun _ _ _ _ _ => trivial); exact ⟨e :: bs, .cons _ _ _ _ (one_leaf _ _ hv hn) h1, by rw [outB_cons, outB_cons, h2]⟩
 | arr d e b es' ls' es ls ha hne1 hne ih1 ih2 =>
  intro hr hx; obtain ⟨he1, he2⟩ := hr e List.mem_cons_self; obtain ⟨bs1, g1, g2⟩ := ih1 (fun x hx => ⟨Nat.le_trans ((arr_in ha).2.2 x hx).2 he1, fun c hc => he2 c (((arr_in ha).2.2 x hx).1 c hc)⟩) (fun _ _ _ _ _ => trivial); obtain ⟨bs, h1, h2⟩ := ih2 (fun x hx => hr x (List.mem_cons_of_mem _ hx)) (fun _ _ _ _ _ => trivial); have hl := ne_len d ha hne1; have hl2 : (outB ls').length + 2 ≤ 60000 := by simp [roundT] at hl; omega
  refine ⟨outB ls' :: bs, .cons _ _ _ _ ⟨?_, .inr ?_⟩ h1, by rw [outB_cons, outB_app, h2]⟩
  ·have := pc_st (pc_leaves (ne_leaves hne1)); exact st_sol this
  ·obtain ⟨x, hx⟩ := arr_head ha; refine ⟨x, hx, .inr ⟨rfl, fun raw W hraw hrs hPW => ?_⟩⟩; have hA : ArrB (bytesOf raw) b es' := by rw [hraw]; exact ha
   refine (mf_calls hU raw deepA true hrs b es' bs1 hA g1 (fun m => by have := take_le bs1 m; rw [g2] at this; omega) (fun m y hy => ?_) (fun c hc => ?_) W hPW (.inr ⟨rfl, rfl⟩)).mono fun x W' ⟨⟨t, q1, q2, q3⟩, q4⟩ => ⟨⟨t, q1, by rw [q2, roundT, g2], q3⟩, q4⟩
   ·have := ((arr_in ha).2.2 y (List.mem_of_getElem? hy)).2; omega
   ·rw [g2] at hc
    rcases outB_mem hc with rfl | ⟨y, hy, hc⟩
    ·omega
    ·obtain ⟨z, hz, h⟩ := ne_in hne1 y hy; exact he2 c (((arr_in ha).2.2 z hz).1 c (h c hc))
theorem flat_deep (hU : UnC) (json : ByteArray) (hs : json.size ≤ 60000) {d : Nat} {b : List Int} {es ls : List (List Int)} (hA : ArrB (bytesOf json) b es) (hn : Ne d es ls) (w : World) (hPW : PW w) : Calls Tryz.prog 26 #[.string json, .string deepA] w (ResT (roundT ls) w) := by
 have hl := ne_len d hA hn; rw [bytesOf_length] at hl; have hl2 : (outB ls).length + 2 ≤ json.size := by simp [roundT] at hl; omega
 have hin := fun e he => (arr_in hA).2.2 e he; obtain ⟨bs, h1, h2⟩ := all_deep hU hn (fun e he => ⟨by have := (hin e he).2; rw [bytesOf_length] at this; omega, fun c hc => byte_in ((hin e he).1 c hc)⟩) (fun _ _ _ _ _ => trivial); refine (mf_calls hU json deepA true (by omega) b es bs hA h1 (fun m => by have := take_le bs m; rw [h2] at this; omega) (fun m e he => ?_) (fun c hc => ?_) w hPW (.inr ⟨rfl, rfl⟩)).mono fun x W' ⟨⟨t, q1, q2, q3⟩, q4⟩ => ⟨⟨t, q1, by rw [q2, roundT, roundT, h2], q3⟩, q4⟩
 ·have := (hin e (List.mem_of_getElem? he)).2; rw [bytesOf_length] at this; omega
 ·rw [h2] at hc
  rcases outB_mem hc with rfl | ⟨y, hy, hc⟩
  ·omega
  ·obtain ⟨z, hz, h⟩ := ne_in hn y hy; exact byte_in ((hin z hz).1 c (h c hc))
theorem door_c {a b : ByteArray} {l : List Int} {w : World} (h : Calls Tryz.prog 26 #[.string a, .string b] w (ResT l w)) : Calls Tryz.prog 15 #[.string a, .string b] w (ResT l w) := by
 have H := sd h; clear h; go_enter Tryz.func15, Tryz.ntmps15; go_wp2_with (first | (go_at_call 26; (with_reducible refine H.out.mono ?_); rintro e0 w2 ⟨⟨t, rfl, ht, hz⟩, hb⟩; have HB := sd hb; have HT := sd (And.intro ht hz); clear ht hz hb)); go_ret; exact ⟨⟨t, rfl, HT.out⟩, HB.out⟩
theorem impl_c {a b : ByteArray} {l : List Int} {w : World} (h : Calls Tryz.prog 26 #[.string a, .string b] w (ResT l w)) : Calls Tryz.prog 7 #[.string a, .string b] w (ResT l w) := by
 have H := sd (door_c h); clear h; go_enter Tryz.func7, Tryz.ntmps7; go_wp2_with (first | (go_at_call 15; (with_reducible refine H.out.mono ?_); rintro e0 w2 ⟨⟨t, rfl, ht, hz⟩, hb⟩; have HB := sd hb; have HT := sd (And.intro ht hz); clear ht hz hb)); go_ret; exact ⟨⟨t, rfl, HT.out⟩, HB.out⟩
end Go.Proofs.YtdacgdjjdifneaaGreatDoor.PFnGjFlattenOften
