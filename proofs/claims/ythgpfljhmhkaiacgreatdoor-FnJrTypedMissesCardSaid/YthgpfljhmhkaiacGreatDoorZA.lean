/- Part of the proof that laws.FnJrTypedMisses answers true for every input (the card: text ZF). -/
import Derived.Test.YthgpfljhmhkaiacGreatDoorZQ
import Derived.LaidEql
import Derived.Test.YthgpfljhmhkaiacGreatDoorZR
import Derived.Test.YthgpfljhmhkaiacGreatDoorZS
set_option linter.all false
/- The search for keys of jsonparser finds nothing where keys lead nowhere: every number of steps. -/
namespace Go.Proofs.YthgpfljhmhkaiacGreatDoor.PFnJrTypedMisses
open Go.RowKit Go.Proofs.YthgpfljhmhkaiacGreatDoorW.PrintWords Go.Proofs.YthgpfljhmhkaiacGreatDoorW.PrintLast Go.Proofs.YthgpfljhmhkaiacGreatDoorW.PrintMore
theorem sk_all (n : Nat) : SkC n := by
 induction n using Nat.strongRecOn with
 | _ n ih => exact fun keys data A1 c1 Ak ck w h1 h2 h3 h4 h5 h6 h7 h8 h9 h10 => sk_loop n ih keys data A1 c1 Ak ck w h1 h2 h3 h4 h5 h6 h7 h8 h9 h10
set_option maxHeartbeats 4000000 in
set_option maxRecDepth 100000 in
theorem iget_miss (n : Nat) (keys : List ByteArray) (data : List Int) (A1 : Option Addr) (c1 : Nat) (Ak : Option Addr) (ck : Nat) (er : Value) (w : World) (hsk : Sk keys data n 0 0 0 true) (hne : keys ≠ []) (hdl : data.length < 2 ^ 38) (hkl : keys.length < 2 ^ 38)
  (hr1 : Kd.C (Kd.int .u8) w A1 data.length data) (hc1 : data.length ≤ c1) (hrk : Kd.C (Kd.string) w Ak keys.length keys) (hck : keys.length ≤ ck) (hT : TabW w) (hby : Bts data) (hE : w.cell? ⟨1, 0, none⟩ = some er) :
  Calls Tryz.prog 53 #[.agg #[.bool false, .bool false, .int .i64 0], .slice A1 data.length c1, .slice Ak keys.length ck] w fun e w' => e = .returned (.tuple #[.slice none 0 0, .int .i64 0, .int .i64 (-1), .int .i64 (-1), er]) ∧ Below w.heap.size w w' := by
 have hu85 := Tryz.underlying85
 have hkl0 : 0 < keys.length := List.length_pos_iff.mpr hne
 have d1 : decide ((0 : Int) < (keys.length : Int)) = true := decide_eq_true (by omega)
 have d1' : decide (0 < keys.length) = true := decide_eq_true hkl0
 have HR1 := sd hr1
 have HRK := sd hrk
 have HT := sd hT
 have HE := sd hE
 have HA := sd (⟨hsk, hne, hdl, hkl, hc1, hck, hby⟩ : Sk keys data n 0 0 0 true ∧ keys ≠ [] ∧ data.length < 2 ^ 38 ∧ keys.length < 2 ^ 38 ∧ data.length ≤ c1 ∧ keys.length ≤ ck ∧ Bts data)
 clear hr1 hrk hT hE hsk hne hdl hkl hc1 hck hby hkl0
 go_enter Tryz.func53, Tryz.ntmps53
 have HK := sd (sk_all n keys data A1 c1 Ak ck (w.alloc (.cells #[.bool false, .bool false, .int .i64 0] 85)) HA.out.1 HA.out.2.1 HA.out.2.2.1 HA.out.2.2.2.1 (Kd.C_below HR1.out (below_alloc (Below.refl _ _) _)) HA.out.2.2.2.2.1 (Kd.C_below HRK.out (below_alloc (Below.refl _ _) _)) HA.out.2.2.2.2.2.1 (tab_below HT.out (below_alloc (Below.refl _ _) _)) HA.out.2.2.2.2.2.2)
 go_upto_if 20 with ((go_at_call 60; (with_reducible refine HK.out.mono ?_); rintro e0 w2 ⟨rfl, hb⟩; have HB := sd hb; clear hb))
 have hb2 := below_step (below_alloc (Below.refl w.heap.size w) (.cells #[.bool false, .bool false, .int .i64 0] 85)) (Below.mono HB.out (by rw [World.size_alloc]; omega))
 have hE2 := (hb2.cell (World.block_lt_of_cell? w _ HE.out)).trans HE.out
 go_wp2
 go_region_held3 (fun w' => w'.cell? ⟨1, 0, none⟩ = some er) (first | go_keep | exact hE2) ((fail))
 go_wp2
 ((try simp only [Exit.inBlock, Exit.then]); refine bodyPost_ret (results_tmp5 rfl _ _ _) rfl ?_)
 exact ⟨rfl, below_drew hb2⟩
/-- All that a getter's walk leans on where the search finds nothing. -/
structure MW (n : Nat) (keys : List ByteArray) (data : List Int) (A1 : Option Addr) (c1 : Nat) (Ak : Option Addr) (ck : Nat) (er : Value) (w : World) : Prop where
 sk : Sk keys data n 0 0 0 true
 ne : keys ≠ []
 dl : data.length < 2 ^ 38
 kl : keys.length < 2 ^ 38
 r1 : Kd.C (Kd.int .u8) w A1 data.length data
 h1 : data.length ≤ c1
 rk : Kd.C (Kd.string) w Ak keys.length keys
 hk : keys.length ≤ ck
 T : TabW w
 bts : Bts data
 E : w.cell? ⟨1, 0, none⟩ = some er
 D0 : w.cell? ⟨11, 0, none⟩ = some (.bool false)
 D1 : w.cell? ⟨11, 1, none⟩ = some (.bool false)
 D2 : w.cell? ⟨11, 2, none⟩ = some (.int .i64 0)
theorem MW.below {n : Nat} {keys : List ByteArray} {data : List Int} {A1 : Option Addr} {c1 : Nat} {Ak : Option Addr} {ck : Nat} {er : Value} {w W : World} (h : MW n keys data A1 c1 Ak ck er w) (hb : Below w.heap.size w W) : MW n keys data A1 c1 Ak ck er W :=
 ⟨h.sk, h.ne, h.dl, h.kl, Kd.C_below h.r1 hb, h.h1, Kd.C_below h.rk hb, h.hk, tab_below h.T hb, h.bts, (hb.cell (World.block_lt_of_cell? w _ h.E)).trans h.E, (hb.cell (World.block_lt_of_cell? w _ h.D0)).trans h.D0, (hb.cell (World.block_lt_of_cell? w _ h.D1)).trans h.D1, (hb.cell (World.block_lt_of_cell? w _ h.D2)).trans h.D2⟩
theorem mw53 {n : Nat} {keys : List ByteArray} {data : List Int} {A1 : Option Addr} {c1 : Nat} {Ak : Option Addr} {ck : Nat} {er : Value} {w : World} (h : MW n keys data A1 c1 Ak ck er w) :
  Calls Tryz.prog 53 #[.agg #[.bool false, .bool false, .int .i64 0], .slice A1 data.length c1, .slice Ak keys.length ck] w fun e w' => e = .returned (.tuple #[.slice none 0 0, .int .i64 0, .int .i64 (-1), .int .i64 (-1), er]) ∧ Below w.heap.size w w' :=
 iget_miss n keys data A1 c1 Ak ck er w h.sk h.ne h.dl h.kl h.r1 h.h1 h.rk h.hk h.T h.bts h.E
section
variable (n : Nat) (keys : List ByteArray) (data : List Int) (A1 : Option Addr) (c1 : Nat) (Ak : Option Addr) (ck : Nat) (er : Value) (w : World)
set_option maxHeartbeats 4000000 in
set_option maxRecDepth 100000 in
theorem miss36 (h : MW n keys data A1 c1 Ak ck er w) :
  Calls Tryz.prog 36 #[.slice A1 data.length c1, .slice Ak keys.length ck] w fun e w' => e = .returned (.tuple #[.slice none 0 0, .int .i64 0, .int .i64 (-1), .int .i64 (-1), er]) ∧ Below w.heap.size w w' := by
 have hu85 := Tryz.underlying85
 have H := sd h
 have hd0 := h.D0
 have hd1 := h.D1
 have hd2 := h.D2
 clear h
 go_enter Tryz.func36, Tryz.ntmps36
 go_wp2_with (first | (go_at_call 53; (with_reducible refine (mw53 H.out).mono ?_); rintro e0 w2 ⟨rfl, hb⟩; have HB := sd hb; clear hb))
 ((try simp only [Exit.inBlock, Exit.then]); refine bodyPost_ret (results_tmp5 rfl _ _ _) rfl ?_)
 exact ⟨rfl, HB.out⟩
set_option maxHeartbeats 4000000 in
set_option maxRecDepth 100000 in
theorem miss33 (h : MW n keys data A1 c1 Ak ck er w) :
  Calls Tryz.prog 33 #[.slice A1 data.length c1, .slice Ak keys.length ck] w fun e w' => e = .returned (.tuple #[.slice none 0 0, .int .i64 0, .int .i64 (-1), er]) ∧ Below w.heap.size w w' := by
 have H := sd h
 clear h
 go_enter Tryz.func33, Tryz.ntmps33
 go_wp2_with (first | (go_at_call 36; (with_reducible refine (miss36 _ _ _ _ _ _ _ _ _ H.out).mono ?_); rintro e0 w2 ⟨rfl, hb⟩; have HB := sd hb; clear hb))
 ((try simp only [Exit.inBlock, Exit.then]); refine bodyPost_ret (results_tmp4 rfl _ _ _) rfl ?_)
 exact ⟨rfl, HB.out⟩
set_option maxHeartbeats 4000000 in
set_option maxRecDepth 100000 in
theorem miss19 (t : TypeId) (ea : Addr) (h : MW n keys data A1 c1 Ak ck (.iface t (.pointer (some ea))) w) :
  Calls Tryz.prog 19 #[.slice A1 data.length c1, .slice Ak keys.length ck] w fun e w' => e = .returned (.tuple #[.int .i64 0, (.iface t (.pointer (some ea)))]) ∧ Below w.heap.size w w' := by
 have H := sd h
 clear h
 go_enter Tryz.func19, Tryz.ntmps19
 go_wp2_with (first | (go_at_call 33; (with_reducible refine (miss33 _ _ _ _ _ _ _ _ _ H.out).mono ?_); rintro e0 w2 ⟨rfl, hb⟩; have HB := sd hb; clear hb))
 go_ret2
 exact ⟨rfl, HB.out⟩
set_option maxHeartbeats 4000000 in
set_option maxRecDepth 100000 in
theorem miss21 (t : TypeId) (ea : Addr) (h : MW n keys data A1 c1 Ak ck (.iface t (.pointer (some ea))) w) :
  Calls Tryz.prog 21 #[.slice A1 data.length c1, .slice Ak keys.length ck] w fun e w' => e = .returned (.tuple #[.int .u64 0, (.iface t (.pointer (some ea)))]) ∧ Below w.heap.size w w' := by
 have H := sd h
 clear h
 go_enter Tryz.func21, Tryz.ntmps21
 go_wp2_with (first | (go_at_call 36; (with_reducible refine (miss36 _ _ _ _ _ _ _ _ _ H.out).mono ?_); rintro e0 w2 ⟨rfl, hb⟩; have HB := sd hb; clear hb))
 go_ret2
 exact ⟨rfl, HB.out⟩
set_option maxHeartbeats 4000000 in
set_option maxRecDepth 100000 in
theorem miss22 (t : TypeId) (ea : Addr) (h : MW n keys data A1 c1 Ak ck (.iface t (.pointer (some ea))) w) :
  Calls Tryz.prog 22 #[.slice A1 data.length c1, .slice Ak keys.length ck] w fun e w' => e = .returned (.tuple #[.float .f64 0, (.iface t (.pointer (some ea)))]) ∧ Below w.heap.size w w' := by
 have H := sd h
 clear h
 go_enter Tryz.func22, Tryz.ntmps22
 go_wp2_with (first | (go_at_call 33; (with_reducible refine (miss33 _ _ _ _ _ _ _ _ _ H.out).mono ?_); rintro e0 w2 ⟨rfl, hb⟩; have HB := sd hb; clear hb))
 go_ret2
 exact ⟨rfl, HB.out⟩
set_option maxHeartbeats 4000000 in
set_option maxRecDepth 100000 in
theorem miss23 (t : TypeId) (ea : Addr) (h : MW n keys data A1 c1 Ak ck (.iface t (.pointer (some ea))) w) :
  Calls Tryz.prog 23 #[.slice A1 data.length c1, .slice Ak keys.length ck] w fun e w' => e = .returned (.tuple #[.bool false, (.iface t (.pointer (some ea)))]) ∧ Below w.heap.size w w' := by
 have H := sd h
 clear h
 go_enter Tryz.func23, Tryz.ntmps23
 go_wp2_with (first | (go_at_call 33; (with_reducible refine (miss33 _ _ _ _ _ _ _ _ _ H.out).mono ?_); rintro e0 w2 ⟨rfl, hb⟩; have HB := sd hb; clear hb))
 go_ret2
 exact ⟨rfl, HB.out⟩
set_option maxHeartbeats 4000000 in
set_option maxRecDepth 100000 in
theorem miss24 (t : TypeId) (ea : Addr) (h : MW n keys data A1 c1 Ak ck (.iface t (.pointer (some ea))) w) :
  Calls Tryz.prog 24 #[.slice A1 data.length c1, .slice Ak keys.length ck] w fun e w' => e = .returned (.tuple #[.string { data := #[] }, (.iface t (.pointer (some ea)))]) ∧ Below w.heap.size w w' := by
 have H := sd h
 clear h
 go_enter Tryz.func24, Tryz.ntmps24
 go_wp2_with (first | (go_at_call 33; (with_reducible refine (miss33 _ _ _ _ _ _ _ _ _ H.out).mono ?_); rintro e0 w2 ⟨rfl, hb⟩; have HB := sd hb; clear hb))
 go_ret2
 exact ⟨rfl, HB.out⟩
set_option maxHeartbeats 4000000 in
set_option maxRecDepth 100000 in
theorem same95 (ea : Addr) (w : World) : (binOp .eql 41 (.iface 95 (.pointer (some ea))) (.iface 95 (.pointer (some ea)))).run Tryz.prog w = .ok (.bool true) w := by
 have h1 : (Tryz.prog.info? 95).map (fun i => i.comparable) = some true := by kernel_rfl
 have h2 : (Tryz.prog.info? 97).map (fun i => i.size) = some 1 := by kernel_rfl
 obtain ⟨i, hi, hc⟩ := Option.map_eq_some_iff.mp h1
 obtain ⟨j, hj, _⟩ := Option.map_eq_some_iff.mp h2
 exact run_eql_iface_ptr_same w ea Tryz.underlying41 Tryz.underlying95 hi hc hj
set_option maxHeartbeats 4000000 in
set_option maxRecDepth 100000 in
theorem kind20 (ea : Addr) (hE : w.cell? ⟨1, 0, none⟩ = some (.iface 95 (.pointer (some ea)))) :
  Calls Tryz.prog 20 #[.iface 95 (.pointer (some ea))] w fun e w' => e = .returned (.int .i64 1) ∧ Below w.heap.size w w' := by
 have h95 := same95 ea
 go_enter Tryz.func20, Tryz.ntmps20
 go_wp2
 go_ret
 exact ⟨rfl, Below.refl _ _⟩
set_option maxHeartbeats 4000000 in
set_option maxRecDepth 100000 in
theorem miss44 (f : Value) (h : MW n keys data A1 c1 Ak ck er w) :
  Calls Tryz.prog 44 #[.agg #[.bool false, .bool false, .int .i64 0], .slice A1 data.length c1, f, .slice Ak keys.length ck] w fun e w' => e = .returned er ∧ Below w.heap.size w w' := by
 have hu85 := Tryz.underlying85
 have hkl0 : 0 < keys.length := List.length_pos_iff.mpr h.ne
 have d1 : decide ((0 : Int) < (keys.length : Int)) = true := decide_eq_true (by omega)
 have d1' : decide (0 < keys.length) = true := decide_eq_true hkl0
 have H := sd h
 have H2 := sd (h.below (below_alloc (Below.refl _ _) (.cells #[.bool false, .bool false, .int .i64 0] 85)))
 have HK := sd (sk_all n keys data A1 c1 Ak ck _ h.sk h.ne h.dl h.kl H2.out.r1 h.h1 H2.out.rk h.hk H2.out.T h.bts)
 clear h
 go_enter Tryz.func44, Tryz.ntmps44
 go_upto_if 37 with ((go_at_call 60; (with_reducible refine HK.out.mono ?_); rintro e0 w2 ⟨rfl, hb⟩; have HB := sd hb; clear hb))
 have hb2 := below_step (below_alloc (Below.refl w.heap.size w) (.cells #[.bool false, .bool false, .int .i64 0] 85)) (Below.mono HB.out (by rw [World.size_alloc]; omega))
 have hE2 := (hb2.cell (World.block_lt_of_cell? w _ H.out.E)).trans H.out.E
 go_wp2
 go_ret
 exact ⟨rfl, hb2⟩
set_option maxHeartbeats 4000000 in
set_option maxRecDepth 100000 in
theorem miss27 (f : Value) (h : MW n keys data A1 c1 Ak ck er w) :
  Calls Tryz.prog 27 #[.slice A1 data.length c1, f, .slice Ak keys.length ck] w fun e w' => e = .returned er ∧ Below w.heap.size w w' := by
 have hu85 := Tryz.underlying85
 have H := sd h
 have hd0 := h.D0
 have hd1 := h.D1
 have hd2 := h.D2
 clear h
 go_enter Tryz.func27, Tryz.ntmps27
 go_wp2_with (first | (go_at_call 44; (with_reducible refine (miss44 _ _ _ _ _ _ _ _ _ _ H.out).mono ?_); rintro e0 w2 ⟨rfl, hb⟩; have HB := sd hb; clear hb))
 go_ret
 exact ⟨rfl, HB.out⟩
set_option maxHeartbeats 4000000 in
set_option maxRecDepth 100000 in
theorem miss43 (f : Value) (k : Nat) (p : Int) (hk : jsonparser_nextTokenConfig.f k false false 0 data = some p) (hp : 0 ≤ p) (hpl : p < data.length) (h : MW n keys data A1 c1 Ak ck er w) :
  Calls Tryz.prog 43 #[.agg #[.bool false, .bool false, .int .i64 0], .slice A1 data.length c1, f, .slice Ak keys.length ck] w fun e w' => e = .returned (.tuple #[.int .i64 (-1), er]) ∧ Below w.heap.size w w' := by
 have hu85 := Tryz.underlying85
 have hkl0 : 0 < keys.length := List.length_pos_iff.mpr h.ne
 have d1 : decide ((0 : Int) < (keys.length : Int)) = true := decide_eq_true (by omega)
 have d1' : decide (0 < keys.length) = true := decide_eq_true hkl0
 have d2 : ((keys.length : Int) == 0) = false := by rw [beq_eq_false_iff_ne]; omega
 have d3 : ((data.length : Int) == 0) = false := by rw [beq_eq_false_iff_ne]; omega
 have d4 : (p == -1) = false := by rw [beq_eq_false_iff_ne]; omega
 have hw1 : IntKind.i64.wrap (p + 1) = p + 1 := by rw [i64_w]; exact Go.IntWalk.wrap64_in _ (by have := h.dl; omega)
 have H := sd h
 have HK1 := sd hk
 have H2 := sd (h.below (below_alloc (Below.refl _ _) (.cells #[.bool false, .bool false, .int .i64 0] 85)))
 clear h hk
 go_enter Tryz.func43, Tryz.ntmps43
 go_upto_if 26 with ((go_at_call 59; (with_reducible refine (jsonparser_nextTokenConfig.calls k false false 0 _ _ data p _ ?side1 ?side2 HK1.out).mono ?_); (case side1 => exact H2.out.r1); (case side2 => exact H2.out.h1); rintro e w2 ⟨rfl, hbel⟩; have HB := sd hbel; clear hbel))
 have H3 := sd (H2.out.below HB.out)
 have HK := sd (sk_all n keys data A1 c1 Ak ck _ H3.out.sk H3.out.ne H3.out.dl H3.out.kl H3.out.r1 H3.out.h1 H3.out.rk H3.out.hk H3.out.T H3.out.bts)
 have hb1 := below_step (below_alloc (Below.refl w.heap.size w) (.cells #[.bool false, .bool false, .int .i64 0] 85)) HB.out
 have hbk := blk_below (heap_alloc_new w (.cells #[.bool false, .bool false, .int .i64 0] 85)) HB.out
 have q0 : w2.cell? ⟨w.heap.size, 0, none⟩ = some (.bool false) := (blk_cell hbk 0).trans rfl
 have q1 : w2.cell? ⟨w.heap.size, 1, none⟩ = some (.bool false) := (blk_cell hbk 1).trans rfl
 have q2 : w2.cell? ⟨w.heap.size, 2, none⟩ = some (.int .i64 0) := (blk_cell hbk 2).trans rfl
 go_upto_if 49 with ((go_at_call 60; (with_reducible refine HK.out.mono ?_); rintro e0 w3 ⟨rfl, hb⟩; have HB3 := sd hb; clear hb))
 have hb3 := below_step hb1 HB3.out
 have hE2 := (hb3.cell (World.block_lt_of_cell? w _ H.out.E)).trans H.out.E
 go_wp2
 go_region_held3 (fun w' => w'.cell? ⟨1, 0, none⟩ = some er) (first | go_keep | exact hE2) ((fail))
 go_wp2
 go_ret2
 exact ⟨rfl, below_drew hb3⟩
set_option maxHeartbeats 4000000 in
set_option maxRecDepth 100000 in
theorem miss25 (f : Value) (k : Nat) (p : Int) (hk : jsonparser_nextTokenConfig.f k false false 0 data = some p) (hp : 0 ≤ p) (hpl : p < data.length) (h : MW n keys data A1 c1 Ak ck er w) :
  Calls Tryz.prog 25 #[.slice A1 data.length c1, f, .slice Ak keys.length ck] w fun e w' => e = .returned (.tuple #[.int .i64 (-1), er]) ∧ Below w.heap.size w w' := by
 have hu85 := Tryz.underlying85
 have HP := sd (⟨hp, hpl⟩ : 0 ≤ p ∧ p < data.length)
 have HK1 := sd hk
 have H := sd h
 have hd0 := h.D0
 have hd1 := h.D1
 have hd2 := h.D2
 clear h hk hp hpl
 go_enter Tryz.func25, Tryz.ntmps25
 go_wp2_with (first | (go_at_call 43; (with_reducible refine (miss43 _ _ _ _ _ _ _ _ _ _ k p HK1.out HP.out.1 HP.out.2 H.out).mono ?_); rintro e0 w2 ⟨rfl, hb⟩; have HB := sd hb; clear hb))
 go_ret2
 exact ⟨rfl, HB.out⟩
end
/-- The same where the data are still a text. -/
structure MX (n : Nat) (keys : List ByteArray) (s : ByteArray) (Ak : Option Addr) (ck : Nat) (er : Value) (w : World) : Prop where
 sk : Sk keys (bytesOf s) n 0 0 0 true
 ne : keys ≠ []
 dl : s.size < 2 ^ 38
 kl : keys.length < 2 ^ 38
 rk : Kd.C (Kd.string) w Ak keys.length keys
 hk : keys.length ≤ ck
 T : TabW w
 E : w.cell? ⟨1, 0, none⟩ = some er
 D0 : w.cell? ⟨11, 0, none⟩ = some (.bool false)
 D1 : w.cell? ⟨11, 1, none⟩ = some (.bool false)
 D2 : w.cell? ⟨11, 2, none⟩ = some (.int .i64 0)
theorem bts_of (s : ByteArray) : Bts (bytesOf s) := fun c hc => by
 unfold bytesOf at hc
 simp only [List.mem_map] at hc
 obtain ⟨b, _, rfl⟩ := hc
 have := b.toNat_lt
 omega
theorem mx_mw {n : Nat} {keys : List ByteArray} {s : ByteArray} {Ak : Option Addr} {ck : Nat} {er : Value} {w : World} (h : MX n keys s Ak ck er w) : MW n keys (bytesOf s) (some ⟨w.heap.size, 0, none⟩) (grownCap w s.size 0 5) Ak ck er (Lib.bytesWorld w 5 s) := by
 have hb : Below w.heap.size w (Lib.bytesWorld w 5 s) := bytes_below (Below.refl _ _) (Nat.le_refl _) 5 s
 have hl := bytesOf_length s
 refine ⟨h.sk, h.ne, by rw [hl]; exact h.dl, h.kl, ?_, by rw [hl]; exact grownCap_ge w s.size 0 5, Kd.C_below h.rk hb, h.hk, tab_below h.T hb, bts_of s, (hb.cell (World.block_lt_of_cell? w _ h.E)).trans h.E, (hb.cell (World.block_lt_of_cell? w _ h.D0)).trans h.D0, (hb.cell (World.block_lt_of_cell? w _ h.D1)).trans h.D1, (hb.cell (World.block_lt_of_cell? w _ h.D2)).trans h.D2⟩
 rw [hl]
 exact Kd.C_of_reads (d := (0 : Int)) (h1 := fun _ => rfl) (bytes_reads w 5 s (by have := h.dl; omega))
section
variable (n : Nat) (keys : List ByteArray) (s : ByteArray) (Ak : Option Addr) (ck : Nat) (ea : Addr) (w : World)
set_option maxHeartbeats 4000000 in
set_option maxRecDepth 100000 in
theorem jr6 (h : MX n keys s Ak ck (.iface 95 (.pointer (some ea))) w) : Calls Tryz.prog 6 #[.string s, .slice Ak keys.length ck] w fun e w' => e = .returned (.int .i64 1) ∧ Below w.heap.size w w' := by
 have kb := fun W => print_bytes (P := Tryz.prog) 9 44 5 Tryz.underlying9 Tryz.underlying44 Tryz.underlying5 s W
 have hm := mx_mw h
 have hb0 : Below w.heap.size w (Lib.bytesWorld w 5 s) := bytes_below (Below.refl _ _) (Nat.le_refl _) 5 s
 have hg := miss19 _ _ _ _ _ _ _ _ 95 ea hm
 rw [bytesOf_length] at hg
 have HG := sd hg
 have HE := sd hm.E
 clear hg hm h
 go_enter Tryz.func6, Tryz.ntmps6
 go_wp2_with (first | (go_at_call 19; (with_reducible refine HG.out.mono ?_); rintro e0 w2 ⟨rfl, hb⟩; have hE2 := (hb.cell (World.block_lt_of_cell? _ _ HE.out)).trans HE.out; have HB := sd (below_step hb0 hb); clear hb) | (go_at_call 20; (with_reducible refine (kind20 _ ea hE2).mono ?_); rintro e0 w3 ⟨rfl, hb⟩; have HB3 := sd hb; clear hb))
 go_ret
 exact ⟨rfl, below_step HB.out HB3.out⟩
set_option maxHeartbeats 4000000 in
set_option maxRecDepth 100000 in
theorem jr7 (h : MX n keys s Ak ck (.iface 95 (.pointer (some ea))) w) : Calls Tryz.prog 7 #[.string s, .slice Ak keys.length ck] w fun e w' => e = .returned (.int .i64 1) ∧ Below w.heap.size w w' := by
 have kb := fun W => print_bytes (P := Tryz.prog) 9 44 5 Tryz.underlying9 Tryz.underlying44 Tryz.underlying5 s W
 have hm := mx_mw h
 have hb0 : Below w.heap.size w (Lib.bytesWorld w 5 s) := bytes_below (Below.refl _ _) (Nat.le_refl _) 5 s
 have hg := miss21 _ _ _ _ _ _ _ _ 95 ea hm
 rw [bytesOf_length] at hg
 have HG := sd hg
 have HE := sd hm.E
 clear hg hm h
 go_enter Tryz.func7, Tryz.ntmps7
 go_wp2_with (first | (go_at_call 21; (with_reducible refine HG.out.mono ?_); rintro e0 w2 ⟨rfl, hb⟩; have hE2 := (hb.cell (World.block_lt_of_cell? _ _ HE.out)).trans HE.out; have HB := sd (below_step hb0 hb); clear hb) | (go_at_call 20; (with_reducible refine (kind20 _ ea hE2).mono ?_); rintro e0 w3 ⟨rfl, hb⟩; have HB3 := sd hb; clear hb))
 go_ret
 exact ⟨rfl, below_step HB.out HB3.out⟩
set_option maxHeartbeats 4000000 in
set_option maxRecDepth 100000 in
theorem jr8 (h : MX n keys s Ak ck (.iface 95 (.pointer (some ea))) w) : Calls Tryz.prog 8 #[.string s, .slice Ak keys.length ck] w fun e w' => e = .returned (.int .i64 1) ∧ Below w.heap.size w w' := by
 have kb := fun W => print_bytes (P := Tryz.prog) 9 44 5 Tryz.underlying9 Tryz.underlying44 Tryz.underlying5 s W
 have hm := mx_mw h
 have hb0 : Below w.heap.size w (Lib.bytesWorld w 5 s) := bytes_below (Below.refl _ _) (Nat.le_refl _) 5 s
 have hg := miss22 _ _ _ _ _ _ _ _ 95 ea hm
 rw [bytesOf_length] at hg
 have HG := sd hg
 have HE := sd hm.E
 clear hg hm h
 go_enter Tryz.func8, Tryz.ntmps8
 go_wp2_with (first | (go_at_call 22; (with_reducible refine HG.out.mono ?_); rintro e0 w2 ⟨rfl, hb⟩; have hE2 := (hb.cell (World.block_lt_of_cell? _ _ HE.out)).trans HE.out; have HB := sd (below_step hb0 hb); clear hb) | (go_at_call 20; (with_reducible refine (kind20 _ ea hE2).mono ?_); rintro e0 w3 ⟨rfl, hb⟩; have HB3 := sd hb; clear hb))
 go_ret
 exact ⟨rfl, below_step HB.out HB3.out⟩
set_option maxHeartbeats 4000000 in
set_option maxRecDepth 100000 in
theorem jr9 (h : MX n keys s Ak ck (.iface 95 (.pointer (some ea))) w) : Calls Tryz.prog 9 #[.string s, .slice Ak keys.length ck] w fun e w' => e = .returned (.int .i64 1) ∧ Below w.heap.size w w' := by
 have kb := fun W => print_bytes (P := Tryz.prog) 9 44 5 Tryz.underlying9 Tryz.underlying44 Tryz.underlying5 s W
 have hm := mx_mw h
 have hb0 : Below w.heap.size w (Lib.bytesWorld w 5 s) := bytes_below (Below.refl _ _) (Nat.le_refl _) 5 s
 have hg := miss23 _ _ _ _ _ _ _ _ 95 ea hm
 rw [bytesOf_length] at hg
 have HG := sd hg
 have HE := sd hm.E
 clear hg hm h
 go_enter Tryz.func9, Tryz.ntmps9
 go_wp2_with (first | (go_at_call 23; (with_reducible refine HG.out.mono ?_); rintro e0 w2 ⟨rfl, hb⟩; have hE2 := (hb.cell (World.block_lt_of_cell? _ _ HE.out)).trans HE.out; have HB := sd (below_step hb0 hb); clear hb) | (go_at_call 20; (with_reducible refine (kind20 _ ea hE2).mono ?_); rintro e0 w3 ⟨rfl, hb⟩; have HB3 := sd hb; clear hb))
 go_ret
 exact ⟨rfl, below_step HB.out HB3.out⟩
set_option maxHeartbeats 4000000 in
set_option maxRecDepth 100000 in
theorem jr10 (h : MX n keys s Ak ck (.iface 95 (.pointer (some ea))) w) : Calls Tryz.prog 10 #[.string s, .slice Ak keys.length ck] w fun e w' => e = .returned (.int .i64 1) ∧ Below w.heap.size w w' := by
 have kb := fun W => print_bytes (P := Tryz.prog) 9 44 5 Tryz.underlying9 Tryz.underlying44 Tryz.underlying5 s W
 have hm := mx_mw h
 have hb0 : Below w.heap.size w (Lib.bytesWorld w 5 s) := bytes_below (Below.refl _ _) (Nat.le_refl _) 5 s
 have hg := miss24 _ _ _ _ _ _ _ _ 95 ea hm
 rw [bytesOf_length] at hg
 have HG := sd hg
 have HE := sd hm.E
 clear hg hm h
 go_enter Tryz.func10, Tryz.ntmps10
 go_wp2_with (first | (go_at_call 24; (with_reducible refine HG.out.mono ?_); rintro e0 w2 ⟨rfl, hb⟩; have hE2 := (hb.cell (World.block_lt_of_cell? _ _ HE.out)).trans HE.out; have HB := sd (below_step hb0 hb); clear hb) | (go_at_call 20; (with_reducible refine (kind20 _ ea hE2).mono ?_); rintro e0 w3 ⟨rfl, hb⟩; have HB3 := sd hb; clear hb))
 go_ret
 exact ⟨rfl, below_step HB.out HB3.out⟩
set_option maxHeartbeats 4000000 in
set_option maxRecDepth 100000 in
theorem jr12 (h : MX n keys s Ak ck (.iface 95 (.pointer (some ea))) w) : Calls Tryz.prog 12 #[.string s, .slice Ak keys.length ck] w fun e w' => e = .returned (.int .i64 1) ∧ Below w.heap.size w w' := by
 have kb := fun W => print_bytes (P := Tryz.prog) 9 44 5 Tryz.underlying9 Tryz.underlying44 Tryz.underlying5 s W
 have hm := mx_mw h
 have hb0 : Below w.heap.size w (Lib.bytesWorld w 5 s) := bytes_below (Below.refl _ _) (Nat.le_refl _) 5 s
 have hg := fun f => miss27 _ _ _ _ _ _ _ _ _ f hm
 rw [bytesOf_length] at hg
 have HG := sd hg
 have HE := sd hm.E
 clear hg hm h
 go_enter Tryz.func12, Tryz.ntmps12
 go_wp2_with (first | (go_at_call 27; (with_reducible refine (HG.out _).mono ?_); rintro e0 w2 ⟨rfl, hb⟩; have hE2 := (hb.cell (World.block_lt_of_cell? _ _ HE.out)).trans HE.out; have HB := sd (below_step hb0 hb); clear hb) | (go_at_call 20; (with_reducible refine (kind20 _ ea hE2).mono ?_); rintro e0 w3 ⟨rfl, hb⟩; have HB3 := sd hb; clear hb))
 go_ret
 exact ⟨rfl, below_step HB.out HB3.out⟩
set_option maxHeartbeats 4000000 in
set_option maxRecDepth 100000 in
theorem jr11 (k : Nat) (p : Int) (hk : jsonparser_nextTokenConfig.f k false false 0 (bytesOf s) = some p) (hp : 0 ≤ p) (hpl : p < (bytesOf s).length) (h : MX n keys s Ak ck (.iface 95 (.pointer (some ea))) w) : Calls Tryz.prog 11 #[.string s, .slice Ak keys.length ck] w fun e w' => e = .returned (.int .i64 1) ∧ Below w.heap.size w w' := by
 have kb := fun W => print_bytes (P := Tryz.prog) 9 44 5 Tryz.underlying9 Tryz.underlying44 Tryz.underlying5 s W
 have hm := mx_mw h
 have hb0 : Below w.heap.size w (Lib.bytesWorld w 5 s) := bytes_below (Below.refl _ _) (Nat.le_refl _) 5 s
 have hg := fun f => miss25 _ _ _ _ _ _ _ _ _ f k p hk hp hpl hm
 rw [bytesOf_length] at hg
 have HG := sd hg
 have HE := sd hm.E
 clear hg hm h hk hp hpl
 go_enter Tryz.func11, Tryz.ntmps11
 go_wp2_with (first | (go_at_call 25; (with_reducible refine (HG.out _).mono ?_); rintro e0 w2 ⟨rfl, hb⟩; have hE2 := (hb.cell (World.block_lt_of_cell? _ _ HE.out)).trans HE.out; have HB := sd (below_step hb0 hb); clear hb) | (go_at_call 20; (with_reducible refine (kind20 _ ea hE2).mono ?_); rintro e0 w3 ⟨rfl, hb⟩; have HB3 := sd hb; clear hb))
 go_ret
 exact ⟨rfl, below_step HB.out HB3.out⟩
end
theorem zz_l0 (keys : List ByteArray) (hn : keys.length < 2 ^ 38) : ∀ (ks : List ByteArray) (i k : Nat), keys.drop i = ks → i ≤ keys.length → ks.length < k →
  ∃ b, laws_zzFits1.l0 k keys (keys.length : Int) (i : Int) = some b ∧ (b = true → ∀ q ∈ ks, q.size ≤ 4294967296)
 | [], i, k + 1, h, hi, hk => by
  have := drop_len h hi
  refine ⟨true, ?_, fun _ q hq => by cases hq⟩
  rw [laws_zzFits1.l0, if_neg (by simp at this; omega)]
 | c :: ks, i, k + 1, h, hi, hk => by
  have hlt := drop_lt h
  have e : rdOf ByteArray.empty keys (i : Int) = c := rdOf_key (drop_key h).1
  rw [laws_zzFits1.l0, if_pos (by omega), if_pos (by omega), if_pos (by omega), e]
  by_cases hc : (c.size : Int) > 2147483647
  ·exact ⟨false, by rw [if_pos hc], fun h => by cases h⟩
  ·rw [if_neg hc, w64_1 (by omega)]
   obtain ⟨b, hb, hq⟩ := zz_l0 keys hn ks (i + 1) k (drop_next h) (by omega) (by simp at hk; omega)
   refine ⟨b, hb, fun h q hq' => ?_⟩
   rcases List.mem_cons.mp hq' with rfl | hq'
   ·omega
   ·exact hq h q hq'
theorem zz_f (keys : List ByteArray) : ∃ k b, laws_zzFits1.f k keys = some b ∧ (b = true → FitK keys ∧ keys.length < 2 ^ 38) := by
 by_cases h : (keys.length : Int) > 2147483647
 ·exact ⟨0, false, by unfold laws_zzFits1.f; rw [if_pos h], fun h => by cases h⟩
 ·obtain ⟨b, hb, hq⟩ := zz_l0 keys (by omega) keys 0 (keys.length + 1) rfl (Nat.zero_le _) (by omega)
  exact ⟨keys.length + 1, b, by unfold laws_zzFits1.f; rw [if_neg h]; exact hb, fun h' => ⟨⟨by omega, hq h'⟩, by omega⟩⟩
theorem MX.below {n : Nat} {keys : List ByteArray} {s : ByteArray} {Ak : Option Addr} {ck : Nat} {er : Value} {w W : World} (h : MX n keys s Ak ck er w) (hb : Below w.heap.size w W) : MX n keys s Ak ck er W :=
 ⟨h.sk, h.ne, h.dl, h.kl, Kd.C_below h.rk hb, h.hk, tab_below h.T hb, (hb.cell (World.block_lt_of_cell? w _ h.E)).trans h.E, (hb.cell (World.block_lt_of_cell? w _ h.D0)).trans h.D0, (hb.cell (World.block_lt_of_cell? w _ h.D1)).trans h.D1, (hb.cell (World.block_lt_of_cell? w _ h.D2)).trans h.D2⟩
/-- Where the reference says that the keys lead nowhere: the search finds nothing, and the text begins with a value. -/
theorem miss_all {s : ByteArray} {keys : List ByteArray} {w l v : List Int} {j : J} (hs : s.size ≤ 65536) (hd : bytesOf s = w ++ (l ++ v)) (hw : Ws w) (hv : Ws v) (hl : V l j) (hm : Miss j keys) :
  (∃ n, Sk keys (bytesOf s) n 0 0 0 true) ∧ keys ≠ [] ∧ ∃ (k : Nat) (p : Int), jsonparser_nextTokenConfig.f k false false 0 (bytesOf s) = some p ∧ 0 ≤ p ∧ p < (bytesOf s).length := by
 have hlen := bytesOf_length s
 refine ⟨misses_sk hd hw hv hl hm (by rw [hlen]; omega) (bts_of s), miss_ne hm, w.length + 1, (w.length : Int), ?_, by omega, ?_⟩
 ·obtain ⟨c, r, rfl, hc⟩ := v_head hl
  rw [hd]
  exact next_f w c (r ++ v) (by have := congrArg List.length hd; rw [hlen] at this; rw [List.cons_append] at this; omega) hw (by unfold Blk; omega) _ (by omega)
 ·obtain ⟨c, r, rfl, hc⟩ := v_head hl
  rw [hd]
  simp only [List.length_append, List.length_cons]
  omega
section
variable (s : ByteArray) (keys : List ByteArray) (Ak : Option Addr) (ck : Nat) (w : World)
set_option maxHeartbeats 4000000 in
set_option maxRecDepth 100000 in
theorem law_big (hs : (s.size : Int) > 2147483647) : Calls Tryz.prog 3 #[.string s, .slice Ak keys.length ck] w fun e w' => e = .returned (.bool true) ∧ Below w.heap.size w w' := by
 have h0 : decide (2147483647 < (s.size : Int)) = true := decide_eq_true hs
 have h1 : decide (2147483647 < s.size) = true := decide_eq_true (by omega)
 clear hs
 go_enter Tryz.func3, Tryz.ntmps3
 go_wp2
 go_ret
 exact ⟨rfl, Below.refl _ _⟩
set_option maxHeartbeats 4000000 in
set_option maxRecDepth 100000 in
theorem law_unfit (hs : ¬ (s.size : Int) > 2147483647) (hz : ∀ W, Below w.heap.size w W → Calls Tryz.prog 4 #[.slice Ak keys.length ck] W fun e w' => e = .returned (.bool false) ∧ Below W.heap.size W w') :
  Calls Tryz.prog 3 #[.string s, .slice Ak keys.length ck] w fun e w' => e = .returned (.bool true) ∧ Below w.heap.size w w' := by
 have h0 : decide (2147483647 < (s.size : Int)) = false := decide_eq_false hs
 have h1 : decide (2147483647 < s.size) = false := decide_eq_false (by omega)
 have HZ := sd (hz w (Below.refl _ _))
 clear hs hz
 go_enter Tryz.func3, Tryz.ntmps3
 go_wp2_with (first | (go_at_call 4; (with_reducible refine HZ.out.mono ?_); rintro e0 w2 ⟨rfl, hb⟩; have HB := sd hb; clear hb))
 go_ret
 exact ⟨rfl, HB.out⟩
set_option maxHeartbeats 4000000 in
set_option maxRecDepth 100000 in
theorem law_out (r : Int) (hs : ¬ (s.size : Int) > 2147483647) (hz : ∀ W, Below w.heap.size w W → Calls Tryz.prog 4 #[.slice Ak keys.length ck] W fun e w' => e = .returned (.bool true) ∧ Below W.heap.size W w')
  (hm : ∀ W, Below w.heap.size w W → Calls Tryz.prog 5 #[.string s, .slice Ak keys.length ck] W fun e w' => e = .returned (.tuple #[.int .i64 r, .bool false]) ∧ Below W.heap.size W w') :
  Calls Tryz.prog 3 #[.string s, .slice Ak keys.length ck] w fun e w' => e = .returned (.bool true) ∧ Below w.heap.size w w' := by
 have h0 : decide (2147483647 < (s.size : Int)) = false := decide_eq_false hs
 have h1 : decide (2147483647 < s.size) = false := decide_eq_false (by omega)
 have HZ := sd (hz w (Below.refl _ _))
 have HM := sd hm
 clear hs hz hm
 go_enter Tryz.func3, Tryz.ntmps3
 go_wp2_with (first | (go_at_call 4; (with_reducible refine HZ.out.mono ?_); rintro e0 w2 ⟨rfl, hb⟩; have HB := sd hb; clear hb) | (go_at_call 5; (with_reducible refine (HM.out _ HB.out).mono ?_); rintro e0 w3 ⟨rfl, hb⟩; have HB2 := sd (below_step HB.out hb); clear hb))
 go_ret
 exact ⟨rfl, HB2.out⟩
set_option maxHeartbeats 8000000 in
set_option maxRecDepth 100000 in
theorem law_in (r : Int) (hs : ¬ (s.size : Int) > 2147483647) (hz : ∀ W, Below w.heap.size w W → Calls Tryz.prog 4 #[.slice Ak keys.length ck] W fun e w' => e = .returned (.bool true) ∧ Below W.heap.size W w')
  (hm : ∀ W, Below w.heap.size w W → Calls Tryz.prog 5 #[.string s, .slice Ak keys.length ck] W fun e w' => e = .returned (.tuple #[.int .i64 r, .bool true]) ∧ Below W.heap.size W w')
  (g6 : ∀ W, Below w.heap.size w W → Calls Tryz.prog 6 #[.string s, .slice Ak keys.length ck] W fun e w' => e = .returned (.int .i64 1) ∧ Below W.heap.size W w')
  (g7 : ∀ W, Below w.heap.size w W → Calls Tryz.prog 7 #[.string s, .slice Ak keys.length ck] W fun e w' => e = .returned (.int .i64 1) ∧ Below W.heap.size W w')
  (g8 : ∀ W, Below w.heap.size w W → Calls Tryz.prog 8 #[.string s, .slice Ak keys.length ck] W fun e w' => e = .returned (.int .i64 1) ∧ Below W.heap.size W w')
  (g9 : ∀ W, Below w.heap.size w W → Calls Tryz.prog 9 #[.string s, .slice Ak keys.length ck] W fun e w' => e = .returned (.int .i64 1) ∧ Below W.heap.size W w')
  (g10 : ∀ W, Below w.heap.size w W → Calls Tryz.prog 10 #[.string s, .slice Ak keys.length ck] W fun e w' => e = .returned (.int .i64 1) ∧ Below W.heap.size W w')
  (g11 : ∀ W, Below w.heap.size w W → Calls Tryz.prog 11 #[.string s, .slice Ak keys.length ck] W fun e w' => e = .returned (.int .i64 1) ∧ Below W.heap.size W w')
  (g12 : ∀ W, Below w.heap.size w W → Calls Tryz.prog 12 #[.string s, .slice Ak keys.length ck] W fun e w' => e = .returned (.int .i64 1) ∧ Below W.heap.size W w') :
  Calls Tryz.prog 3 #[.string s, .slice Ak keys.length ck] w fun e w' => e = .returned (.bool true) ∧ Below w.heap.size w w' := by
 have h0 : decide (2147483647 < (s.size : Int)) = false := decide_eq_false hs
 have h1 : decide (2147483647 < s.size) = false := decide_eq_false (by omega)
 have HZ := sd (hz w (Below.refl _ _))
 have HM := sd hm
 have G6 := sd g6
 have G7 := sd g7
 have G8 := sd g8
 have G9 := sd g9
 have G10 := sd g10
 have G11 := sd g11
 have G12 := sd g12
 clear hs hz hm g6 g7 g8 g9 g10 g11 g12
 go_enter Tryz.func3, Tryz.ntmps3
 go_wp2_with (first | (go_at_call 4; (with_reducible refine HZ.out.mono ?_); rintro e0 w2 ⟨rfl, hb⟩; have HB := sd hb; clear hb) | (go_at_call 5; (with_reducible refine (HM.out _ HB.out).mono ?_); rintro e0 w3 ⟨rfl, hb⟩; have HB2 := sd (below_step HB.out hb); clear hb) | (go_at_call 6; (with_reducible refine (G6.out _ HB2.out).mono ?_); rintro e0 w4 ⟨rfl, hb⟩; have HB6 := sd (below_step HB2.out hb); clear hb) | (go_at_call 7; (with_reducible refine (G7.out _ HB6.out).mono ?_); rintro e0 w5 ⟨rfl, hb⟩; have HB7 := sd (below_step HB6.out hb); clear hb) | (go_at_call 8; (with_reducible refine (G8.out _ HB7.out).mono ?_); rintro e0 w6 ⟨rfl, hb⟩; have HB8 := sd (below_step HB7.out hb); clear hb) | (go_at_call 9; (with_reducible refine (G9.out _ HB8.out).mono ?_); rintro e0 w7 ⟨rfl, hb⟩; have HB9 := sd (below_step HB8.out hb); clear hb) | (go_at_call 10; (with_reducible refine (G10.out _ HB9.out).mono ?_); rintro e0 w8 ⟨rfl, hb⟩; have HB10 := sd (below_step HB9.out hb); clear hb) | (go_at_call 11; (with_reducible refine (G11.out _ HB10.out).mono ?_); rintro e0 w9 ⟨rfl, hb⟩; have HB11 := sd (below_step HB10.out hb); clear hb) | (go_at_call 12; (with_reducible refine (G12.out _ HB11.out).mono ?_); rintro e0 w10 ⟨rfl, hb⟩; have HB12 := sd (below_step HB11.out hb); clear hb))
 go_ret
 exact ⟨rfl, HB12.out⟩
/-- The law answers true. -/
theorem law_calls (ea : Addr) (hrk : Kd.C Kd.string w Ak keys.length keys) (hck : keys.length ≤ ck) (hT : TabW w) (hE : w.cell? ⟨1, 0, none⟩ = some (.iface 95 (.pointer (some ea)))) (hD0 : w.cell? ⟨11, 0, none⟩ = some (.bool false)) (hD1 : w.cell? ⟨11, 1, none⟩ = some (.bool false)) (hD2 : w.cell? ⟨11, 2, none⟩ = some (.int .i64 0)) :
  Calls Tryz.prog 3 #[.string s, .slice Ak keys.length ck] w fun e w' => e = .returned (.bool true) ∧ Below w.heap.size w w' := by
 by_cases hs : (s.size : Int) > 2147483647
 ·exact law_big s keys Ak ck w hs
 obtain ⟨kz, bz, hz, hzt⟩ := zz_f keys
 have hzc : ∀ W, Below w.heap.size w W → Calls Tryz.prog 4 #[.slice Ak keys.length ck] W fun e w' => e = .returned (.bool bz) ∧ Below W.heap.size W w' := fun W hb =>
  (laws_zzFits1.calls kz Ak ck keys bz W (Kd.C_below hrk hb) hck hz).mono fun e w' h => ⟨h.1, h.2.below⟩
 cases bz with
 | false => exact law_unfit s keys Ak ck w hs hzc
 | true =>
  obtain ⟨hfit, hkl⟩ := hzt rfl
  obtain ⟨k, hk⟩ : ∃ k, k = 500000000000000000 := ⟨_, rfl⟩
  obtain ⟨⟨r1, r2⟩, hr, hm⟩ := misses_f s keys hfit k (by omega)
  clear hk
  have hmc : ∀ W, Below w.heap.size w W → Calls Tryz.prog 5 #[.string s, .slice Ak keys.length ck] W fun e w' => e = .returned (.tuple #[.int .i64 r1, .bool r2]) ∧ Below W.heap.size W w' := fun W hb =>
   laws_jpMisses.calls k s Ak ck keys r1 r2 W (Kd.C_below hrk hb) hck hr
  cases r2 with
  | false => exact law_out s keys Ak ck w r1 hs hzc hmc
  | true =>
   obtain ⟨hsz, wl, l, v, j, hd, hw, hv, hl, hmiss⟩ := hm rfl
   obtain ⟨⟨n, hsk⟩, hne, kt, p, hp, hp0, hpl⟩ := miss_all hsz hd hw hv hl hmiss
   have hx : MX n keys s Ak ck (.iface 95 (.pointer (some ea))) w := ⟨hsk, hne, by omega, hkl, hrk, hck, hT, hE, hD0, hD1, hD2⟩
   exact law_in s keys Ak ck w r1 hs hzc hmc (fun W hb => jr6 _ _ _ _ _ _ _ (hx.below hb)) (fun W hb => jr7 _ _ _ _ _ _ _ (hx.below hb)) (fun W hb => jr8 _ _ _ _ _ _ _ (hx.below hb)) (fun W hb => jr9 _ _ _ _ _ _ _ (hx.below hb)) (fun W hb => jr10 _ _ _ _ _ _ _ (hx.below hb)) (fun W hb => jr11 _ _ _ _ _ _ _ kt p hp hp0 hpl (hx.below hb)) (fun W hb => jr12 _ _ _ _ _ _ _ (hx.below hb))
end
end Go.Proofs.YthgpfljhmhkaiacGreatDoor.PFnJrTypedMisses
