/- Part of the proof that laws.FnJrTypedMisses answers true for every input (the card: text ZF). -/
import Derived.Test.YthgpfljhmhkaiacGreatDoorZH
import Derived.Deep.RegionHeld3
import Derived.Test.YthgpfljhmhkaiacGreatDoorV15
import Derived.Test.YthgpfljhmhkaiacGreatDoorV16
import Derived.Test.YthgpfljhmhkaiacGreatDoorV11
set_option linter.all false
/- getTypeConfig of jsonparser under the strict configuration, where it finds a value. -/
namespace Go.Proofs.YthgpfljhmhkaiacGreatDoor.PFnJrTypedMisses
open Go.RowKit Go.Proofs.YthgpfljhmhkaiacGreatDoorW.PrintWords Go.Proofs.YthgpfljhmhkaiacGreatDoorW.PrintLast Go.Proofs.YthgpfljhmhkaiacGreatDoorW.PrintMore
theorem results_tmp4 {fn : Func} {t u v x : Tmp} (h : fn.results = #[.tmp t, .tmp u, .tmp v, .tmp x]) (tmps : Array Value) (P : Program) (w : World) :
  (results fn tmps).run P w = .ok (.tuple #[tmps.getD t undef, tmps.getD u undef, tmps.getD v undef, tmps.getD x undef]) w := by
 simp [results, h]
/-- The world behind the boxing of the configuration and a draw. -/
abbrev CfgW (w : World) : World := (w.alloc (Obj.cells #[Value.bool false, Value.bool false, Value.int IntKind.i64 0] 85)).drew
theorem cfg_size (w : World) : (CfgW w).heap.size = w.heap.size + 1 := World.size_alloc _ _
theorem cfg_below (w : World) : Below w.heap.size w (CfgW w) := below_drew1 (below_alloc (Below.refl _ _) _)
theorem cfg_cell (w : World) {p : Addr} {v : Value} (h : w.cell? p = some v) : (CfgW w).cell? p = some v := by
 exact ((cfg_below w).cell (World.block_lt_of_cell? w _ h)).trans h
theorem cfg_box (w : World) : (CfgW w).heap[w.heap.size]? = some (Obj.cells #[Value.bool false, Value.bool false, Value.int IntKind.i64 0] 85) := heap_alloc_new w _
theorem keep_cfg {w w2 : World} (hb : Below (CfgW w).heap.size (CfgW w) w2) : w2.cell? ⟨w.heap.size, 0, none⟩ = some (.bool false) ∧ w2.cell? ⟨w.heap.size, 1, none⟩ = some (.bool false) ∧ w2.cell? ⟨w.heap.size, 2, none⟩ = some (.int .i64 0) := by
 have hl : w.heap.size < (CfgW w).heap.size := by rw [cfg_size]; omega
 exact ⟨(hb.cell hl).trans ((blk_cell (cfg_box w) 0).trans rfl), (hb.cell hl).trans ((blk_cell (cfg_box w) 1).trans rfl), (hb.cell hl).trans ((blk_cell (cfg_box w) 2).trans rfl)⟩
theorem keep_cfg1 {w w2 : World} {p : Addr} {v : Value} (hb : Below (CfgW w).heap.size (CfgW w) w2) (h : w.cell? p = some v) :
  w2.cell? ⟨w.heap.size, 0, none⟩ = some (.bool false) ∧ w2.cell? ⟨w.heap.size, 1, none⟩ = some (.bool false) ∧ w2.cell? ⟨w.heap.size, 2, none⟩ = some (.int .i64 0) ∧ w2.cell? p = some v := by
 have hl := World.block_lt_of_cell? w _ h
 obtain ⟨h1, h2, h3⟩ := keep_cfg hb
 exact ⟨h1, h2, h3, (hb.cell (by rw [cfg_size]; omega)).trans (cfg_cell w h)⟩
theorem C_cfg {w : World} {A : Option Addr} {n : Nat} {xs : List Int} (h : Kd.C (Kd.int .u8) w A n xs) : Kd.C (Kd.int .u8) (CfgW w) A n xs := Kd.C_drew (Kd.C_alloc h _)
/-- What getTypeConfig returns where all is well: a cut of the data, its kind, where it ends. -/
def GtRet (A1 : Option Addr) (l1 : List Int) (o e ty : Int) (e' : Ending) : Prop :=
 ∃ A' c', e' = .returned (.tuple #[.slice A' ((l1.take e.toNat).drop o.toNat).length c', .int .i64 ty, .int .i64 e, .nilIface]) ∧ (∀ w : World, Kd.C (Kd.int .u8) w A1 l1.length l1 → Kd.C (Kd.int .u8) w A' ((l1.take e.toNat).drop o.toNat).length ((l1.take e.toNat).drop o.toNat)) ∧ ((l1.take e.toNat).drop o.toNat).length ≤ c'
set_option maxHeartbeats 4000000 in
set_option maxRecDepth 100000 in
theorem getType_str (k : Nat) (A1 : Option Addr) (c1 : Nat) (l1 : List Int) (o se : Int) (esc : Bool) (w : World) (hr1 : Kd.C (Kd.int .u8) w A1 l1.length l1) (hc1 : l1.length ≤ c1) (ho : 0 ≤ o) (hol : o < l1.length) (hb : l1.length < 2 ^ 40)
  (h34 : rd l1 o = 34) (h : jsonparser_stringEndConfig.f k false false 0 (l1.drop (o + 1).toNat) 34 = some (se, esc)) (hse : 1 ≤ se) (hse2 : o + (se + 1) ≤ l1.length) :
  Calls Tryz.prog 72 #[.agg #[.bool false, .bool false, .int .i64 0], .slice A1 l1.length c1, .int .i64 o] w fun e' w' => GtRet A1 l1 o (o + (se + 1)) 1 e' ∧ Below w.heap.size w w' := by
 have hu85 := Tryz.underlying85
 obtain ⟨ad, e0, h0⟩ := Kd.at_int hr1 o ho hol
 cases e0
 rw [h34] at h0
 have hlt : (ad.add o.toNat).block < w.heap.size := World.block_lt_of_cell? w _ h0
 have hw1 : IntKind.i64.wrap (o + 1) = o + 1 := by rw [i64_w]; exact Go.IntWalk.wrap64_in _ (by omega)
 have hw2 : IntKind.i64.wrap (se + 1) = se + 1 := by rw [i64_w]; exact Go.IntWalk.wrap64_in _ (by omega)
 have hw3 : IntKind.i64.wrap (o + (se + 1)) = o + (se + 1) := by rw [i64_w]; exact Go.IntWalk.wrap64_in _ (by omega)
 have q0 : (0 ≤ o) = True := eq_true ho
 have q1 : (o < (l1.length : Int)) = True := eq_true hol
 have q2 : (se == -1) = false := by rw [beq_eq_false_iff_ne]; omega
 have q3 : (se != -1) = true := by rw [bne_iff_ne]; omega
 obtain ⟨i1, hi1, _, hsz1, _⟩ := info_parts info5
 obtain ⟨A2, hcut2, hA2, hC2⟩ := print_drop_of (P := Tryz.prog) (Value.int .u8) 0 44 5 .i64 Tryz.underlying44 hi1 hsz1 (some ad) c1 l1 (o + 1) (by omega) (by omega) hc1
 have HR2 := sd (Kd.C_of_reads (h1 := fun _ => rfl) (hA2 _ (Kd.reads_of_C hr1)))
 have HC2 := sd hC2
 obtain ⟨A3, hcut3, hA3, hC3⟩ := print_mid_of (P := Tryz.prog) (Value.int .u8) 0 44 5 .i64 .i64 Tryz.underlying44 hi1 hsz1 (some ad) c1 l1 o (o + (se + 1)) ho (by omega) hse2 hc1
 have HR3 := sd (Kd.C_of_reads (h1 := fun _ => rfl) (hA3 _ (Kd.reads_of_C hr1)))
 have HC3 := sd hC3
 have HR5 := sd (fun (w0 : World) (h0_ : Kd.C (Kd.int .u8) w0 (some ad) l1.length l1) => Kd.C_of_reads (h1 := fun _ => rfl) (hA3 w0 (Kd.reads_of_C h0_)))
 generalize hdq : l1.drop (o + 1).toNat = dq at *
 generalize hmq : (l1.take (o + (se + 1)).toNat).drop o.toNat = mq at *
 have HH := sd h
 have HO := sd (show 0 ≤ o ∧ o < (l1.length : Int) from ⟨ho, hol⟩)
 clear hA2 hC2 hA3 hC3 hi1 hsz1 hr1 h ho hol hse hse2
 go_enter Tryz.func72, Tryz.ntmps72
 go_wp2
 go_region_held3 (fun w' => w'.cell? ⟨w.heap.size, 0, none⟩ = some (.bool false) ∧ w'.cell? ⟨w.heap.size, 1, none⟩ = some (.bool false) ∧ w'.cell? ⟨w.heap.size, 2, none⟩ = some (.int .i64 0) ∧ w'.cell? (ad.add o.toNat) = some (.int .u8 34))
  (first | go_keep | exact keep_cfg1 HB.out h0)
  ((go_at_call 62; (with_reducible refine (jsonparser_stringEndConfig.calls k false false 0 _ _ dq 34 se esc _ ?side1 ?side2 HH.out).mono ?_); (case side1 => exact C_cfg HR2.out); (case side2 => exact HC2.out); rintro e w2 ⟨rfl, hbel⟩; have HB := sd hbel; clear hbel))
 go_wp2
 ((try simp only [Exit.inBlock, Exit.then]); refine bodyPost_ret (results_tmp4 rfl _ _ _) rfl ?_)
 subst hdq hmq
 exact ⟨⟨_, _, rfl, HR5.out, HC3.out⟩, below_step (cfg_below w) HB.out⟩
set_option maxHeartbeats 4000000 in
set_option maxRecDepth 100000 in
theorem getType_arr (k : Nat) (A1 : Option Addr) (c1 : Nat) (l1 : List Int) (o r : Int) (w : World) (hr1 : Kd.C (Kd.int .u8) w A1 l1.length l1) (hc1 : l1.length ≤ c1) (ho : 0 ≤ o) (hol : o < l1.length) (hb : l1.length < 2 ^ 40)
  (h34 : rd l1 o = 91) (h : jsonparser_blockEndConfig.f k false false 0 (l1.drop o.toNat) 91 93 = some r) (hse : 1 ≤ r) (hse2 : r + o ≤ l1.length) :
  Calls Tryz.prog 72 #[.agg #[.bool false, .bool false, .int .i64 0], .slice A1 l1.length c1, .int .i64 o] w fun e' w' => GtRet A1 l1 o (r + o) 4 e' ∧ Below w.heap.size w w' := by
 have hu85 := Tryz.underlying85
 obtain ⟨ad, e0, h0⟩ := Kd.at_int hr1 o ho hol
 cases e0
 rw [h34] at h0
 have hlt : (ad.add o.toNat).block < w.heap.size := World.block_lt_of_cell? w _ h0
 have hw3 : IntKind.i64.wrap (r + o) = r + o := by rw [i64_w]; exact Go.IntWalk.wrap64_in _ (by omega)
 have q0 : (0 ≤ o) = True := eq_true ho
 have q1 : (o < (l1.length : Int)) = True := eq_true hol
 have q2 : (r == -1) = false := by rw [beq_eq_false_iff_ne]; omega
 have q3 : (r != -1) = true := by rw [bne_iff_ne]; omega
 obtain ⟨i1, hi1, _, hsz1, _⟩ := info_parts info5
 obtain ⟨A2, hcut2, hA2, hC2⟩ := print_drop_of (P := Tryz.prog) (Value.int .u8) 0 44 5 .i64 Tryz.underlying44 hi1 hsz1 (some ad) c1 l1 o (by omega) (by omega) hc1
 have HR2 := sd (Kd.C_of_reads (h1 := fun _ => rfl) (hA2 _ (Kd.reads_of_C hr1)))
 have HC2 := sd hC2
 obtain ⟨A3, hcut3, hA3, hC3⟩ := print_mid_of (P := Tryz.prog) (Value.int .u8) 0 44 5 .i64 .i64 Tryz.underlying44 hi1 hsz1 (some ad) c1 l1 o (r + o) ho (by omega) hse2 hc1
 have HR3 := sd (Kd.C_of_reads (h1 := fun _ => rfl) (hA3 _ (Kd.reads_of_C hr1)))
 have HC3 := sd hC3
 have HR5 := sd (fun (w0 : World) (h0_ : Kd.C (Kd.int .u8) w0 (some ad) l1.length l1) => Kd.C_of_reads (h1 := fun _ => rfl) (hA3 w0 (Kd.reads_of_C h0_)))
 generalize hdq : l1.drop o.toNat = dq at *
 generalize hmq : (l1.take (r + o).toNat).drop o.toNat = mq at *
 have HH := sd h
 have HO := sd (show 0 ≤ o ∧ o < (l1.length : Int) from ⟨ho, hol⟩)
 clear hA2 hC2 hA3 hC3 hi1 hsz1 hr1 h ho hol hse hse2
 go_enter Tryz.func72, Tryz.ntmps72
 go_wp2
 go_region_held3 (fun w' => w'.cell? ⟨w.heap.size, 0, none⟩ = some (.bool false) ∧ w'.cell? ⟨w.heap.size, 1, none⟩ = some (.bool false) ∧ w'.cell? ⟨w.heap.size, 2, none⟩ = some (.int .i64 0) ∧ w'.cell? (ad.add o.toNat) = some (.int .u8 91))
  (first | go_keep | exact keep_cfg1 HB.out h0)
  ((go_at_call 81; (with_reducible refine (jsonparser_blockEndConfig.calls k false false 0 _ _ dq 91 93 r _ ?side1 ?side2 HH.out).mono ?_); (case side1 => exact C_cfg HR2.out); (case side2 => exact HC2.out); rintro e w2 ⟨rfl, hbel⟩; have HB := sd hbel; clear hbel))
 go_wp2
 ((try simp only [Exit.inBlock, Exit.then]); refine bodyPost_ret (results_tmp4 rfl _ _ _) rfl ?_)
 subst hdq hmq
 exact ⟨⟨_, _, rfl, HR5.out, HC3.out⟩, below_step (cfg_below w) HB.out⟩
set_option maxHeartbeats 4000000 in
set_option maxRecDepth 100000 in
theorem getType_obj (k : Nat) (A1 : Option Addr) (c1 : Nat) (l1 : List Int) (o r : Int) (w : World) (hr1 : Kd.C (Kd.int .u8) w A1 l1.length l1) (hc1 : l1.length ≤ c1) (ho : 0 ≤ o) (hol : o < l1.length) (hb : l1.length < 2 ^ 40)
  (h34 : rd l1 o = 123) (h : jsonparser_blockEndConfig.f k false false 0 (l1.drop o.toNat) 123 125 = some r) (hse : 1 ≤ r) (hse2 : r + o ≤ l1.length) :
  Calls Tryz.prog 72 #[.agg #[.bool false, .bool false, .int .i64 0], .slice A1 l1.length c1, .int .i64 o] w fun e' w' => GtRet A1 l1 o (r + o) 3 e' ∧ Below w.heap.size w w' := by
 have hu85 := Tryz.underlying85
 obtain ⟨ad, e0, h0⟩ := Kd.at_int hr1 o ho hol
 cases e0
 rw [h34] at h0
 have hlt : (ad.add o.toNat).block < w.heap.size := World.block_lt_of_cell? w _ h0
 have hw3 : IntKind.i64.wrap (r + o) = r + o := by rw [i64_w]; exact Go.IntWalk.wrap64_in _ (by omega)
 have q0 : (0 ≤ o) = True := eq_true ho
 have q1 : (o < (l1.length : Int)) = True := eq_true hol
 have q2 : (r == -1) = false := by rw [beq_eq_false_iff_ne]; omega
 have q3 : (r != -1) = true := by rw [bne_iff_ne]; omega
 obtain ⟨i1, hi1, _, hsz1, _⟩ := info_parts info5
 obtain ⟨A2, hcut2, hA2, hC2⟩ := print_drop_of (P := Tryz.prog) (Value.int .u8) 0 44 5 .i64 Tryz.underlying44 hi1 hsz1 (some ad) c1 l1 o (by omega) (by omega) hc1
 have HR2 := sd (Kd.C_of_reads (h1 := fun _ => rfl) (hA2 _ (Kd.reads_of_C hr1)))
 have HC2 := sd hC2
 obtain ⟨A3, hcut3, hA3, hC3⟩ := print_mid_of (P := Tryz.prog) (Value.int .u8) 0 44 5 .i64 .i64 Tryz.underlying44 hi1 hsz1 (some ad) c1 l1 o (r + o) ho (by omega) hse2 hc1
 have HR3 := sd (Kd.C_of_reads (h1 := fun _ => rfl) (hA3 _ (Kd.reads_of_C hr1)))
 have HC3 := sd hC3
 have HR5 := sd (fun (w0 : World) (h0_ : Kd.C (Kd.int .u8) w0 (some ad) l1.length l1) => Kd.C_of_reads (h1 := fun _ => rfl) (hA3 w0 (Kd.reads_of_C h0_)))
 generalize hdq : l1.drop o.toNat = dq at *
 generalize hmq : (l1.take (r + o).toNat).drop o.toNat = mq at *
 have HH := sd h
 have HO := sd (show 0 ≤ o ∧ o < (l1.length : Int) from ⟨ho, hol⟩)
 clear hA2 hC2 hA3 hC3 hi1 hsz1 hr1 h ho hol hse hse2
 go_enter Tryz.func72, Tryz.ntmps72
 go_wp2
 go_region_held3 (fun w' => w'.cell? ⟨w.heap.size, 0, none⟩ = some (.bool false) ∧ w'.cell? ⟨w.heap.size, 1, none⟩ = some (.bool false) ∧ w'.cell? ⟨w.heap.size, 2, none⟩ = some (.int .i64 0) ∧ w'.cell? (ad.add o.toNat) = some (.int .u8 123))
  (first | go_keep | exact keep_cfg1 HB.out h0)
  ((go_at_call 81; (with_reducible refine (jsonparser_blockEndConfig.calls k false false 0 _ _ dq 123 125 r _ ?side1 ?side2 HH.out).mono ?_); (case side1 => exact C_cfg HR2.out); (case side2 => exact HC2.out); rintro e w2 ⟨rfl, hbel⟩; have HB := sd hbel; clear hbel))
 go_wp2
 ((try simp only [Exit.inBlock, Exit.then]); refine bodyPost_ret (results_tmp4 rfl _ _ _) rfl ?_)
 subst hdq hmq
 exact ⟨⟨_, _, rfl, HR5.out, HC3.out⟩, below_step (cfg_below w) HB.out⟩
set_option maxHeartbeats 4000000 in
set_option maxRecDepth 100000 in
theorem getType_num (k : Nat) (A1 : Option Addr) (c1 : Nat) (l1 : List Int) (o r : Int) (w : World) (hr1 : Kd.C (Kd.int .u8) w A1 l1.length l1) (hc1 : l1.length ≤ c1) (ho : 0 ≤ o) (hol : o < l1.length) (hb : l1.length < 2 ^ 40)
  (d : Int) (hd : d = 45 ∨ d = 48 ∨ d = 49 ∨ d = 50 ∨ d = 51 ∨ d = 52 ∨ d = 53 ∨ d = 54 ∨ d = 55 ∨ d = 56 ∨ d = 57) (h34 : rd l1 o = d) (h : jsonparser_tokenEnd.f k (l1.drop o.toNat) = some r) (hse : 1 ≤ r) (hse2 : o + r ≤ l1.length) :
  Calls Tryz.prog 72 #[.agg #[.bool false, .bool false, .int .i64 0], .slice A1 l1.length c1, .int .i64 o] w fun e' w' => GtRet A1 l1 o (o + r) 2 e' ∧ Below w.heap.size w w' := by
 have hu85 := Tryz.underlying85
 obtain ⟨ad, e0, h0⟩ := Kd.at_int hr1 o ho hol
 cases e0
 rw [h34] at h0
 have hlt : (ad.add o.toNat).block < w.heap.size := World.block_lt_of_cell? w _ h0
 have hw3 : IntKind.i64.wrap (o + r) = o + r := by rw [i64_w]; exact Go.IntWalk.wrap64_in _ (by omega)
 have q0 : (0 ≤ o) = True := eq_true ho
 have q1 : (o < (l1.length : Int)) = True := eq_true hol
 obtain ⟨i1, hi1, _, hsz1, _⟩ := info_parts info5
 obtain ⟨A2, hcut2, hA2, hC2⟩ := print_drop_of (P := Tryz.prog) (Value.int .u8) 0 44 5 .i64 Tryz.underlying44 hi1 hsz1 (some ad) c1 l1 o (by omega) (by omega) hc1
 have HR2 := sd (Kd.C_of_reads (h1 := fun _ => rfl) (hA2 _ (Kd.reads_of_C hr1)))
 have HC2 := sd hC2
 obtain ⟨A3, hcut3, hA3, hC3⟩ := print_mid_of (P := Tryz.prog) (Value.int .u8) 0 44 5 .i64 .i64 Tryz.underlying44 hi1 hsz1 (some ad) c1 l1 o (o + r) ho (by omega) hse2 hc1
 have HR3 := sd (Kd.C_of_reads (h1 := fun _ => rfl) (hA3 _ (Kd.reads_of_C hr1)))
 have HC3 := sd hC3
 have HR5 := sd (fun (w0 : World) (h0_ : Kd.C (Kd.int .u8) w0 (some ad) l1.length l1) => Kd.C_of_reads (h1 := fun _ => rfl) (hA3 w0 (Kd.reads_of_C h0_)))
 generalize hdq : l1.drop o.toNat = dq at *
 generalize hmq : (l1.take (o + r).toNat).drop o.toNat = mq at *
 have HH := sd h
 have HO := sd (show 0 ≤ o ∧ o < (l1.length : Int) from ⟨ho, hol⟩)
 clear hA2 hC2 hA3 hC3 hi1 hsz1 hr1 h ho hol hse hse2
 obtain rfl | rfl | rfl | rfl | rfl | rfl | rfl | rfl | rfl | rfl | rfl := hd
 all_goals
  go_enter Tryz.func72, Tryz.ntmps72
  go_wp2_with (first | (go_at_call 89; (with_reducible refine (jsonparser_tokenEnd.calls k _ _ dq r _ ?side1 ?side2 HH.out).mono ?_); (case side1 => exact Kd.C_alloc HR2.out _); (case side2 => exact HC2.out); rintro e w2 ⟨rfl, ⟨nd, rfl⟩⟩))
  ((try simp only [Exit.inBlock, Exit.then]); refine bodyPost_ret (results_tmp4 rfl _ _ _) rfl ?_)
  subst hdq hmq
  exact ⟨⟨_, _, rfl, HR5.out, HC3.out⟩, pw_below_drewN (below_alloc (Below.refl _ _) _) _⟩
set_option maxHeartbeats 4000000 in
set_option maxRecDepth 100000 in
theorem getType_true (k : Nat) (A1 : Option Addr) (c1 : Nat) (l1 : List Int) (o r : Int) (w : World) (hr1 : Kd.C (Kd.int .u8) w A1 l1.length l1) (hc1 : l1.length ≤ c1) (ho : 0 ≤ o) (hol : o < l1.length) (hb : l1.length < 2 ^ 40)
  (h34 : rd l1 o = 116) (hv : (l1.take (o + r).toNat).drop o.toNat = [116, 114, 117, 101]) (h : jsonparser_tokenEnd.f k (l1.drop o.toNat) = some r) (hse : 1 ≤ r) (hse2 : o + r ≤ l1.length) :
  Calls Tryz.prog 72 #[.agg #[.bool false, .bool false, .int .i64 0], .slice A1 l1.length c1, .int .i64 o] w fun e' w' => GtRet A1 l1 o (o + r) 5 e' ∧ Below w.heap.size w w' := by
 have hu85 := Tryz.underlying85
 obtain ⟨ad, e0, h0⟩ := Kd.at_int hr1 o ho hol
 cases e0
 rw [h34] at h0
 have hlt : (ad.add o.toNat).block < w.heap.size := World.block_lt_of_cell? w _ h0
 have hw3 : IntKind.i64.wrap (o + r) = o + r := by rw [i64_w]; exact Go.IntWalk.wrap64_in _ (by omega)
 have q0 : (0 ≤ o) = True := eq_true ho
 have q1 : (o < (l1.length : Int)) = True := eq_true hol
 obtain ⟨i1, hi1, _, hsz1, _⟩ := info_parts info5
 obtain ⟨A2, hcut2, hA2, hC2⟩ := print_drop_of (P := Tryz.prog) (Value.int .u8) 0 44 5 .i64 Tryz.underlying44 hi1 hsz1 (some ad) c1 l1 o (by omega) (by omega) hc1
 have HR2 := sd (Kd.C_of_reads (h1 := fun _ => rfl) (hA2 _ (Kd.reads_of_C hr1)))
 have HC2 := sd hC2
 obtain ⟨A3, hcut3, hA3, hC3⟩ := print_mid_of (P := Tryz.prog) (Value.int .u8) 0 44 5 .i64 .i64 Tryz.underlying44 hi1 hsz1 (some ad) c1 l1 o (o + r) ho (by omega) hse2 hc1
 have HR3 := sd (Kd.C_of_reads (h1 := fun _ => rfl) (hA3 _ (Kd.reads_of_C hr1)))
 have HC3 := sd hC3
 have HR5 := sd (fun (w0 : World) (h0_ : Kd.C (Kd.int .u8) w0 (some ad) l1.length l1) => Kd.C_of_reads (h1 := fun _ => rfl) (hA3 w0 (Kd.reads_of_C h0_)))
 have HV := sd hv
 clear hv
 generalize hdq : l1.drop o.toNat = dq at *
 generalize hmq : (l1.take (o + r).toNat).drop o.toNat = mq at *
 have HH := sd h
 have HO := sd (show 0 ≤ o ∧ o < (l1.length : Int) from ⟨ho, hol⟩)
 clear hA2 hC2 hA3 hC3 hi1 hsz1 hr1 h ho hol hse hse2
 have e0 : ((⟨#[116, 114, 117, 101]⟩ : ByteArray).toList == (⟨#[116, 114, 117, 101]⟩ : ByteArray).toList) = true := by rw [beq_bytes]; decide
 have e1 : ((⟨#[116, 114, 117, 101]⟩ : ByteArray).toList == (⟨#[102, 97, 108, 115, 101]⟩ : ByteArray).toList) = false := by rw [beq_bytes]; decide
 have e2 : ((⟨#[116, 114, 117, 101]⟩ : ByteArray).toList == (⟨#[110, 117, 108, 108]⟩ : ByteArray).toList) = false := by rw [beq_bytes]; decide
 go_enter Tryz.func72, Tryz.ntmps72
 go_wp2_with (first | (go_at_call 89; (with_reducible refine (jsonparser_tokenEnd.calls k _ _ dq r _ ?side1 ?side2 HH.out).mono ?_); (case side1 => exact Kd.C_alloc HR2.out _); (case side2 => exact HC2.out); rintro e w2 ⟨rfl, ⟨nd, rfl⟩⟩; have hcv := (Kd.C_string Tryz.underlying44 Tryz.underlying5 Tryz.underlying9 (c := c1 - o.toNat) (Kd.C_drewN (Kd.C_alloc HR3.out (Obj.cells #[Value.bool false, Value.bool false, Value.int IntKind.i64 0] 85)) nd)).trans (congrArg (fun l => Result.ok (Value.string l) _) ((congrArg strOfNums HV.out).trans (show strOfNums [116, 114, 117, 101] = (⟨#[116, 114, 117, 101]⟩ : ByteArray) from rfl)))))
 ((try simp only [Exit.inBlock, Exit.then]); refine bodyPost_ret (results_tmp4 rfl _ _ _) rfl ?_)
 subst hdq hmq
 exact ⟨⟨_, _, rfl, HR5.out, HC3.out⟩, pw_below_drewN (below_alloc (Below.refl _ _) _) _⟩
set_option maxHeartbeats 4000000 in
set_option maxRecDepth 100000 in
theorem getType_false (k : Nat) (A1 : Option Addr) (c1 : Nat) (l1 : List Int) (o r : Int) (w : World) (hr1 : Kd.C (Kd.int .u8) w A1 l1.length l1) (hc1 : l1.length ≤ c1) (ho : 0 ≤ o) (hol : o < l1.length) (hb : l1.length < 2 ^ 40)
  (h34 : rd l1 o = 102) (hv : (l1.take (o + r).toNat).drop o.toNat = [102, 97, 108, 115, 101]) (h : jsonparser_tokenEnd.f k (l1.drop o.toNat) = some r) (hse : 1 ≤ r) (hse2 : o + r ≤ l1.length) :
  Calls Tryz.prog 72 #[.agg #[.bool false, .bool false, .int .i64 0], .slice A1 l1.length c1, .int .i64 o] w fun e' w' => GtRet A1 l1 o (o + r) 5 e' ∧ Below w.heap.size w w' := by
 have hu85 := Tryz.underlying85
 obtain ⟨ad, e0, h0⟩ := Kd.at_int hr1 o ho hol
 cases e0
 rw [h34] at h0
 have hlt : (ad.add o.toNat).block < w.heap.size := World.block_lt_of_cell? w _ h0
 have hw3 : IntKind.i64.wrap (o + r) = o + r := by rw [i64_w]; exact Go.IntWalk.wrap64_in _ (by omega)
 have q0 : (0 ≤ o) = True := eq_true ho
 have q1 : (o < (l1.length : Int)) = True := eq_true hol
 obtain ⟨i1, hi1, _, hsz1, _⟩ := info_parts info5
 obtain ⟨A2, hcut2, hA2, hC2⟩ := print_drop_of (P := Tryz.prog) (Value.int .u8) 0 44 5 .i64 Tryz.underlying44 hi1 hsz1 (some ad) c1 l1 o (by omega) (by omega) hc1
 have HR2 := sd (Kd.C_of_reads (h1 := fun _ => rfl) (hA2 _ (Kd.reads_of_C hr1)))
 have HC2 := sd hC2
 obtain ⟨A3, hcut3, hA3, hC3⟩ := print_mid_of (P := Tryz.prog) (Value.int .u8) 0 44 5 .i64 .i64 Tryz.underlying44 hi1 hsz1 (some ad) c1 l1 o (o + r) ho (by omega) hse2 hc1
 have HR3 := sd (Kd.C_of_reads (h1 := fun _ => rfl) (hA3 _ (Kd.reads_of_C hr1)))
 have HC3 := sd hC3
 have HR5 := sd (fun (w0 : World) (h0_ : Kd.C (Kd.int .u8) w0 (some ad) l1.length l1) => Kd.C_of_reads (h1 := fun _ => rfl) (hA3 w0 (Kd.reads_of_C h0_)))
 have HV := sd hv
 clear hv
 generalize hdq : l1.drop o.toNat = dq at *
 generalize hmq : (l1.take (o + r).toNat).drop o.toNat = mq at *
 have HH := sd h
 have HO := sd (show 0 ≤ o ∧ o < (l1.length : Int) from ⟨ho, hol⟩)
 clear hA2 hC2 hA3 hC3 hi1 hsz1 hr1 h ho hol hse hse2
 have e0 : ((⟨#[102, 97, 108, 115, 101]⟩ : ByteArray).toList == (⟨#[116, 114, 117, 101]⟩ : ByteArray).toList) = false := by rw [beq_bytes]; decide
 have e1 : ((⟨#[102, 97, 108, 115, 101]⟩ : ByteArray).toList == (⟨#[102, 97, 108, 115, 101]⟩ : ByteArray).toList) = true := by rw [beq_bytes]; decide
 have e2 : ((⟨#[102, 97, 108, 115, 101]⟩ : ByteArray).toList == (⟨#[110, 117, 108, 108]⟩ : ByteArray).toList) = false := by rw [beq_bytes]; decide
 go_enter Tryz.func72, Tryz.ntmps72
 go_wp2_with (first | (go_at_call 89; (with_reducible refine (jsonparser_tokenEnd.calls k _ _ dq r _ ?side1 ?side2 HH.out).mono ?_); (case side1 => exact Kd.C_alloc HR2.out _); (case side2 => exact HC2.out); rintro e w2 ⟨rfl, ⟨nd, rfl⟩⟩; have hcv := (Kd.C_string Tryz.underlying44 Tryz.underlying5 Tryz.underlying9 (c := c1 - o.toNat) (Kd.C_drewN (Kd.C_alloc HR3.out (Obj.cells #[Value.bool false, Value.bool false, Value.int IntKind.i64 0] 85)) nd)).trans (congrArg (fun l => Result.ok (Value.string l) _) ((congrArg strOfNums HV.out).trans (show strOfNums [102, 97, 108, 115, 101] = (⟨#[102, 97, 108, 115, 101]⟩ : ByteArray) from rfl)))))
 ((try simp only [Exit.inBlock, Exit.then]); refine bodyPost_ret (results_tmp4 rfl _ _ _) rfl ?_)
 subst hdq hmq
 exact ⟨⟨_, _, rfl, HR5.out, HC3.out⟩, pw_below_drewN (below_alloc (Below.refl _ _) _) _⟩
set_option maxHeartbeats 4000000 in
set_option maxRecDepth 100000 in
theorem getType_null (k : Nat) (A1 : Option Addr) (c1 : Nat) (l1 : List Int) (o r : Int) (w : World) (hr1 : Kd.C (Kd.int .u8) w A1 l1.length l1) (hc1 : l1.length ≤ c1) (ho : 0 ≤ o) (hol : o < l1.length) (hb : l1.length < 2 ^ 40)
  (h34 : rd l1 o = 110) (hv : (l1.take (o + r).toNat).drop o.toNat = [110, 117, 108, 108]) (h : jsonparser_tokenEnd.f k (l1.drop o.toNat) = some r) (hse : 1 ≤ r) (hse2 : o + r ≤ l1.length) :
  Calls Tryz.prog 72 #[.agg #[.bool false, .bool false, .int .i64 0], .slice A1 l1.length c1, .int .i64 o] w fun e' w' => GtRet A1 l1 o (o + r) 6 e' ∧ Below w.heap.size w w' := by
 have hu85 := Tryz.underlying85
 obtain ⟨ad, e0, h0⟩ := Kd.at_int hr1 o ho hol
 cases e0
 rw [h34] at h0
 have hlt : (ad.add o.toNat).block < w.heap.size := World.block_lt_of_cell? w _ h0
 have hw3 : IntKind.i64.wrap (o + r) = o + r := by rw [i64_w]; exact Go.IntWalk.wrap64_in _ (by omega)
 have q0 : (0 ≤ o) = True := eq_true ho
 have q1 : (o < (l1.length : Int)) = True := eq_true hol
 obtain ⟨i1, hi1, _, hsz1, _⟩ := info_parts info5
 obtain ⟨A2, hcut2, hA2, hC2⟩ := print_drop_of (P := Tryz.prog) (Value.int .u8) 0 44 5 .i64 Tryz.underlying44 hi1 hsz1 (some ad) c1 l1 o (by omega) (by omega) hc1
 have HR2 := sd (Kd.C_of_reads (h1 := fun _ => rfl) (hA2 _ (Kd.reads_of_C hr1)))
 have HC2 := sd hC2
 obtain ⟨A3, hcut3, hA3, hC3⟩ := print_mid_of (P := Tryz.prog) (Value.int .u8) 0 44 5 .i64 .i64 Tryz.underlying44 hi1 hsz1 (some ad) c1 l1 o (o + r) ho (by omega) hse2 hc1
 have HR3 := sd (Kd.C_of_reads (h1 := fun _ => rfl) (hA3 _ (Kd.reads_of_C hr1)))
 have HC3 := sd hC3
 have HR5 := sd (fun (w0 : World) (h0_ : Kd.C (Kd.int .u8) w0 (some ad) l1.length l1) => Kd.C_of_reads (h1 := fun _ => rfl) (hA3 w0 (Kd.reads_of_C h0_)))
 have HV := sd hv
 clear hv
 generalize hdq : l1.drop o.toNat = dq at *
 generalize hmq : (l1.take (o + r).toNat).drop o.toNat = mq at *
 have HH := sd h
 have HO := sd (show 0 ≤ o ∧ o < (l1.length : Int) from ⟨ho, hol⟩)
 clear hA2 hC2 hA3 hC3 hi1 hsz1 hr1 h ho hol hse hse2
 have e0 : ((⟨#[110, 117, 108, 108]⟩ : ByteArray).toList == (⟨#[116, 114, 117, 101]⟩ : ByteArray).toList) = false := by rw [beq_bytes]; decide
 have e1 : ((⟨#[110, 117, 108, 108]⟩ : ByteArray).toList == (⟨#[102, 97, 108, 115, 101]⟩ : ByteArray).toList) = false := by rw [beq_bytes]; decide
 have e2 : ((⟨#[110, 117, 108, 108]⟩ : ByteArray).toList == (⟨#[110, 117, 108, 108]⟩ : ByteArray).toList) = true := by rw [beq_bytes]; decide
 go_enter Tryz.func72, Tryz.ntmps72
 go_wp2_with (first | (go_at_call 89; (with_reducible refine (jsonparser_tokenEnd.calls k _ _ dq r _ ?side1 ?side2 HH.out).mono ?_); (case side1 => exact Kd.C_alloc HR2.out _); (case side2 => exact HC2.out); rintro e w2 ⟨rfl, ⟨nd, rfl⟩⟩; have hcv := (Kd.C_string Tryz.underlying44 Tryz.underlying5 Tryz.underlying9 (c := c1 - o.toNat) (Kd.C_drewN (Kd.C_alloc HR3.out (Obj.cells #[Value.bool false, Value.bool false, Value.int IntKind.i64 0] 85)) nd)).trans (congrArg (fun l => Result.ok (Value.string l) _) ((congrArg strOfNums HV.out).trans (show strOfNums [110, 117, 108, 108] = (⟨#[110, 117, 108, 108]⟩ : ByteArray) from rfl)))))
 ((try simp only [Exit.inBlock, Exit.then]); refine bodyPost_ret (results_tmp4 rfl _ _ _) rfl ?_)
 subst hdq hmq
 exact ⟨⟨_, _, rfl, HR5.out, HC3.out⟩, pw_below_drewN (below_alloc (Below.refl _ _) _) _⟩
theorem results_tmp5 {fn : Func} {t u v x y : Tmp} (h : fn.results = #[.tmp t, .tmp u, .tmp v, .tmp x, .tmp y]) (tmps : Array Value) (P : Program) (w : World) :
  (results fn tmps).run P w = .ok (.tuple #[tmps.getD t undef, tmps.getD u undef, tmps.getD v undef, tmps.getD x undef, tmps.getD y undef]) w := by
 simp [results, h]
/-- What internalGetConfig returns where all is well. -/
def IgRet (A1 : Option Addr) (l1 : List Int) (o b e ty : Int) (e' : Ending) : Prop :=
 ∃ A', e' = .returned (.tuple #[.slice A' ((l1.take e.toNat).drop o.toNat).length ((l1.take e.toNat).drop o.toNat).length, .int .i64 ty, .int .i64 b, .int .i64 e, .nilIface]) ∧ ∀ w : World, Kd.C (Kd.int .u8) w A1 l1.length l1 → Kd.C (Kd.int .u8) w A' ((l1.take e.toNat).drop o.toNat).length ((l1.take e.toNat).drop o.toNat)
/-- What getTypeConfig answers at a place of the data, in every world in which the data are read. -/
def GtAt (A1 : Option Addr) (c1 : Nat) (l1 : List Int) (o e ty : Int) : Prop :=
 ∀ w : World, Kd.C (Kd.int .u8) w A1 l1.length l1 → Calls Tryz.prog 72 #[.agg #[.bool false, .bool false, .int .i64 0], .slice A1 l1.length c1, .int .i64 o] w fun e' w' => GtRet A1 l1 o e ty e' ∧ Below w.heap.size w w'
set_option maxHeartbeats 4000000 in
set_option maxRecDepth 100000 in
theorem iget_plain (k : Nat) (A1 : Option Addr) (c1 : Nat) (l1 : List Int) (n e ty : Int) (w : World) (hr1 : Kd.C (Kd.int .u8) w A1 l1.length l1) (hc1 : l1.length ≤ c1) (hb : l1.length < 2 ^ 40)
  (h : jsonparser_nextTokenConfig.f k false false 0 l1 = some n) (hn : 0 ≤ n) (hn2 : n < l1.length) (hg : GtAt A1 c1 l1 n e ty) (hty : ty ≠ 1) (hne : n ≤ e) (hel : e ≤ l1.length) :
  Calls Tryz.prog 53 #[.agg #[.bool false, .bool false, .int .i64 0], .slice A1 l1.length c1, .slice none 0 0] w fun e' w' => IgRet A1 l1 n n e ty e' ∧ Below w.heap.size w w' := by
 have hu85 := Tryz.underlying85
 have hw3 : IntKind.i64.wrap (0 + n) = n := by rw [Int.zero_add, i64_w]; exact Go.IntWalk.wrap64_in _ (by omega)
 have hw4 : IntKind.i64.wrap n = n := by rw [i64_w]; exact Go.IntWalk.wrap64_in _ (by omega)
 have hw5 : wrap64 n = n := Go.IntWalk.wrap64_in _ (by omega)
 have q2 : (n == -1) = false := by rw [beq_eq_false_iff_ne]; omega
 have q3 : (n != -1) = true := by rw [bne_iff_ne]; omega
 have q4 : (ty == 1) = false := by rw [beq_eq_false_iff_ne]; exact hty
 have HR1 := sd hr1
 have HC1 := sd hc1
 have HH := sd h
 obtain ⟨i1, hi1, _, hsz1, _⟩ := info_parts info5
 obtain ⟨A2, hcut2, hA2, hC2⟩ := print_drop_of (P := Tryz.prog) (Value.int .u8) 0 44 5 .i64 Tryz.underlying44 hi1 hsz1 A1 c1 l1 0 (by omega) (by omega) hc1
 have HR2 : Aside0 (Kd.C (Kd.int .u8) w A2 l1.length l1) := sd (Kd.C_of_reads (h1 := fun _ => rfl) (hA2 _ (Kd.reads_of_C hr1)))
 have HC2 := sd hC2
 clear hA2 hC2 hi1 hsz1
 have HG := sd hg
 clear hr1 hc1 h hg hn hn2 hty hne hel
 go_enter Tryz.func53, Tryz.ntmps53
 go_wp2
 go_region_held3 (fun w' => w'.cell? ⟨w.heap.size, 0, none⟩ = some (.bool false) ∧ w'.cell? ⟨w.heap.size, 1, none⟩ = some (.bool false) ∧ w'.cell? ⟨w.heap.size, 2, none⟩ = some (.int .i64 0))
  (first | go_keep | exact keep_cfg HB.out)
  ((go_at_call 59; (with_reducible refine (jsonparser_nextTokenConfig.calls k false false 0 _ _ l1 n _ ?side1 ?side2 HH.out).mono ?_); (case side1 => exact C_cfg HR2.out); (case side2 => exact HC1.out); rintro e w2 ⟨rfl, hbel⟩; have HB := sd hbel; clear hbel))
 have HR1b := sd (Kd.C_below HR1.out (below_step (cfg_below w) HB.out))
 go_wp2_with (first | (go_at_call 72; refine Calls.mono (HG.out w2 HR1b.out) ?_; rintro e' w3 ⟨⟨A', c', rfl, hRR, hC⟩, hbel⟩; generalize hmq : (l1.take e.toNat).drop n.toNat = mq at *; have hR := hRR _ HR1.out; have HRR := sd hRR; clear hRR; have HB3 := sd hbel; have HR3 := sd hR; have HC3 := sd hC; have u1 := eq_true hC; have u2 := eq_true (Int.ofNat_le.mpr hC); clear hR hC hbel))
 ((try simp only [Exit.inBlock, Exit.then]); refine bodyPost_ret (results_tmp5 rfl _ _ _) rfl ?_)
 subst hmq
 exact ⟨⟨_, rfl, HRR.out⟩, below_step (below_step (cfg_below w) HB.out) HB3.out⟩
/-- The inside of a quoted cut. -/
def inside (v : List Int) : List Int := (v.take (v.length - 1)).drop 1
/-- What internalGetConfig returns at a string: the inside of its quotes. -/
def IsStr (w : World) (l1 : List Int) (o e : Int) (e' : Ending) : Prop :=
 ∃ A', e' = .returned (.tuple #[.slice A' (inside ((l1.take e.toNat).drop o.toNat)).length (inside ((l1.take e.toNat).drop o.toNat)).length, .int .i64 1, .int .i64 o, .int .i64 e, .nilIface]) ∧ Kd.C (Kd.int .u8) w A' (inside ((l1.take e.toNat).drop o.toNat)).length (inside ((l1.take e.toNat).drop o.toNat))
set_option maxHeartbeats 4000000 in
set_option maxRecDepth 100000 in
theorem iget_str (k : Nat) (A1 : Option Addr) (c1 : Nat) (l1 : List Int) (n e : Int) (w : World) (hr1 : Kd.C (Kd.int .u8) w A1 l1.length l1) (hc1 : l1.length ≤ c1) (hb : l1.length < 2 ^ 40)
  (h : jsonparser_nextTokenConfig.f k false false 0 l1 = some n) (hn : 0 ≤ n) (hn2 : n < l1.length) (hg : GtAt A1 c1 l1 n e 1) (hne : n + 2 ≤ e) (hel : e ≤ l1.length) :
  Calls Tryz.prog 53 #[.agg #[.bool false, .bool false, .int .i64 0], .slice A1 l1.length c1, .slice none 0 0] w fun e' w' => IsStr w l1 n e e' ∧ Below w.heap.size w w' := by
 have hu85 := Tryz.underlying85
 have hw3 : IntKind.i64.wrap (0 + n) = n := by rw [Int.zero_add, i64_w]; exact Go.IntWalk.wrap64_in _ (by omega)
 have hw4 : IntKind.i64.wrap n = n := by rw [i64_w]; exact Go.IntWalk.wrap64_in _ (by omega)
 have hw5 : wrap64 n = n := Go.IntWalk.wrap64_in _ (by omega)
 have q2 : (n == -1) = false := by rw [beq_eq_false_iff_ne]; omega
 have q3 : (n != -1) = true := by rw [bne_iff_ne]; omega
 have HR1 := sd hr1
 have HC1 := sd hc1
 have HH := sd h
 obtain ⟨i1, hi1, _, hsz1, _⟩ := info_parts info5
 obtain ⟨A2, hcut2, hA2, hC2⟩ := print_drop_of (P := Tryz.prog) (Value.int .u8) 0 44 5 .i64 Tryz.underlying44 hi1 hsz1 A1 c1 l1 0 (by omega) (by omega) hc1
 have HR2 : Aside0 (Kd.C (Kd.int .u8) w A2 l1.length l1) := sd (Kd.C_of_reads (h1 := fun _ => rfl) (hA2 _ (Kd.reads_of_C hr1)))
 have HC2 := sd hC2
 have hvl : (((l1.take e.toNat).drop n.toNat).length : Int) = e - n := by rw [List.length_drop, List.length_take]; omega
 have hw6 : IntKind.i64.wrap (e - n - 1) = e - n - 1 := by rw [i64_w]; exact Go.IntWalk.wrap64_in _ (by omega)
 generalize hV : (l1.take e.toNat).drop n.toNat = v at hvl
 have HVL := sd (show (v.length : Int) = e - n ∧ n + 2 ≤ e from ⟨hvl, hne⟩)
 have hw7 : IntKind.i64.wrap ((v.length : Int) - 1) = (v.length : Int) - 1 := by rw [hvl]; exact hw6
 clear hvl hw6
 have HVV := sd hV
 clear hV
 have HI := sd (show ∃ i, Tryz.prog.info? 5 = some i ∧ i.size = 1 from ⟨_, hi1, hsz1⟩)
 clear hA2 hC2 hi1 hsz1
 have HG := sd hg
 clear hr1 hc1 h hg hn hn2 hne hel
 go_enter Tryz.func53, Tryz.ntmps53
 go_wp2
 go_region_held3 (fun w' => w'.cell? ⟨w.heap.size, 0, none⟩ = some (.bool false) ∧ w'.cell? ⟨w.heap.size, 1, none⟩ = some (.bool false) ∧ w'.cell? ⟨w.heap.size, 2, none⟩ = some (.int .i64 0))
  (first | go_keep | exact keep_cfg HB.out)
  ((go_at_call 59; (with_reducible refine (jsonparser_nextTokenConfig.calls k false false 0 _ _ l1 n _ ?side1 ?side2 HH.out).mono ?_); (case side1 => exact C_cfg HR2.out); (case side2 => exact HC1.out); rintro e w2 ⟨rfl, hbel⟩; have HB := sd hbel; clear hbel))
 have HR1b := sd (Kd.C_below HR1.out (below_step (cfg_below w) HB.out))
 go_wp2_with (first | (go_at_call 72; refine Calls.mono (HG.out w2 HR1b.out) ?_; rintro e' w3 ⟨⟨A', c', rfl, hRR, hC⟩, hbel⟩; have hR := hRR _ HR1.out; have HRR := sd hRR; clear hRR; have HB3 := sd hbel; have HR3 := sd hR; rw [HVV.out] at hR hC; rw [HVV.out]; obtain ⟨i4, hi4, hsz4⟩ := HI.out; obtain ⟨A4, hcut4, hA4, hC4⟩ := print_mid_of (P := Tryz.prog) (Value.int .u8) 0 44 5 .i64 .i64 Tryz.underlying44 hi4 hsz4 A' c' v 1 ((v.length : Int) - 1) (by omega) (by have := HVL.out; omega) (by omega) hC; have HR4 := sd (Kd.C_of_reads (h1 := fun _ => rfl) (hA4 _ (Kd.reads_of_C hR))); have u3 := eq_true hC4; have u5 : ((List.take (v.length - 1) v).length - 1 ≤ c' - 1) = True := eq_true (by rw [List.length_take]; omega); have u6 : ((((List.take (v.length - 1) v).length - 1 : Nat) : Int) ≤ ((c' - 1 : Nat) : Int)) = True := eq_true (by rw [List.length_take]; omega); have u4 := eq_true (Int.ofNat_le.mpr hC4); have u7 : (v.length ≤ c' - 1 + 1 + 1) = True := eq_true (by omega); have u8 : (v.length - 1 - 1 ≤ c' - 1) = True := eq_true (by omega); clear hA4 hC4 hi4 hsz4; clear hR hC hbel))
 ((try simp only [Exit.inBlock, Exit.then]); refine bodyPost_ret (results_tmp5 rfl _ _ _) rfl ?_)
 have hl : (inside v).length = v.length - 1 - 1 := by rw [inside, List.length_drop, List.length_take]; omega
 have hi : inside v = (v.take ((v.length : Int) - 1).toNat).drop (1 : Int).toNat := by rw [inside, show ((v.length : Int) - 1).toNat = v.length - 1 from by omega]; rfl
 refine ⟨⟨A4, ?_, ?_⟩, below_step (below_step (cfg_below w) HB.out) HB3.out⟩
 ·rw [HVV.out, hl]; rfl
 ·rw [HVV.out, hi]; exact HR4.out
end Go.Proofs.YthgpfljhmhkaiacGreatDoor.PFnJrTypedMisses
