/- The law laws.FnJrTypedMisses answers true for every input and leaves its arguments as they read: where the reference says that the keys lead nowhere, every getter of jsonparser tells KeyPathNotFoundError. The row and its tied card. CONDITIONS: the listed package-level variables start as the program text lays them (the card ties them; two great tables of the library are pinned by name). -/
import Derived.Test.YthgpfljhmhkaiacGreatDoorRows
import Derived.Test.YthgpfljhmhkaiacGreatDoorZH
import Derived.LaidMore
import Derived.OpenShut
import Derived.LaidSub
import Derived.LaidLaws
import Derived.MakeChecks
import Derived.Test.YthgpfljhmhkaiacGreatDoorTie
import Derived.Test.YthgpfljhmhkaiacGreatDoorCards
import Derived.Test.YthgpfljhmhkaiacGreatDoorZA
import Derived.ProofKit
import Derived.ShutString
import Derived.SliceStrings
import Derived.ChangeOld
import Derived.Below
import Derived.Lay
import Derived.SevenTiedAt
import Derived.Stop.Joined
set_option linter.all false
/- What the listed package-level variables hold, in the cells that the walk reads. -/
namespace Go.Proofs.YthgpfljhmhkaiacGreatDoor.PFnJrTypedMisses
open Go Go.RowKit
set_option maxRecDepth 100000
theorem t41 : Tryz.prog.cellsOf 97 = 1 := by kernel_rfl
theorem t9 : Tryz.prog.cellsOf 9 = 1 := by kernel_rfl
theorem t5 : Tryz.prog.cellsOf 5 = 1 := by kernel_rfl
theorem t4 : Tryz.prog.cellsOf 4 = 1 := by kernel_rfl
theorem t3 : Tryz.prog.cellsOf 3 = 1 := by kernel_rfl
theorem gErr : Tryz.prog.globalNamed "pub-tetrapla/pub/jsonparser.KeyPathNotFoundError" = some 1 := by kernel_rfl
theorem gCfg : Tryz.prog.globalNamed "pub-tetrapla/pub/jsonparser.DefaultConfig" = some 11 := by kernel_rfl
theorem gTab : Tryz.prog.globalNamed "pub-tetrapla/pub/jsonparser.backslashCharEscapeTable" = some 15 := by kernel_rfl
theorem gErrT : (Tryz.prog.globals[1]?).map (·.type) = some 41 := by kernel_rfl
theorem gCfgT : (Tryz.prog.globals[11]?).map (·.type) = some 85 := by kernel_rfl
theorem gTabT : (Tryz.prog.globals[15]?).map (·.type) = some 134 := by kernel_rfl
theorem star : "*" ++ "errors.errorString" = "*errors.errorString" := by decide
theorem row95 (u : TypeId) (h : Tryz.prog.typeName? 3 u = some "*errors.errorString") : u = 95 :=
 typeName_ptr_named (nm := "errors.errorString") (by rw [star]; kernel_rfl) (by kernel_rfl) (by decide) u (by rw [star]; exact h)
theorem cut_of {W : World} {l : List (String × DataW Unit)} (n : String) (d : DataW Unit) (hl : (l.filter fun x => x.1 == n) = [(n, d)]) (hd : ([(n, d)].all fun x => x.2.handleName?.isNone) = true) (h : laidMetH Tryz.prog l W) : laidMet Tryz.prog [(n, d)] W := by
 have h1 := h.filter fun x => x.1 == n
 rw [hl, MakeChecks.laidMetH_plain _ _ _ hd] at h1
 exact h1
abbrev laidAll : List (String × DataW Unit) := Rows.fnJrTypedMissesRow.laid
theorem cutErr : (laidAll.filter fun x => x.1 == "pub-tetrapla/pub/jsonparser.KeyPathNotFoundError") = [("pub-tetrapla/pub/jsonparser.KeyPathNotFoundError", Rows.laid_pub_tetrapla_pub_jsonparser_KeyPathNotFoundError)] := by kernel_rfl
theorem cutCfg : (laidAll.filter fun x => x.1 == "pub-tetrapla/pub/jsonparser.DefaultConfig") = [("pub-tetrapla/pub/jsonparser.DefaultConfig", Rows.laid_pub_tetrapla_pub_jsonparser_DefaultConfig)] := by kernel_rfl
theorem cutTab : (laidAll.filter fun x => x.1 == "pub-tetrapla/pub/jsonparser.backslashCharEscapeTable") = [("pub-tetrapla/pub/jsonparser.backslashCharEscapeTable", Rows.laid_pub_tetrapla_pub_jsonparser_backslashCharEscapeTable)] := by kernel_rfl
/-- The sentinel's cell. -/
theorem err_cell {W : World} (h : laidMetH Tryz.prog laidAll W) : ∃ ea, W.cell? ⟨1, 0, none⟩ = some (.iface 95 (.pointer (some ea))) := by
 obtain ⟨ps, ⟨g, t, cs, f, p, q, hg, ht, hv, hd, hq, e⟩, hnd, hrows⟩ := cut_of _ _ cutErr (by kernel_rfl) h
 obtain rfl := Option.some.inj (gErr.symm.trans hg)
 obtain rfl := Option.some.inj (gErrT.symm.trans ht)
 subst e
 obtain ⟨l⟩ := cs
 have ok : ∀ u v, l = [.iface u v] → Value.okWide Tryz.prog W .any 0 u v := fun u v e => by
  subst e
  exact (hrows 1 0 (by simp [MemPlace.row])).2 u v (by simpa using World.var?_cell hg hv 0)
 obtain ⟨a, s, rfl, _, _, _, _⟩ := errorString_of_trod Tryz.underlying41 row95 Tryz.underlying95 Tryz.underlying97 rfl rfl Tryz.underlying9 t41 t9 hd ok
 exact ⟨a, by simpa using World.var?_cell hg hv 0⟩
/-- The configuration's cells. -/
theorem cfg_cells {W : World} (h : laidMetH Tryz.prog laidAll W) : W.cell? ⟨11, 0, none⟩ = some (.bool false) ∧ W.cell? ⟨11, 1, none⟩ = some (.bool false) ∧ W.cell? ⟨11, 2, none⟩ = some (.int .i64 0) := by
 obtain ⟨ps, ⟨g, t, cs, f, p, q, hg, ht, hv, hd, hq, e⟩, hnd, hrows⟩ := cut_of _ _ cutCfg (by kernel_rfl) h
 obtain rfl := Option.some.inj (gCfg.symm.trans hg)
 obtain rfl := Option.some.inj (gCfgT.symm.trans ht)
 have c85 : Tryz.prog.cellsOf 85 = 3 := by kernel_rfl
 obtain ⟨xs, n, rfl, ex, hl, hn, hf⟩ := DataW.trod_struct Tryz.underlying85 hd
 obtain ⟨l⟩ := cs
 rw [c85] at hl
 match l, hl, xs, hn, ex, hf with
 | [v0, v1, v2], _, [x0, x1, x2], _, ex, hf =>
  have h0 := hf 0 _ rfl
  have h1 := hf 1 _ rfl
  have h2 := hf 2 _ rfl
  simp only [t4, t3] at h0 h1 h2
  obtain ⟨b0, e0, r0⟩ := DataW.trod_bool Tryz.underlying4 (show DataW.trod _ Tryz.prog W 0 _ false n 4 [v0] = some x0 from h0)
  obtain ⟨b1, e1, r1⟩ := DataW.trod_bool Tryz.underlying4 (show DataW.trod _ Tryz.prog W 0 _ false n 4 [v1] = some x1 from h1)
  obtain ⟨b2, e2, r2, _⟩ := DataW.trod_int Tryz.underlying3 (show DataW.trod _ Tryz.prog W 0 _ false n 3 [v2] = some x2 from h2)
  have e3 := (DataW.agg.inj (Prod.mk.inj ex).1)
  rw [r0, r1, r2] at e3
  simp at e0 e1 e2 e3
  obtain ⟨q0, q1, q2⟩ := e3
  subst e0 e1 e2
  have k0 := World.var?_cell hg hv 0
  have k1 := World.var?_cell hg hv 1
  have k2 := World.var?_cell hg hv 2
  simp at k0 k1 k2
  rw [k0, k1, k2, q0, q1, q2]
  exact ⟨rfl, rfl, rfl⟩
/-- The table's bytes. -/
def tabZ : List Int := [0, 0, 0, 0, 0, 0, 0, 0, 0, 0, 0, 0, 0, 0, 0, 0, 0, 0, 0, 0, 0, 0, 0, 0, 0, 0, 0, 0, 0, 0, 0, 0, 0, 0, 34, 0, 0, 0, 0, 0, 0, 0, 0, 0, 0, 0, 0, 47, 0, 0, 0, 0, 0, 0, 0, 0, 0, 0, 0, 0, 0, 0, 0, 0, 0, 0, 0, 0, 0, 0, 0, 0, 0, 0, 0, 0, 0, 0, 0, 0, 0, 0, 0, 0, 0, 0, 0, 0, 0, 0, 0, 0, 92, 0, 0, 0, 0, 0, 8, 0, 0, 0, 12, 0, 0, 0, 0, 0, 0, 0, 10, 0, 0, 0, 13, 0, 9]
theorem tab_cell {W : World} (h : laidMetH Tryz.prog laidAll W) (r : Nat) (hr : r < 117) : W.cell? ⟨15, r, none⟩ = some (.int .u8 (tabZ.getD r 0)) := by
 obtain ⟨ps, ⟨g, t, cs, f, p, q, hg, ht, hv, hd, hq, e⟩, hnd, hrows⟩ := cut_of _ _ cutTab (by kernel_rfl) h
 obtain rfl := Option.some.inj (gTab.symm.trans hg)
 obtain rfl := Option.some.inj (gTabT.symm.trans ht)
 obtain ⟨xs, m, _, ex, _, hl, hel⟩ := DataW.trod_array Tryz.underlying134 hd
 have hE := hel r hr
 rw [t5, Nat.mul_one, List.getElem?_eq_getElem (by omega)] at hE
 obtain ⟨z, e1, e2, _⟩ := DataW.trod_int Tryz.underlying5 hE
 have hlen : tabZ.length = 117 := by kernel_rfl
 have e0 : Rows.laid_pub_tetrapla_pub_jsonparser_backslashCharEscapeTable (H := Unit) = .agg (tabZ.map fun n => .lit (.int .u8 n)) := by kernel_rfl
 have e3 : (xs.map (·.1)) = tabZ.map fun n => .lit (.int .u8 n) := (DataW.agg.inj (e0.symm.trans (Prod.mk.inj ex).1)).symm
 have e4 : (xs.map (·.1))[r]? = (tabZ.map fun n => (DataW.lit (.int .u8 n) : DataW Unit))[r]? := by rw [e3]
 rw [List.getElem?_map, List.getElem?_map, List.getElem?_eq_getElem (by omega : r < xs.length), List.getElem?_eq_getElem (by omega : r < tabZ.length), e2] at e4
 have hz : z = tabZ.getD r 0 := by
  simp only [Option.map_some, Option.some.injEq, DataW.lit.injEq, Lit.int.injEq, true_and] at e4
  rw [e4, List.getD, List.getElem?_eq_getElem (by omega : r < tabZ.length)]; rfl
 rw [World.var?_cell hg hv r, ← hz]
 have : cs.toList[r]? = some (.int .u8 z) := by
  have h0 : ((cs.toList.drop r).take 1)[0]? = some (.int .u8 z) := by rw [e1]; rfl
  simpa using h0
 simpa using this
theorem tab_w {W : World} (h : laidMetH Tryz.prog laidAll W) : TabW W :=
 ⟨tab_cell h 34 (by decide), tab_cell h 92 (by decide), tab_cell h 47 (by decide), tab_cell h 98 (by decide), tab_cell h 102 (by decide), tab_cell h 110 (by decide), tab_cell h 114 (by decide), tab_cell h 116 (by decide)⟩
end Go.Proofs.YthgpfljhmhkaiacGreatDoor.PFnJrTypedMisses
/- Where the reference says that the keys lead nowhere, every getter of jsonparser tells KeyPathNotFoundError: the law 'laws.FnJrTypedMisses' answers true for every input and leaves its arguments as they read; its row and its tied card. CONDITIONS: the listed package-level variables start as the program's text lays them (the card ties them; two great tables of Go's library are pinned by name). -/
namespace Go.Proofs.YthgpfljhmhkaiacGreatDoor
open Go Go.ChangeShapes Go.WideShapes Go.ChangeAt Go.RowKit Go.Proofs.YthgpfljhmhkaiacGreatDoorW.PrintWords Go.Proofs.YthgpfljhmhkaiacGreatDoorW.PrintLast Go.Proofs.YthgpfljhmhkaiacGreatDoorW.PrintMore
open Go.ChangeMaps (open_string shut_string)
theorem own : ownKnob Tryz.prog.godebug = none := by kernel_rfl
theorem laidOut : laidOutB Tryz.prog = true := by kernel_rfl
theorem keys_reads {w : World} {a : Addr} {len : Nat} {ss : List ByteArray} (hlen : len ≤ ss.length) (h9 : len ≤ maxLen) (hcell : ∀ i, i < ss.length → w.cell? (a.add i) = some (.string (ss.getD i ByteArray.empty))) : Kd.C Kd.string w (some a) len (ss.take len) := by
 refine Kd.C_of_reads (d := ByteArray.empty) (h1 := fun _ => rfl) ⟨by rw [List.length_take]; omega, by simp only [maxLen] at h9; omega, fun _ => ⟨a, rfl, fun j hj => ?_⟩⟩
 rw [hcell j (by omega)]
 simp only [List.getD_eq_getElem?_getD, List.getElem?_take, if_pos hj]
theorem keys_none (w : World) : Kd.C Kd.string w none 0 [] :=
 Kd.C_of_reads (d := ByteArray.empty) (h1 := fun _ => rfl) ⟨rfl, by omega, fun h => absurd h (by omega)⟩
set_option maxRecDepth 100000 in
theorem lifted (os : Os) (started : os.Started) (H : Type) (enc : TypeId × Value → H) :
  ReturnsInHanded {} Tryz.checked os 3 .any (fun w args => (Rows.fnJrTypedMissesSpec.pre enc Tryz.prog Tryz.f3 Rows.fnJrTypedMissesRow.domain false w args ∧ laidMetH Tryz.prog Rows.fnJrTypedMissesRow.laid w) ∧ sizedMet enc Tryz.prog Tryz.f3 (OpenSpec.ofChange Rows.fnJrTypedMissesSpec) false w args)
   (Rows.fnJrTypedMissesSpec.post enc Tryz.prog Tryz.f3 false true false false) := by
 refine returnsInHanded_of_change_and (C := Tryz.checked) (X := fun w _ => laidMetH Tryz.prog Rows.fnJrTypedMissesRow.laid w) (fun _ _ _ hh h => h.of_heap hh) own started (by kernel_rfl) Tryz.func3
  (ChangeSpec.witness_shaped (enc := enc) (C := Tryz.checked) (os := os) (X := fun w _ => laidMetH Tryz.prog Rows.fnJrTypedMissesRow.laid w) false (World.laidAll Tryz.prog os Rows.fnJrTypedMissesRow.laid) #[.string ByteArray.empty, .slice none 0 0] 8 (World.laidAll_os _ _ _)
   (World.shaped_of_ZipB (by as_aux_lemma => kernel_rfl) (by as_aux_lemma => kernel_rfl)) (by as_aux_lemma => kernel_rfl) (by as_aux_lemma => kernel_rfl) (by as_aux_lemma => kernel_rfl)
   (by rw [MakeChecks.laidMetH_plain _ _ _ (by kernel_rfl)]; exact laidMet_laidAll _ (by as_aux_lemma => kernel_rfl) (by as_aux_lemma => kernel_rfl))) ?_
 intro W base args ds gs before hval0 hW hc _ hL _
 have hval : ∀ (j : Nat) t v, Tryz.f3.params[j]? = some t → args[j]? = some v → Value.okWide Tryz.prog W .any base t v := hval0
 have hW' := hW
 obtain ⟨p, q, hA0, hV, rfl, hfz, hnd⟩ := hW
 have hA : DataW.TrodAll enc Tryz.prog W 0 (fun _ => true) true Tryz.f3.params.toList args.toList ds p := hA0
 rw [Tryz.params3] at hA hval
 obtain ⟨v0, vs0, d0, ds0, p0, q0, hargs, rfl, rfl, h0, r0⟩ := trodAll_cons hA
 obtain ⟨v1, vs1, d1, ds1, p1, q1, rfl, rfl, rfl, h1, r1⟩ := trodAll_cons r0
 obtain ⟨rfl, rfl, rfl⟩ := trodAll_nil r1
 obtain rfl : args = #[v0, v1] := by cases args; simp_all
 obtain ⟨rfl, rfl⟩ := trodVars_none hV
 obtain ⟨s, rfl, rfl, rfl, y0⟩ := open_string Tryz.underlying9 (hval 0 9 v0 rfl rfl) h0
 obtain ⟨Ak, len, cap, rfl⟩ := okWide_slice Tryz.underlying22 (hval 1 22 v1 rfl rfl)
 have k1 := h1
 have lt1 : ∀ x ∈ p1, x.block < W.heap.size := by obtain ⟨m, hm⟩ := k1; exact DataW.trod_lt m _ _ _ hm
 obtain ⟨keys, hkl, hrk, hck⟩ : ∃ keys : List ByteArray, keys.length = len ∧ Kd.C Kd.string W Ak len keys ∧ len ≤ cap := by
  obtain ⟨fuel, hf⟩ := h1
  rcases open_strings Tryz.underlying22 Tryz.underlying9 (by kernel_rfl) hf with ⟨hcs, _⟩ | ⟨x, l, c, ss, hcs, _, hl, hm, hz, _, hcell, _⟩
  ·simp [Value.cells] at hcs
   obtain ⟨rfl, rfl, rfl⟩ := hcs
   exact ⟨[], rfl, keys_none W, Nat.le_refl _⟩
  ·simp [Value.cells] at hcs
   obtain ⟨rfl, rfl, rfl⟩ := hcs
   have hz' : ss.length = cap := by simpa using hz
   exact ⟨ss.take len, by rw [List.length_take]; omega, keys_reads (by omega) (by omega) hcell, hl⟩
 subst hkl
 obtain ⟨ea, hE⟩ := PFnJrTypedMisses.err_cell hL
 obtain ⟨hD0, hD1, hD2⟩ := PFnJrTypedMisses.cfg_cells hL
 clear hA0 hval0
 refine (PFnJrTypedMisses.law_calls s keys Ak cap W ea hrk hck (PFnJrTypedMisses.tab_w hL) hE hD0 hD1 hD2).mono fun e W' ⟨he, bel⟩ => ?_
 subst he
 exact ⟨_, rfl, _, _, _, [], _, [], hW', trodAll_mk1 (shut_bool Tryz.underlying4 _), trodAll_cons_mk (shut_string Tryz.underlying9 y0) (trodAll_cons_mk (Below.trod laidOut (by kernel_rfl) (of_decide_eq_true (by kernel_rfl)) k1 bel lt1) trodAll_mk0), rfl, bel.frame _, fun h => by cases h⟩
theorem fnJrTypedMisses_over : Rows.FnJrTypedMissesSaid :=
 OpenClaim.holds_of_wide 3 Tryz.f3 rfl rfl rfl rfl rfl rfl rfl ⟨rfl, rfl, rfl, rfl, rfl⟩ rfl rfl rfl rfl rfl (by kernel_rfl) Tryz.func3 (by kernel_rfl)
  (of_decide_eq_true (by kernel_rfl)) (by unfold Func.isWrapper; first | (rw [if_pos (by decide +kernel)]; kernel_rfl) | (rw [if_neg (by decide +kernel)]; exact ⟨rfl, rfl⟩))
  (fun os started H enc _ => lifted os started H enc)
/-- The tied card. -/
theorem fnJrTypedMisses_holds : Rows.FnJrTypedMissesCardSaid :=
 Claim7.holds_tied_plain_at .later [] [.data, .data, .widerDeep, .widerDeep, .data, .data, .data, .data, .data, .sentinel, .sentinel, .data, .data, .sentinel, .sentinel, .sentinel, .sentinel, .sentinel, .sentinel, .sentinel, .sentinel, .sentinel, .sentinel, .pinned, .pinned] true (true, "d698b1ce495185b410caadf05a42efd28a854bf0d512cd8f46bfa93c1629f7a0") true
  fnJrTypedMisses_over (fun _ h => by cases h) (by kernel_rfl) (fun _ h => by cases h) fnJrTypedMisses_row_tie rfl ⟨rfl, rfl⟩ (by kernel_rfl) rfl
  (fun f fn hf hfn => by
   obtain rfl : f = 3 := Option.some.inj ((show Tryz.prog.funcNamed "pub-tetrapla/laws.FnJrTypedMisses" = some 3 by kernel_rfl).symm.trans hf) |>.symm
   obtain rfl : fn = Tryz.f3 := (Option.some.inj (Tryz.func3.symm.trans hfn)).symm
   exact ⟨by kernel_rfl, fun j t ht => by
    rw [Tryz.params3] at ht
    have hm : t ∈ [9, 22] := by simpa using Array.mem_of_getElem? ht
    have hall : ([9, 22].all fun u => !Tryz.prog.wantsStandIn u) = true := by kernel_rfl
    exact (show Tryz.prog.wantsStandIn t = false by simpa using List.all_eq_true.1 hall t hm)⟩)
  (by kernel_rfl)
#print axioms fnJrTypedMisses_holds
end Go.Proofs.YthgpfljhmhkaiacGreatDoor
