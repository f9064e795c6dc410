/- The law laws.FnFjFloat answers true for every input and leaves its argument as it reads: of a JSON text that is a number Float64 is the nearest float64, and every other value gives an error. The row and its tied card. CONDITIONS: the listed package-level variables start as the program text lays them (the card ties them; two great tables of the library are pinned by name). -/
import Derived.Test.YtaihmpdhaikfkaaGreatDoorRows
import Derived.Test.YtaihmpdhaikfkaaGreatDoorZP
import Derived.LaidMore
import Derived.OpenShut
import Derived.LaidSub
import Derived.LaidLaws
import Derived.MakeChecks
import Derived.Test.YtaihmpdhaikfkaaGreatDoorTie
import Derived.Test.YtaihmpdhaikfkaaGreatDoorCards
import Derived.ProofKit
import Derived.ShutString
import Derived.SliceStrings
import Derived.ChangeOld
import Derived.Below
import Derived.Lay
import Derived.SevenTiedAt
import Derived.Stop.Joined
set_option linter.all false
/- What the listed package-level variables hold, in the cells that the walk reads. -/
namespace Go.Proofs.YtaihmpdhaikfkaaGreatDoor.PFnFjFloat
open Go Go.RowKit
set_option maxRecDepth 100000
theorem t103 : Tryz.prog.cellsOf 103 = 1 := by kernel_rfl
theorem t9 : Tryz.prog.cellsOf 9 = 1 := by kernel_rfl
theorem t28 : Tryz.prog.cellsOf 28 = 1 := by kernel_rfl
theorem gErr : Tryz.prog.globalNamed "strconv.ErrSyntax" = some 5 := by kernel_rfl
theorem gErrT : (Tryz.prog.globals[5]?).map (·.type) = some 48 := by kernel_rfl
theorem star : "*" ++ "errors.errorString" = "*errors.errorString" := by decide
theorem row101 (u : TypeId) (h : Tryz.prog.typeName? 3 u = some "*errors.errorString") : u = 101 :=
 typeName_ptr_named (nm := "errors.errorString") (by rw [star]; kernel_rfl) (by kernel_rfl) (by decide) u (by rw [star]; exact h)
theorem cut_of {W : World} {l : List (String × DataW Unit)} (n : String) (d : DataW Unit) (hl : (l.filter fun x => x.1 == n) = [(n, d)]) (hd : ([(n, d)].all fun x => x.2.handleName?.isNone) = true) (h : laidMetH Tryz.prog l W) : laidMet Tryz.prog [(n, d)] W := by
 have h1 := h.filter fun x => x.1 == n
 rw [hl, MakeChecks.laidMetH_plain _ _ _ hd] at h1
 exact h1
abbrev laidAll : List (String × DataW Unit) := Rows.fnFjFloatRow.laid
theorem cutErr : (laidAll.filter fun x => x.1 == "strconv.ErrSyntax") = [("strconv.ErrSyntax", Rows.laid_strconv_ErrSyntax)] := by kernel_rfl
theorem cutT1 : (laidAll.filter fun x => x.1 == "pub-tetrapla/pub/fastjson/fastfloat.float64pow10") = [("pub-tetrapla/pub/fastjson/fastfloat.float64pow10", Rows.laid_pub_tetrapla_pub_fastjson_fastfloat_float64pow10)] := by kernel_rfl
theorem cutT2 : (laidAll.filter fun x => x.1 == "math.pow10postab32") = [("math.pow10postab32", Rows.laid_math_pow10postab32)] := by kernel_rfl
theorem cutT3 : (laidAll.filter fun x => x.1 == "math.pow10tab") = [("math.pow10tab", Rows.laid_math_pow10tab)] := by kernel_rfl
/-- The sentinel's cell. -/
theorem err_cell {W : World} (h : laidMetH Tryz.prog laidAll W) : ∃ ea, W.cell? ⟨5, 0, none⟩ = some (.iface 101 (.pointer (some ea))) := by
 obtain ⟨ps, ⟨g, t, cs, f, p, q, hg, ht, hv, hd, hq, e⟩, hnd, hrows⟩ := cut_of _ _ cutErr (by kernel_rfl) h
 obtain rfl := Option.some.inj (gErr.symm.trans hg)
 obtain rfl := Option.some.inj (gErrT.symm.trans ht)
 subst e
 obtain ⟨l⟩ := cs
 have ok : ∀ u v, l = [.iface u v] → Value.okWide Tryz.prog W .any 0 u v := fun u v e => by
  subst e
  exact (hrows 5 0 (by simp [MemPlace.row])).2 u v (by simpa using World.var?_cell hg hv 0)
 obtain ⟨a, s, rfl, _, _, _, _⟩ := errorString_of_trod Tryz.underlying48 row101 Tryz.underlying101 Tryz.underlying103 rfl rfl Tryz.underlying9 (by kernel_rfl) t9 hd ok
 exact ⟨a, by simpa using World.var?_cell hg hv 0⟩
section
variable {H : Type} {enc : TypeId × Value → H} {P : Program} {w : World} {base : Nat} {spare : Nat → Bool} {held : Bool} {fuel m : Nat} {t : TypeId} {cs : List Value} {x : DataW H × List MemPlace}
theorem trod_float {k : FloatKind} (ht : P.underlying t = some (.float k)) (h : DataW.trod enc P w base spare held fuel t cs = some x) : ∃ n, cs = [.float k n] ∧ x = (.lit (.float k n), []) := by
 cases fuel with
 | zero => simp [DataW.trod] at h
 | succ n =>
  unfold DataW.trod at h
  rw [ht] at h
  split at h <;> simp_all
end
/-- A table's cells. -/
theorem tab_cell {W : World} (nm : String) (d : DataW Unit) (ls : List Nat) (gi t0 n0 : Nat) (hcut : (laidAll.filter fun x => x.1 == nm) = [(nm, d)]) (hnone : ([(nm, d)].all fun x => x.2.handleName?.isNone) = true) (hgi : Tryz.prog.globalNamed nm = some gi) (hti : (Tryz.prog.globals[gi]?).map (·.type) = some t0)
  (hu : Tryz.prog.underlying t0 = some (.array n0 28)) (hd0 : d = .agg (ls.map fun n => .lit (.float .f64 n))) (hln : ls.length = n0) (h : laidMetH Tryz.prog laidAll W) (r : Nat) (hr : r < n0) : W.cell? ⟨gi, r, none⟩ = some (.float .f64 (ls.getD r 0)) := by
 obtain ⟨ps, ⟨g, t, cs, f, p, q, hg, ht, hv, hd, hq, e⟩, hnd, hrows⟩ := cut_of _ _ hcut hnone h
 obtain rfl := Option.some.inj (hgi.symm.trans hg)
 obtain rfl := Option.some.inj (hti.symm.trans ht)
 obtain ⟨xs, m, _, ex, _, hl, hel⟩ := DataW.trod_array hu hd
 have hE := hel r hr
 rw [t28, Nat.mul_one, List.getElem?_eq_getElem (by omega)] at hE
 obtain ⟨z, e1, e2⟩ := trod_float Tryz.underlying28 hE
 have e3 : (xs.map (·.1)) = ls.map fun n => .lit (.float .f64 n) := (DataW.agg.inj (hd0.symm.trans (Prod.mk.inj ex).1)).symm
 have e4 : (xs.map (·.1))[r]? = (ls.map fun n => (DataW.lit (.float .f64 n) : DataW Unit))[r]? := by rw [e3]
 rw [List.getElem?_map, List.getElem?_map, List.getElem?_eq_getElem (by omega : r < xs.length), List.getElem?_eq_getElem (by omega : r < ls.length), e2] at e4
 have hz : z = ls.getD r 0 := by
  simp only [Option.map_some, Option.some.injEq, DataW.lit.injEq, Lit.float.injEq, true_and] at e4
  rw [e4, List.getD, List.getElem?_eq_getElem (by omega : r < ls.length)]; rfl
 rw [World.var?_cell hg hv r, ← hz]
 have : cs.toList[r]? = some (.float .f64 z) := by
  have h0 : ((cs.toList.drop r).take 1)[0]? = some (.float .f64 z) := by rw [e1]; rfl
  simpa using h0
 simpa using this
def tabF : List Nat := [4607182418800017408, 4621819117588971520, 4636737291354636288, 4652007308841189376, 4666723172467343360, 4681608360884174848, 4696837146684686336, 4711630319722168320, 4726483295884279808, 4741671816366391296, 4756540486875873280, 4771362005757984768, 4786511204640096256, 4801453603149578240, 4816244402031689728, 4831355200913801216, 4846369599423283200]
def tabP : List Nat := [4607182418800017408, 5085611494797045271, 5564284217833028085, 6043257259031049059, 6521906365687930162, 7000496887210966211, 7479368607221621995, 7958223736346011545, 8436737289693151036, 8915514139102383430]
def tabT : List Nat := [4607182418800017408, 4621819117588971520, 4636737291354636288, 4652007308841189376, 4666723172467343360, 4681608360884174848, 4696837146684686336, 4711630319722168320, 4726483295884279808, 4741671816366391296, 4756540486875873280, 4771362005757984768, 4786511204640096256, 4801453603149578240, 4816244402031689728, 4831355200913801216, 4846369599423283200, 4861130398305394688, 4876203697187506176, 4891288408196988160, 4906019910204099648, 4921056587992461136, 4936209963552724370, 4950912855330343670, 4965913770331839924, 4981134201117475473, 4995809153217856309, 5010775143622804482, 5026061058026967681, 5040708725286295329, 5055640609639927018, 5070927765361438756]
theorem pt_f (m : Nat) (h : m < 17) : tabF.getD m 0 = pt m := by
 have : ∀ m, m < 17 → tabF.getD m 0 = pt m := by decide +kernel
 exact this m h
theorem pt_t (m : Nat) (h : m < 23) : tabT.getD m 0 = pt m := by
 have : ∀ m, m < 23 → tabT.getD m 0 = pt m := by decide +kernel
 exact this m h
theorem tab_w {W : World} (h : laidMetH Tryz.prog laidAll W) : Tab W :=
 ⟨fun m hm => by
  rw [← pt_f m hm]
  exact tab_cell _ _ tabF 1 109 17 cutT1 (by kernel_rfl) (by kernel_rfl) (by kernel_rfl) Tryz.underlying109 (by kernel_rfl) (by kernel_rfl) h m hm,
 by
  have := tab_cell _ _ tabP 2 136 10 cutT2 (by kernel_rfl) (by kernel_rfl) (by kernel_rfl) Tryz.underlying136 (by kernel_rfl) (by kernel_rfl) h 0 (by decide)
  exact this,
 fun m hm => by
  rw [← pt_t m hm]
  exact tab_cell _ _ tabT 3 137 32 cutT3 (by kernel_rfl) (by kernel_rfl) (by kernel_rfl) Tryz.underlying137 (by kernel_rfl) (by kernel_rfl) h m (by omega)⟩
theorem ev_w {W : World} (h : laidMetH Tryz.prog laidAll W) : EvW W := by
 obtain ⟨ea, he⟩ := err_cell h
 exact ⟨_, he, .inr ⟨_, _, rfl⟩⟩
end Go.Proofs.YtaihmpdhaikfkaaGreatDoor.PFnFjFloat
/- Of a JSON text that is a number, Float64 is the reference's nearest float64, and of every other value no float: the law 'laws.FnFjFloat' answers true for every input and leaves its argument as it reads; its row and its tied card. CONDITIONS: the listed package-level variables start as the program's text lays them (the card ties them; two great tables of Go's library are pinned by name). -/
namespace Go.Proofs.YtaihmpdhaikfkaaGreatDoor
open Go Go.ChangeShapes Go.WideShapes Go.ChangeAt Go.RowKit Go.Proofs.YtaihmpdhaikfkaaGreatDoorW.PrintWords Go.Proofs.YtaihmpdhaikfkaaGreatDoorW.PrintLast Go.Proofs.YtaihmpdhaikfkaaGreatDoorW.PrintMore
open Go.ChangeMaps (open_string shut_string)
theorem own : ownKnob Tryz.prog.godebug = none := by kernel_rfl
set_option maxRecDepth 100000 in
theorem lifted (os : Os) (started : os.Started) (H : Type) (enc : TypeId × Value → H) :
  ReturnsInHanded {} Tryz.checked os 3 .any (fun w args => (Rows.fnFjFloatSpec.pre enc Tryz.prog Tryz.f3 Rows.fnFjFloatRow.domain false w args ∧ laidMetH Tryz.prog Rows.fnFjFloatRow.laid w) ∧ sizedMet enc Tryz.prog Tryz.f3 (OpenSpec.ofChange Rows.fnFjFloatSpec) false w args)
   (Rows.fnFjFloatSpec.post enc Tryz.prog Tryz.f3 false true false false) := by
 refine returnsInHanded_of_change_and (C := Tryz.checked) (X := fun w _ => laidMetH Tryz.prog Rows.fnFjFloatRow.laid w) (fun _ _ _ hh h => h.of_heap hh) own started (by kernel_rfl) Tryz.func3
  (ChangeSpec.witness_shaped (enc := enc) (C := Tryz.checked) (os := os) (X := fun w _ => laidMetH Tryz.prog Rows.fnFjFloatRow.laid w) false (World.laidAll Tryz.prog os Rows.fnFjFloatRow.laid) #[.string ByteArray.empty] 8 (World.laidAll_os _ _ _)
   (World.shaped_of_ZipB (by as_aux_lemma => kernel_rfl) (by as_aux_lemma => kernel_rfl)) (by as_aux_lemma => kernel_rfl) (by as_aux_lemma => kernel_rfl) (by as_aux_lemma => kernel_rfl)
   (by rw [MakeChecks.laidMetH_plain _ _ _ (by kernel_rfl)]; exact laidMet_laidAll _ (by as_aux_lemma => kernel_rfl) (by as_aux_lemma => kernel_rfl))) ?_
 intro W base args ds gs before hval0 hW hc _ hL _
 have hval : ∀ (j : Nat) t v, Tryz.f3.params[j]? = some t → args[j]? = some v → Value.okWide Tryz.prog W .any base t v := hval0
 have hW' := hW
 obtain ⟨p, q, hA0, hV, rfl, hfz, hnd⟩ := hW
 have hA : DataW.TrodAll enc Tryz.prog W 0 (fun _ => true) true Tryz.f3.params.toList args.toList ds p := hA0
 rw [Tryz.params3] at hA hval
 obtain ⟨v0, vs0, d0, ds0, p0, q0, hargs, rfl, rfl, h0, r0⟩ := trodAll_cons hA
 obtain ⟨rfl, rfl, rfl⟩ := trodAll_nil r0
 obtain rfl : args = #[v0] := by cases args; simp_all
 obtain ⟨rfl, rfl⟩ := trodVars_none hV
 obtain ⟨s, rfl, rfl, rfl, y0⟩ := open_string Tryz.underlying9 (hval 0 9 v0 rfl rfl) h0
 clear hA0 hval0
 refine (PFnFjFloat.law_calls s W (PFnFjFloat.tab_w hL) (PFnFjFloat.ev_w hL)).mono fun e W' ⟨he, bel⟩ => ?_
 subst he
 exact ⟨_, rfl, _, _, _, [], _, [], hW', trodAll_mk1 (shut_bool Tryz.underlying4 _), trodAll_cons_mk (shut_string Tryz.underlying9 y0) trodAll_mk0, rfl, bel.frame _, fun h => by cases h⟩
theorem fnFjFloat_over : Rows.FnFjFloatSaid :=
 OpenClaim.holds_of_wide 3 Tryz.f3 rfl rfl rfl rfl rfl rfl rfl ⟨rfl, rfl, rfl, rfl, rfl⟩ rfl rfl rfl rfl rfl (by kernel_rfl) Tryz.func3 (by kernel_rfl)
  (of_decide_eq_true (by kernel_rfl)) (by unfold Func.isWrapper; first | (rw [if_pos (by decide +kernel)]; kernel_rfl) | (rw [if_neg (by decide +kernel)]; exact ⟨rfl, rfl⟩))
  (fun os started H enc _ => lifted os started H enc)
/-- The tied card. -/
theorem fnFjFloat_holds : Rows.FnFjFloatCardSaid :=
 Claim7.holds_tied_plain_at .later [] [.data, .data, .widerDeep, .widerDeep, .data, .data, .data, .data, .data, .data, .data, .data, .sentinel, .sentinel, .data, .pinned, .pinned] true (true, "c65e92674f2c8c89b4677f96ec71e461d28ec9bb34033acd2f7ac5a6fa9c3f29") true
  fnFjFloat_over (fun _ h => by cases h) (by kernel_rfl) (fun _ h => by cases h) fnFjFloat_row_tie rfl ⟨rfl, rfl⟩ (by kernel_rfl) rfl
  (fun f fn hf hfn => by
   obtain rfl : f = 3 := Option.some.inj ((show Tryz.prog.funcNamed "pub-tetrapla/laws.FnFjFloat" = some 3 by kernel_rfl).symm.trans hf) |>.symm
   obtain rfl : fn = Tryz.f3 := (Option.some.inj (Tryz.func3.symm.trans hfn)).symm
   exact ⟨by kernel_rfl, fun j t ht => by
    rw [Tryz.params3] at ht
    have hm : t ∈ [9] := by simpa using Array.mem_of_getElem? ht
    have hall : ([9].all fun u => !Tryz.prog.wantsStandIn u) = true := by kernel_rfl
    exact (show Tryz.prog.wantsStandIn t = false by simpa using List.all_eq_true.1 hall t hm)⟩)
  (by kernel_rfl)
#print axioms fnFjFloat_holds
end Go.Proofs.YtaihmpdhaikfkaaGreatDoor
