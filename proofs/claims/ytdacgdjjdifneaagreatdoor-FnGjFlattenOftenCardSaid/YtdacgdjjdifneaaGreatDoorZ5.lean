/- Part of the proof of the card in text ZF. -/
import Derived.Test.YtdacgdjjdifneaaGreatDoorRows
import Derived.Test.YtdacgdjjdifneaaGreatDoorZT
import Derived.LaidMore
import Derived.OpenShut
import Derived.LaidSub
import Derived.LaidLaws
import Derived.MakeChecks
import Derived.ChangeSame
import Derived.Deep.Strs
set_option linter.all false
namespace Go.Proofs.YtdacgdjjdifneaaGreatDoor.PFnGjFlattenOften
open Go Go.RowKit
set_option maxRecDepth 100000
theorem star : "*" ++ "errors.errorString" = "*errors.errorString" := by decide
theorem row161 (u : TypeId) (h : Tryz.prog.typeName? 3 u = some "*errors.errorString") : u = 161 :=
 typeName_ptr_named (nm := "errors.errorString") (by rw [star]; kernel_rfl) (by kernel_rfl) (by decide) u (by rw [star]; exact h)
theorem cut_of {W : World} {l : List (String × DataW Unit)} (n : String) (d : DataW Unit) (hl : (l.filter fun x => x.1 == n) = [(n, d)]) (hd : ([(n, d)].all fun x => x.2.handleName?.isNone) = true) (h : laidMetH Tryz.prog l W) : laidMet Tryz.prog [(n, d)] W := by
 have h1 := h.filter fun x => x.1 == n; rw [hl, MakeChecks.laidMetH_plain _ _ _ hd] at h1; exact h1
abbrev laidAll : List (String × DataW Unit) := Rows.fnGjFlattenOftenRow.laid
theorem c163 : Tryz.prog.cellsOf 163 = 1 := by kernel_rfl
theorem c9 : Tryz.prog.cellsOf 9 = 1 := by kernel_rfl
theorem c5 : Tryz.prog.cellsOf 5 = 1 := by kernel_rfl
theorem c3 : Tryz.prog.cellsOf 3 = 1 := by kernel_rfl
theorem c61 : Tryz.prog.cellsOf 61 = 1 := by kernel_rfl
theorem c98 : Tryz.prog.cellsOf 98 = 1 := by kernel_rfl
theorem c101 : Tryz.prog.cellsOf 101 = 1 := by kernel_rfl
theorem c188 : Tryz.prog.cellsOf 188 = 2 := by kernel_rfl
theorem c194 : Tryz.prog.cellsOf 194 = 2 := by kernel_rfl
theorem c171 : Tryz.prog.cellsOf 171 = 3 := by kernel_rfl
theorem err_cell {W : World} (nm : String) (d : DataW Unit) (gi : Nat) (bs : List UInt8) (hcut : (laidAll.filter fun x => x.1 == nm) = [(nm, d)]) (hnone : ([(nm, d)].all fun x => x.2.handleName?.isNone) = true) (hgi : Tryz.prog.globalNamed nm = some gi) (hti : (Tryz.prog.globals[gi]?).map (·.type) = some 84)
  (hd0 : d = .iface "*errors.errorString" (.ptr (.agg [.lit (.string bs)]))) (h : laidMetH Tryz.prog laidAll W) : ∃ ea, W.cell? ⟨gi, 0, none⟩ = some (.iface 161 (.pointer (some ea))) := by
 obtain ⟨ps, ⟨g, t, cs, f, p, q, hg, ht, hv, hd, hq, e⟩, hnd, hrows⟩ := cut_of _ _ hcut hnone h; obtain rfl := Option.some.inj (hgi.symm.trans hg); obtain rfl := Option.some.inj (hti.symm.trans ht); subst e; subst hd0; obtain ⟨l⟩ := cs; have ok : ∀ u v, l = [.iface u v] → Value.okWide Tryz.prog W .any 0 u v := fun u v e => by
  subst e; exact (hrows gi 0 (by simp [MemPlace.row])).2 u v (by simpa using World.var?_cell hg hv 0)
 obtain ⟨a, s, rfl, _, _, _, _⟩ := errorString_of_trod Tryz.underlying84 row161 Tryz.underlying161 Tryz.underlying163 rfl rfl Tryz.underlying9 c163 c9 hd ok; exact ⟨a, by simpa using World.var?_cell hg hv 0⟩
section
variable {H : Type} {enc : TypeId × Value → H} {P : Program} {w : World} {base : Nat} {spare : Nat → Bool} {held : Bool} {fuel m : Nat} {t : TypeId} {cs : List Value} {x : DataW H × List MemPlace}
theorem trod_float {k : FloatKind} (ht : P.underlying t = some (.float k)) (h : DataW.trod enc P w base spare held fuel t cs = some x) : ∃ n, cs = [.float k n] ∧ x = (.lit (.float k n), []) := by
 cases fuel with
 | zero => simp [DataW.trod] at h
 | succ n =>
  unfold DataW.trod at h; rw [ht] at h
  split at h <;> simp_all
theorem trod_rows {e : TypeId} {c0 : Nat} {ds : List (DataW H)} {pl : List MemPlace} (ht : P.underlying t = some (.slice e)) (hc : P.cellsOf e = c0) (h0 : 0 < c0) (hn : 0 < ds.length) (h : DataW.trod enc P w base spare held fuel t cs = some (.slice ds [], pl)) :
  ∃ (tb to_ cap : Nat), cs = [.slice (some ⟨tb, to_, none⟩) ds.length cap] ∧ ∀ i, i < ds.length → ∃ (vs : List Value) (y : DataW H × List MemPlace) (m : Nat), vs.length = c0 ∧ (∀ j, j < c0 → w.cell? ⟨tb, to_ + i * c0 + j, none⟩ = vs[j]?) ∧ DataW.trod enc P w base spare held m e vs = some y ∧ ds[i]? = some y.1 := by
 rcases DataW.trod_slice ht h with ⟨_, hx⟩ | ⟨a, len, cap, elems, rest, n, _, hcs, hx, hb, _, _, hlen, hel, _, _⟩
 ·exact absurd (Prod.mk.inj hx).1 (by simp)
 have hds : ds = elems.map (·.1) := (DataW.slice.inj (Prod.mk.inj hx).1).1; have hl : ds.length = len := by rw [hds, List.length_map, hlen]
 rw [hc] at hel; have each : ∀ i, i < len → ∃ (vs : List Value) (y : DataW H × List MemPlace), vs.length = c0 ∧ (∀ j, j < c0 → w.cell? ((a.add (i * c0)).add j) = vs[j]?) ∧ DataW.trod enc P w base spare held n e vs = some y ∧ ds[i]? = some y.1 := by
  intro i hi; have h1 := hel i hi; rw [List.getElem?_eq_getElem (by omega : i < elems.length)] at h1; obtain ⟨vs, h2, h3⟩ := Option.bind_eq_some_iff.1 h1; obtain ⟨_, h4, h5⟩ := World.cells?_some h2; refine ⟨vs, _, h4, h5, h3, ?_⟩; rw [hds, List.getElem?_map, List.getElem?_eq_getElem (by omega : i < elems.length)]; rfl
 have hsp : a.spot = none := by
  obtain ⟨vs, y, h1, h2, _⟩ := each 0 (by omega); have h3 := h2 0 h0; rw [List.getElem?_eq_getElem (by omega : 0 < vs.length)] at h3; have h4 := World.cell?_spot h3
  simpa [Addr.add] using h4
 obtain ⟨tb, to_, sp⟩ := a; subst hsp; refine ⟨tb, to_, cap, by rw [hl]; exact hcs, fun i hi => ?_⟩; obtain ⟨vs, y, h1, h2, h3, h4⟩ := each i (by omega); refine ⟨vs, y, n, h1, fun j hj => ?_, h3, h4⟩; rw [← h2 j hj]; congr 1; unfold Addr.add
 by_cases e1 : i * c0 = 0
 ·by_cases e2 : j = 0
  ·simp [e1, e2]
  ·simp [e1, e2]
 ·by_cases e2 : j = 0
  ·simp [e1, e2]
  ·simp [e1, e2, Nat.add_assoc]
end
theorem arr_int {W : World} (nm : String) (d : DataW Unit) (ls : List Int) (gi t0 n0 te : Nat) (k : IntKind) (hcut : (laidAll.filter fun x => x.1 == nm) = [(nm, d)]) (hnone : ([(nm, d)].all fun x => x.2.handleName?.isNone) = true) (hgi : Tryz.prog.globalNamed nm = some gi) (hti : (Tryz.prog.globals[gi]?).map (·.type) = some t0)
  (hu : Tryz.prog.underlying t0 = some (.array n0 te)) (hue : Tryz.prog.underlying te = some (.int k)) (hce : Tryz.prog.cellsOf te = 1) (hd0 : d = .agg (ls.map fun n => .lit (.int k n))) (hln : ls.length = n0) (h : laidMetH Tryz.prog laidAll W) (r : Nat) (hr : r < n0) : W.cell? ⟨gi, r, none⟩ = some (.int k (ls.getD r 0)) := by
 obtain ⟨ps, ⟨g, t, cs, f, p, q, hg, ht, hv, hd, hq, e⟩, hnd, hrows⟩ := cut_of _ _ hcut hnone h; obtain rfl := Option.some.inj (hgi.symm.trans hg); obtain rfl := Option.some.inj (hti.symm.trans ht); obtain ⟨xs, m, _, ex, _, hl, hel⟩ := DataW.trod_array hu hd; have hE := hel r hr; rw [hce, Nat.mul_one, List.getElem?_eq_getElem (by omega)] at hE; obtain ⟨z, e1, e2, _⟩ := DataW.trod_int hue hE; have e3 : (xs.map (·.1)) = ls.map fun n => .lit (.int k n) := (DataW.agg.inj (hd0.symm.trans (Prod.mk.inj ex).1)).symm; have e4 : (xs.map (·.1))[r]? = (ls.map fun n => (DataW.lit (.int k n) : DataW Unit))[r]? := by rw [e3]
 rw [List.getElem?_map, List.getElem?_map, List.getElem?_eq_getElem (by omega : r < xs.length), List.getElem?_eq_getElem (by omega : r < ls.length), e2] at e4; have hz : z = ls.getD r 0 := by
  simp only [Option.map_some, Option.some.injEq, DataW.lit.injEq, Lit.int.injEq, true_and] at e4; rw [e4, List.getD, List.getElem?_eq_getElem (by omega : r < ls.length)]; rfl
 rw [World.var?_cell hg hv r, ← hz]; have : cs.toList[r]? = some (.int k z) := by
  have h0 : ((cs.toList.drop r).take 1)[0]? = some (.int k z) := by rw [e1]; rfl
  simpa using h0
 simpa using this
def tabV : List Int := (List.range 256).map fun c => (vch c : Int)
theorem tabV_get (c : Nat) (h : c < 256) : tabV.getD c 0 = (vch c : Int) := by
 unfold tabV; rw [List.getD_eq_getElem?_getD, List.getElem?_map, List.getElem?_range h]; rfl
theorem cutV : (laidAll.filter fun x => x.1 == "pub-tetrapla/pub/gjson.vchars") = [("pub-tetrapla/pub/gjson.vchars", Rows.laid_pub_tetrapla_pub_gjson_vchars)] := by kernel_rfl
theorem cutO : (laidAll.filter fun x => x.1 == "internal/strconv.optimize") = [("internal/strconv.optimize", Rows.laid_internal_strconv_optimize)] := by kernel_rfl
theorem cutS : (laidAll.filter fun x => x.1 == "strconv.ErrSyntax") = [("strconv.ErrSyntax", Rows.laid_strconv_ErrSyntax)] := by kernel_rfl
theorem cutR : (laidAll.filter fun x => x.1 == "strconv.ErrRange") = [("strconv.ErrRange", Rows.laid_strconv_ErrRange)] := by kernel_rfl
theorem cutF : (laidAll.filter fun x => x.1 == "internal/strconv.float64info") = [("internal/strconv.float64info", Rows.laid_internal_strconv_float64info)] := by kernel_rfl
theorem cutP : (laidAll.filter fun x => x.1 == "internal/strconv.pow10Tab") = [("internal/strconv.pow10Tab", Rows.laid_internal_strconv_pow10Tab)] := by kernel_rfl
theorem cutL : (laidAll.filter fun x => x.1 == "internal/strconv.leftcheats") = [("internal/strconv.leftcheats", Rows.laid_internal_strconv_leftcheats)] := by kernel_rfl
theorem cutW : (laidAll.filter fun x => x.1 == "internal/strconv.powtab") = [("internal/strconv.powtab", Rows.laid_internal_strconv_powtab)] := by kernel_rfl
theorem cutT : (laidAll.filter fun x => x.1 == "internal/strconv.float64pow10") = [("internal/strconv.float64pow10", Rows.laid_internal_strconv_float64pow10)] := by kernel_rfl
theorem vt_w {W : World} (h : laidMetH Tryz.prog laidAll W) : VT W := ⟨fun c hc => by
 rw [← tabV_get c hc]; exact arr_int _ _ tabV 0 103 256 5 .u8 cutV (by kernel_rfl) (by kernel_rfl) (by kernel_rfl) Tryz.underlying103 Tryz.underlying5 c5 (by kernel_rfl) (by kernel_rfl) h c hc⟩
theorem ev_w {W : World} (h : laidMetH Tryz.prog laidAll W) : EvW W := by
 obtain ⟨e4, h4⟩ := err_cell _ _ 4 _ cutS (by kernel_rfl) (by kernel_rfl) (by kernel_rfl) rfl h; obtain ⟨e5, h5⟩ := err_cell _ _ 5 _ cutR (by kernel_rfl) (by kernel_rfl) (by kernel_rfl) rfl h; exact ⟨_, _, h4, h5, .inr ⟨_, _, rfl⟩, .inr ⟨_, _, rfl⟩⟩
end Go.Proofs.YtdacgdjjdifneaaGreatDoor.PFnGjFlattenOften
namespace Go.Proofs.YtdacgdjjdifneaaGreatDoor.PFnGjFlattenOften
open Go Go.RowKit
set_option maxRecDepth 100000
theorem gsl {W : World} (nm : String) (d : DataW Unit) (ds : List (DataW Unit)) (gi t0 e c0 : Nat) (hcut : (laidAll.filter fun x => x.1 == nm) = [(nm, d)]) (hnone : ([(nm, d)].all fun x => x.2.handleName?.isNone) = true) (hgi : Tryz.prog.globalNamed nm = some gi) (hti : (Tryz.prog.globals[gi]?).map (·.type) = some t0)
  (hu : Tryz.prog.underlying t0 = some (.slice e)) (hc : Tryz.prog.cellsOf e = c0) (h0 : 0 < c0) (hd0 : d = .slice ds []) (hn : 0 < ds.length) (h : laidMetH Tryz.prog laidAll W) :
  ∃ (tb to_ cap : Nat), W.cell? ⟨gi, 0, none⟩ = some (.slice (some ⟨tb, to_, none⟩) ds.length cap) ∧ ∀ i, i < ds.length → ∃ (vs : List Value) (y : DataW Unit × List MemPlace) (spare : Nat → Bool) (m : Nat), vs.length = c0 ∧ (∀ j, j < c0 → W.cell? ⟨tb, to_ + i * c0 + j, none⟩ = vs[j]?) ∧ DataW.trod (fun _ => ()) Tryz.prog W 0 spare false m e vs = some y ∧ ds[i]? = some y.1 := by
 obtain ⟨ps, ⟨g, t, cs, f, p, q, hg, ht, hv, hd, hq, e⟩, hnd, hrows⟩ := cut_of _ _ hcut hnone h; obtain rfl := Option.some.inj (hgi.symm.trans hg); obtain rfl := Option.some.inj (hti.symm.trans ht); subst hd0; obtain ⟨tb, to_, cap, e1, e2⟩ := trod_rows hu hc h0 hn hd; refine ⟨tb, to_, cap, ?_, fun i hi => ?_⟩
 ·have h1 := World.var?_cell hg hv 0; rw [h1, ← Array.getElem?_toList, e1]; rfl
 ·obtain ⟨vs, y, m, g1, g2, g3, g4⟩ := e2 i hi; exact ⟨vs, y, _, m, g1, g2, g3, g4⟩
theorem opt_w {W : World} (h : laidMetH Tryz.prog laidAll W) : W.cell? ⟨3, 0, none⟩ = some (.bool true) := by
 obtain ⟨ps, ⟨g, t, cs, f, p, q, hg, ht, hv, hd, hq, e⟩, hnd, hrows⟩ := cut_of _ _ cutO (by kernel_rfl) h; obtain rfl := Option.some.inj ((show Tryz.prog.globalNamed "internal/strconv.optimize" = some 3 by kernel_rfl).symm.trans hg)
 obtain rfl := Option.some.inj ((show (Tryz.prog.globals[3]?).map (·.type) = some 4 by kernel_rfl).symm.trans ht); obtain ⟨b, e1, e2⟩ := DataW.trod_bool Tryz.underlying4 hd; have e3 : (DataW.lit (.bool true) : DataW Unit) = .lit (.bool b) := (Prod.mk.inj e2).1; have e4 := Lit.bool.inj (DataW.lit.inj e3); rw [World.var?_cell hg hv 0, ← Array.getElem?_toList, e1, ← e4]; rfl
theorem fi_w {W : World} (h : laidMetH Tryz.prog laidAll W) : Fi W 8 := by
 obtain ⟨ps, ⟨g, t, cs, f, p, q, hg, ht, hv, hd, hq, e⟩, hnd, hrows⟩ := cut_of _ _ cutF (by kernel_rfl) h; obtain rfl := Option.some.inj ((show Tryz.prog.globalNamed "internal/strconv.float64info" = some 8 by kernel_rfl).symm.trans hg)
 obtain rfl := Option.some.inj ((show (Tryz.prog.globals[8]?).map (·.type) = some 171 by kernel_rfl).symm.trans ht); obtain ⟨y0, y1, y2, n, ex, hl, f0, f1, f2⟩ := Go.Deep.trod_struct3 Tryz.underlying171 hd; obtain ⟨l⟩ := cs; rw [c171] at hl
 match l, hl with
 | [v0, v1, v2], _ =>
  simp only [c101, c3] at f0 f1 f2; obtain ⟨b0, e0, r0, _⟩ := DataW.trod_int Tryz.underlying101 (show DataW.trod _ Tryz.prog W 0 _ false n 101 [v0] = some y0 from f0); obtain ⟨b1, e1, r1, _⟩ := DataW.trod_int Tryz.underlying101 (show DataW.trod _ Tryz.prog W 0 _ false n 101 [v1] = some y1 from f1); obtain ⟨b2, e2, r2, _⟩ := DataW.trod_int Tryz.underlying3 (show DataW.trod _ Tryz.prog W 0 _ false n 3 [v2] = some y2 from f2); have e3 := (DataW.agg.inj (Prod.mk.inj ex).1)
  rw [r0, r1, r2] at e3; simp at e0 e1 e2 e3; obtain ⟨q0, q1, q2⟩ := e3; subst e0 e1 e2; have k0 := World.var?_cell hg hv 0; have k1 := World.var?_cell hg hv 1; have k2 := World.var?_cell hg hv 2; simp at k0 k1 k2; rw [← q0] at k0; rw [← q1] at k1; rw [← q2] at k2; exact ⟨k0, k1, k2, World.block_lt_of_cell? _ _ k0⟩
theorem p10_w {W : World} (h : laidMetH Tryz.prog laidAll W) : P10 W := by
 obtain ⟨ps, ⟨g, t, cs, f, p, q, hg, ht, hv, hd, hq, e⟩, hnd, hrows⟩ := cut_of _ _ cutP (by kernel_rfl) h; obtain rfl := Option.some.inj ((show Tryz.prog.globalNamed "internal/strconv.pow10Tab" = some 9 by kernel_rfl).symm.trans hg)
 obtain rfl := Option.some.inj ((show (Tryz.prog.globals[9]?).map (·.type) = some 189 by kernel_rfl).symm.trans ht); obtain ⟨xs, m, _, ex, hcl, hl, hel⟩ := DataW.trod_array Tryz.underlying189 hd; refine ⟨fun r hr => ?_⟩; have hE := hel r hr; rw [c188, List.getElem?_eq_getElem (by omega)] at hE; obtain ⟨y0, y1, n, _, hl2, f0, f1⟩ := Go.ChangeShapes.trod_struct2 Tryz.underlying188 hE; rw [c188] at hl2; obtain ⟨v0, v1, hv2⟩ : ∃ v0 v1, (cs.toList.drop (r * 2)).take 2 = [v0, v1] := by
  match hx : (cs.toList.drop (r * 2)).take 2, hl2 with
  | [a, b], _ => exact ⟨a, b, rfl⟩
 rw [hv2] at f0 f1; simp only [c98] at f0 f1; obtain ⟨b0, e0, _, _⟩ := DataW.trod_int Tryz.underlying98 (show DataW.trod _ Tryz.prog W 0 _ false n 98 [v0] = some y0 from f0); obtain ⟨b1, e1, _, _⟩ := DataW.trod_int Tryz.underlying98 (show DataW.trod _ Tryz.prog W 0 _ false n 98 [v1] = some y1 from f1); simp at e0 e1; subst e0 e1; refine ⟨b0, b1, ?_, ?_⟩
 ·rw [World.var?_cell hg hv (r * 2)]; have h0 : ((cs.toList.drop (r * 2)).take 2)[0]? = some (.int .u64 b0) := by rw [hv2]; rfl
  simpa using h0
 ·rw [World.var?_cell hg hv (r * 2 + 1)]; have h0 : ((cs.toList.drop (r * 2)).take 2)[1]? = some (.int .u64 b1) := by rw [hv2]; rfl
  simpa using h0
def tabQ : List Nat := [4607182418800017408, 4621819117588971520, 4636737291354636288, 4652007308841189376, 4666723172467343360, 4681608360884174848, 4696837146684686336, 4711630319722168320, 4726483295884279808, 4741671816366391296, 4756540486875873280, 4771362005757984768, 4786511204640096256, 4801453603149578240, 4816244402031689728, 4831355200913801216, 4846369599423283200, 4861130398305394688, 4876203697187506176, 4891288408196988160, 4906019910204099648, 4921056587992461136, 4936209963552724370]
def nzb (y : Nat) : Bool := match Ieee.double.read y with | .number _ m _ => m != 0 | _ => false
theorem nz_of {y : Nat} (h : nzb y = true) : NZ y := by
 unfold nzb at h
 split at h
 ·rename_i s m i e
  exact ⟨s, m, i, e, by simpa using h⟩
 ·cases h
theorem t13_w {W : World} (h : laidMetH Tryz.prog laidAll W) : T13 W := by
 obtain ⟨tb, to_, cap, h1, h2⟩ := gsl _ _ (tabQ.map fun n => .lit (.float .f64 n)) 13 203 61 1 cutT (by kernel_rfl) (by kernel_rfl) (by kernel_rfl) Tryz.underlying203 c61 (by decide) (by kernel_rfl) (by decide) h; refine ⟨tb, to_, cap, h1, fun k hk => ?_⟩; obtain ⟨vs, y, sp, m, g1, g2, g3, g4⟩ := h2 k (by simpa [tabQ] using hk); obtain ⟨z, e1, e2⟩ := trod_float Tryz.underlying61 g3; have h3 := g2 0 (by decide); rw [e1, Nat.mul_one] at h3; rw [List.getElem?_map, e2] at g4; have hz : ∃ x, tabQ[k]? = some x ∧ x = z := by
  cases hx : tabQ[k]? with
  | none => rw [hx] at g4; cases g4
  | some x =>
   rw [hx] at g4; exact ⟨x, rfl, by simpa using g4⟩
 obtain ⟨x, hx, rfl⟩ := hz; refine ⟨x, h3, ?_⟩; have hall : ∀ k, k < 23 → (tabQ[k]?.all nzb) = true := by decide +kernel
 have := hall k hk; rw [hx] at this; exact nz_of (by simpa using this)
theorem pt_w {W : World} (h : laidMetH Tryz.prog laidAll W) : ∃ (pb po c : Nat), W.cell? ⟨12, 0, none⟩ = some (.slice (some ⟨pb, po, none⟩) 9 c) ∧ ∀ k, k < 9 → W.cell? ⟨pb, po + k, none⟩ = some (.int .i64 (pT k : Int)) := by
 obtain ⟨tb, to_, cap, h1, h2⟩ := gsl _ _ (([1, 3, 6, 9, 13, 16, 19, 23, 26] : List Int).map fun n => .lit (.int .i64 n)) 12 62 3 1 cutW (by kernel_rfl) (by kernel_rfl) (by kernel_rfl) Tryz.underlying62 c3 (by decide) (by kernel_rfl) (by decide) h; refine ⟨tb, to_, cap, h1, fun k hk => ?_⟩; obtain ⟨vs, y, sp, m, g1, g2, g3, g4⟩ := h2 k (by simpa using hk); obtain ⟨z, e1, e2, _⟩ := DataW.trod_int Tryz.underlying3 g3; have h3 := g2 0 (by decide); rw [e1, Nat.mul_one] at h3; rw [List.getElem?_map, e2] at g4; have hz : z = (pT k : Int) := by
  have hall : ∀ k, k < 9 → ([1, 3, 6, 9, 13, 16, 19, 23, 26] : List Int)[k]? = some (pT k : Int) := by decide
  rw [hall k hk] at g4
  simpa using g4.symm
 rw [← hz]; exact h3
theorem lc_w {W : World} (h : laidMetH Tryz.prog laidAll W) : Lc W := by
 obtain ⟨tb, to_, cap, h1, h2⟩ := gsl _ _ (Go.Pinned.cheatRows.map fun x => .agg [.lit (.int .i64 x.1), .lit (.string x.2)]) 10 195 194 2 cutL (by kernel_rfl) (by kernel_rfl) (by kernel_rfl) Tryz.underlying195 c194 (by decide) rfl (by decide) h; have hlen : Go.Pinned.cheatRows.length = 61 := by kernel_rfl
 rw [List.length_map, hlen] at h1 h2; refine ⟨tb, to_, cap, h1, fun k hk => ?_⟩; obtain ⟨vs, y, sp, m, g1, g2, g3, g4⟩ := h2 k hk; obtain ⟨y0, y1, n, ex, _, f0, f1⟩ := Go.ChangeShapes.trod_struct2 Tryz.underlying194 g3
 match vs, g1 with
 | [v0, v1], _ =>
  simp only [c3, c9] at f0 f1; obtain ⟨b0, e0, r0, _⟩ := DataW.trod_int Tryz.underlying3 (show DataW.trod _ Tryz.prog W 0 _ false n 3 [v0] = some y0 from f0); obtain ⟨b1, e1, r1, _⟩ := DataW.trod_string Tryz.underlying9 (show DataW.trod _ Tryz.prog W 0 _ false n 9 [v1] = some y1 from f1); simp at e0 e1; subst e0 e1; have k0 := g2 0 (by decide); have k1 := g2 1 (by decide); rw [ex, List.getElem?_map, List.getElem?_eq_getElem (by rw [hlen]; exact hk), r0, r1] at g4; simp at g4; have hcD : (cD k : Int) = b0 := by
   unfold cD; rw [List.getElem?_eq_getElem (by rw [hlen]; exact hk)]; exact g4.1
  have hcS : cS k = b1 := by
   unfold cS; rw [List.getElem?_eq_getElem (by rw [hlen]; exact hk)]; refine ByteArray.ext ?_
   show List.toArray _ = _
   rw [Option.getD_some, g4.2]
  rw [hcD, hcS]; exact ⟨k0, k1⟩
theorem pw_w {W : World} (h : laidMetH Tryz.prog laidAll W) : PW W := ⟨vt_w h, ⟨opt_w h, fi_w h, p10_w h, t13_w h, lc_w h, pt_w h⟩, ev_w h⟩
end Go.Proofs.YtdacgdjjdifneaaGreatDoor.PFnGjFlattenOften
