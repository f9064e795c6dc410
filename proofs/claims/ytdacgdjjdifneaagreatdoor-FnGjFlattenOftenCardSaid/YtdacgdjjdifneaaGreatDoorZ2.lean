/- Part of the proof of the card in text ZF. -/
import Derived.Test.YtdacgdjjdifneaaGreatDoorV0
import Derived.Test.YtdacgdjjdifneaaGreatDoorV1
import Derived.Test.YtdacgdjjdifneaaGreatDoorV10
import Derived.Test.YtdacgdjjdifneaaGreatDoorV14
import Derived.Test.YtdacgdjjdifneaaGreatDoorV8
import Derived.Test.YtdacgdjjdifneaaGreatDoorV9
import Derived.Test.YtdacgdjjdifneaaGreatDoorZM
import Derived.Test.YtdacgdjjdifneaaGreatDoorZQ
import Derived.Test.YtdacgdjjdifneaaGreatDoorZA
import Derived.Deep.RegionHeld3
import Derived.Outline
import Derived.Test.YtdacgdjjdifneaaGreatDoorZE
set_option linter.all false
set_option maxHeartbeats 16000000
set_option maxRecDepth 100000
namespace Go.Proofs.YtdacgdjjdifneaaGreatDoor.PFnGjFlattenOften
open Go.RowKit Go.Proofs.YtdacgdjjdifneaaGreatDoorW.PrintWords Go.Proofs.YtdacgdjjdifneaaGreatDoorW.PrintLast Go.Proofs.YtdacgdjjdifneaaGreatDoorW.PrintMore
abbrev ndV (n : S25) (A2 : Option Addr) (c2 : Nat) (A3 : Option Addr) (c3 : Nat) : Value := .agg #[.int .i64 n.f0, .string n.f1, .slice A2 n.f2.length c2, .slice A3 n.f3.length c3]
structure NV (W : World) (A2 : Option Addr) (c2 : Nat) (A3 : Option Addr) (c3 : Nat) (n : S25) : Prop where
 r2 : Kd.C Kd.string W A2 n.f2.length n.f2
 l2 : n.f2.length ≤ c2
 r3 : Kd.C k25 W A3 n.f3.length n.f3
 l3 : n.f3.length ≤ c3
theorem NV.below {W W2 : World} {A2 A3 : Option Addr} {c2 c3 : Nat} {n : S25} (h : NV W A2 c2 A3 c3 n) (hb : Below W.heap.size W W2) : NV W2 A2 c2 A3 c3 n := ⟨Kd.C_below h.r2 hb, h.l2, Kd.C_below h.r3 hb, h.l3⟩
abbrev TextC (f : Nat) (s : ByteArray) (n : S25) (ok : Bool) : Prop := ∀ W, Calls Tryz.prog f #[.string s] W fun e w' => (∃ A2 c2 A3 c3, e = .returned (.tuple #[ndV n A2 c2 A3 c3, .bool ok]) ∧ NV w' A2 c2 A3 c3 n) ∧ Below W.heap.size W w'
abbrev UniqC (n : S25) (u : Bool) : Prop := ∀ W A2 c2 A3 c3, NV W A2 c2 A3 c3 n → Calls Tryz.prog 11 #[ndV n A2 c2 A3 c3] W fun e w' => e = .returned (.bool u) ∧ Below W.heap.size W w'
abbrev BlkC (c : Int) (b : Bool) : Prop := ∀ W, Calls Tryz.prog 12 #[.int .u8 c] W fun e w' => e = .returned (.bool b) ∧ Below W.heap.size W w'
theorem nv_of {W : World} {base : Nat} {ok2 ok3 : Nat → Prop} {v2 v3 : Value} {n : S25} (h2 : Kd.R Kd.string 9 W base ok2 v2 n.f2) (h3 : Kd.R k25 25 W base ok3 v3 n.f3) : ∃ A2 c2 A3 c3, v2 = .slice A2 n.f2.length c2 ∧ v3 = .slice A3 n.f3.length c3 ∧ NV W A2 c2 A3 c3 n := by
 obtain ⟨A2, c2, e2, g2, g3⟩ := Kd.R_reads h2; obtain ⟨A3, c3, e3, g4, g5⟩ := Kd.R_reads h3; exact ⟨A2, c2, A3, c3, e2, e3, g3, g2, g5, g4⟩
theorem text_c {a : ByteArray} {n : S25} {ok : Bool} {K : Nat} (h : laws_gjText.f K a = some (n.f0, n.f1, n.f2, n.f3, ok)) : TextC 10 a n ok := fun W =>
 (laws_gjText.calls K a _ _ _ _ _ W h).mono fun e w' ⟨v2, v3, he, h2, h3, hb⟩ => by
  obtain ⟨A2, c2, A3, c3, rfl, rfl, hn⟩ := nv_of h2 h3; exact ⟨⟨A2, c2, A3, c3, he, hn⟩, hb⟩
theorem read_c {a : ByteArray} {n : S25} {ok : Bool} {K : Nat} (h : spec_Read.f K a = some (n.f0, n.f1, n.f2, n.f3, ok)) : TextC 8 a n ok := fun W =>
 (spec_Read.calls K a _ _ _ _ _ W h).mono fun e w' ⟨v2, v3, he, h2, h3, hb⟩ => by
  obtain ⟨A2, c2, A3, c3, rfl, rfl, hn⟩ := nv_of h2 h3; exact ⟨⟨A2, c2, A3, c3, he, hn⟩, hb⟩
theorem uniq_c {n : S25} (h : DepOk n) : ∃ u, UniqC n u := by
 obtain ⟨⟨K, u, hu⟩, _⟩ := h; exact ⟨u, fun W A2 c2 A3 c3 hn => spec_Unique.calls K _ _ _ _ _ _ _ _ _ W hn.r2 hn.l2 hn.r3 hn.l3 (hu K (Nat.le_refl _))⟩
theorem same_c {n : S25} (h : DepOk n) (W : World) {A2 A3 B2 B3 : Option Addr} {c2 c3 d2 d3 : Nat} (h1 : NV W A2 c2 A3 c3 n) (h2 : NV W B2 d2 B3 d3 n) : Calls Tryz.prog 9 #[ndV n A2 c2 A3 c3, ndV n B2 d2 B3 d3] W fun e w' => e = .returned (.bool true) ∧ Below W.heap.size W w' := by
 obtain ⟨_, K, hs⟩ := h; exact spec_Same.calls K _ _ _ _ _ _ _ _ _ _ _ _ _ _ _ _ _ W h1.r2 h1.l2 h1.r3 h1.l3 h2.r2 h2.l2 h2.r3 h2.l3 (hs K (Nat.le_refl _))
theorem blk_c (c : Int) : BlkC c (decide (Blk c)) := fun W => (spec_Blank.calls c _ W (blank_f c)).mono fun e w' ⟨h1, h2⟩ => ⟨h1, h2.below⟩
structure NB (W : World) (b : Nat) (v0 v1 v2 v3 : Value) : Prop where
 h : W.heap[b]? = some (.cells #[v0, v1, v2, v3] 25 (0, 0))
section
variable {w W : World} {b : Nat} {v0 v1 v2 v3 : Value}
theorem NB.cells (h : NB W b v0 v1 v2 v3) : W.cell? ⟨b, 0, none⟩ = some v0 ∧ W.cell? ⟨b, 1, none⟩ = some v1 ∧ W.cell? ⟨b, 2, none⟩ = some v2 ∧ W.cell? ⟨b, 3, none⟩ = some v3 :=
 ⟨(blk_cell h.h 0).trans rfl, (blk_cell h.h 1).trans rfl, (blk_cell h.h 2).trans rfl, (blk_cell h.h 3).trans rfl⟩
theorem NB.below (h : NB w b v0 v1 v2 v3) (hb : Below w.heap.size w W) : NB W b v0 v1 v2 v3 := ⟨blk_below h.h hb⟩
theorem NB.alloc (h : NB w b v0 v1 v2 v3) (o : Obj) : NB (w.alloc o) b v0 v1 v2 v3 := ⟨blk_alloc h.h o⟩
theorem NB.new (w : World) (v0 v1 v2 v3 : Value) : NB (w.alloc (.cells #[v0, v1, v2, v3] 25)) w.heap.size v0 v1 v2 v3 := ⟨blk_new w _⟩
end
theorem size25 : (Tryz.prog.info? 25).map (·.size) = some 4 := by kernel_rfl
theorem res_ct {fn : Func} {p u : Tmp} (h : fn.results = #[.cell p 25, .tmp u]) (tmps : Array Value) (w : World) (g : Nat) {v0 v1 v2 v3 : Value} (hg : NB w g v0 v1 v2 v3) (hp : tmps.getD p undef = .pointer (some ⟨g, 0, none⟩)) :
  (results fn tmps).run Tryz.prog w = .ok (.tuple #[.agg #[v0, v1, v2, v3], tmps.getD u undef]) w := by
 have hp' : tmps[p]?.getD undef = .pointer (some ⟨g, 0, none⟩) := by simpa using hp
 simp [results, h, hp', asAddr, run_loadVar_row w g 25 25 #[v0, v1, v2, v3] (0, 0) _ hg.h Tryz.underlying25 rfl size25]
def pu4 (W : World) (b : Nat) (v0 v1 v2 v3 : Value) : World := ((((W.setCell ⟨b, 0, none⟩ v0).setCell ⟨b, 1, none⟩ v1).setCell ⟨b, 2, none⟩ v2).setCell ⟨b, 3, none⟩ v3).drew
theorem pu4_nb {W : World} {b : Nat} {u0 u1 u2 u3 : Value} (h : NB W b u0 u1 u2 u3) (v0 v1 v2 v3 : Value) : NB (pu4 W b v0 v1 v2 v3) b v0 v1 v2 v3 :=
 ⟨(blk_set (blk_set (blk_set (blk_set h.h 0 v0) 1 v1) 2 v2) 3 v3).trans rfl⟩
theorem pu4_below {n : Nat} {w W : World} (h : Below n w W) {b : Nat} (hb : n ≤ b) (v0 v1 v2 v3 : Value) : Below n w (pu4 W b v0 v1 v2 v3) := below_drew (bset (bset (bset (bset h b 0 hb v0) b 1 hb v1) b 2 hb v2) b 3 hb v3)
structure Gc (W : World) (rb nb : Nat) (n : S25) (A2 : Option Addr) (c2 : Nat) (A3 : Option Addr) (c3 : Nat) : Prop where
 nd : NB W nb (.int .i64 n.f0) (.string n.f1) (.slice A2 n.f2.length c2) (.slice A3 n.f3.length c3)
 rs : NB W rb (.int .i64 0) (.string ⟨#[]⟩) (.slice none 0 0) (.slice none 0 0)
theorem gb_false (s : ByteArray) (n : S25) (ht : TextC 10 s n false) (w : World) : Calls Tryz.prog 4 #[.string s] w fun e w' => (∃ A2 c2 A3 c3, e = .returned (.tuple #[ndV n A2 c2 A3 c3, .bool false])) ∧ Below w.heap.size w w' := by
 have HT := sd ht; clear ht; go_enter Tryz.func4, Tryz.ntmps4; have HR0 := sd (NB.new w (.int .i64 0) (.string ⟨#[]⟩) (.slice none 0 0) (.slice none 0 0)); have HB0 := sd (below_alloc (Below.refl w.heap.size w) (.cells #[.int .i64 0, .string ⟨#[]⟩, .slice none 0 0, .slice none 0 0] 25)); go_upto_region 2 with (first | (go_at_call 10; (with_reducible refine (HT.out _).mono ?_); rintro e0 w2 ⟨⟨A2, c2, A3, c3, rfl, hnv⟩, hb⟩; have HR2 := sd (HR0.out.below hb); have HB2 := sd (below_step HB0.out hb); have HNV := sd hnv; clear hb hnv))
 have HR3 := sd (HR2.out.alloc (.cells #[.int .i64 n.f0, .string n.f1, .slice A2 n.f2.length c2, .slice A3 n.f3.length c3] 25)); have HN3 := sd (NB.new w2 (.int .i64 n.f0) (.string n.f1) (.slice A2 n.f2.length c2) (.slice A3 n.f3.length c3)); have HB3 := sd (below_alloc HB2.out (.cells #[.int .i64 n.f0, .string n.f1, .slice A2 n.f2.length c2, .slice A3 n.f3.length c3] 25)); have HV3 := sd (HNV.out.below (below_alloc (Below.refl w2.heap.size w2) (.cells #[.int .i64 n.f0, .string n.f1, .slice A2 n.f2.length c2, .slice A3 n.f3.length c3] 25))); clear HR0 HB0 HR2 HB2 HNV; generalize hn : w.heap.size = rb at *; generalize w2.heap.size = nb at *; generalize w2.alloc (.cells #[.int .i64 n.f0, .string n.f1, .slice A2 n.f2.length c2, .slice A3 n.f3.length c3] 25) = w3 at *; have hcl : Gc w3 rb nb n A2 c2 A3 c3 := ⟨HN3.out, HR3.out⟩
 obtain ⟨p0, p1, p2, p3⟩ := hcl.nd.cells; obtain ⟨q0, q1, q2, q3⟩ := hcl.rs.cells; have f0 : w3.frozen? ⟨rb, 0, none⟩ = false := blk_frozen hcl.rs.h 0; have f1 : w3.frozen? ⟨rb, 1, none⟩ = false := blk_frozen hcl.rs.h 1; have f2 : w3.frozen? ⟨rb, 2, none⟩ = false := blk_frozen hcl.rs.h 2; have f3 : w3.frozen? ⟨rb, 3, none⟩ = false := blk_frozen hcl.rs.h 3; go_region; have HRF := sd (pu4_nb hcl.rs (.int .i64 n.f0) (.string n.f1) (.slice A2 n.f2.length c2) (.slice A3 n.f3.length c3)); have HBF := sd (pu4_below HB3.out (Nat.le_refl rb) (.int .i64 n.f0) (.string n.f1) (.slice A2 n.f2.length c2) (.slice A3 n.f3.length c3))
 change Exit.then _ _ _ _ (pu4 w3 rb (.int .i64 n.f0) (.string n.f1) (.slice A2 n.f2.length c2) (.slice A3 n.f3.length c3))
 generalize pu4 w3 rb (.int .i64 n.f0) (.string n.f1) (.slice A2 n.f2.length c2) (.slice A3 n.f3.length c3) = w9 at *; go_wp2; (try simp only [Exit.inBlock, Exit.then]); refine bodyPost_ret (res_ct rfl _ _ rb HRF.out rfl) rfl ?_; exact ⟨⟨A2, c2, A3, c3, rfl⟩, by rw [hn]; exact HBF.out⟩
theorem set4_nb {W : World} {b : Nat} {u0 u1 u2 u3 : Value} (h : NB W b u0 u1 u2 u3) (v0 v1 v2 v3 : Value) : NB ((((W.setCell ⟨b, 0, none⟩ v0).setCell ⟨b, 1, none⟩ v1).setCell ⟨b, 2, none⟩ v2).setCell ⟨b, 3, none⟩ v3) b v0 v1 v2 v3 :=
 ⟨(blk_set (blk_set (blk_set (blk_set h.h 0 v0) 1 v1) 2 v2) 3 v3).trans rfl⟩
theorem set4_below {n : Nat} {w W : World} (h : Below n w W) {b : Nat} (hb : n ≤ b) (v0 v1 v2 v3 : Value) : Below n w ((((W.setCell ⟨b, 0, none⟩ v0).setCell ⟨b, 1, none⟩ v1).setCell ⟨b, 2, none⟩ v2).setCell ⟨b, 3, none⟩ v3) := bset (bset (bset (bset h b 0 hb v0) b 1 hb v1) b 2 hb v2) b 3 hb v3
theorem gc_cells {W : World} {rb nb : Nat} {n : S25} {A2 A3 : Option Addr} {c2 c3 : Nat} (h : Gc W rb nb n A2 c2 A3 c3) : W.cell? ⟨nb, 0, none⟩ = some (.int .i64 n.f0) ∧ W.cell? ⟨nb, 1, none⟩ = some (.string n.f1) ∧ W.cell? ⟨nb, 2, none⟩ = some (.slice A2 n.f2.length c2) ∧ W.cell? ⟨nb, 3, none⟩ = some (.slice A3 n.f3.length c3) ∧
  W.cell? ⟨rb, 0, none⟩ = some (.int .i64 0) ∧ W.cell? ⟨rb, 1, none⟩ = some (.string ⟨#[]⟩) ∧ W.cell? ⟨rb, 2, none⟩ = some (.slice none 0 0) ∧ W.cell? ⟨rb, 3, none⟩ = some (.slice none 0 0) ∧ W.frozen? ⟨rb, 0, none⟩ = false ∧ W.frozen? ⟨rb, 1, none⟩ = false ∧ W.frozen? ⟨rb, 2, none⟩ = false ∧ W.frozen? ⟨rb, 3, none⟩ = false := by
 obtain ⟨p0, p1, p2, p3⟩ := h.nd.cells; obtain ⟨q0, q1, q2, q3⟩ := h.rs.cells; exact ⟨p0, p1, p2, p3, q0, q1, q2, q3, blk_frozen h.rs.h 0, blk_frozen h.rs.h 1, blk_frozen h.rs.h 2, blk_frozen h.rs.h 3⟩
theorem gc_keep {W : World} {rb nb : Nat} {n : S25} {A2 A3 : Option Addr} {c2 c3 : Nat} (h : Gc W rb nb n A2 c2 A3 c3) : W.cell? ⟨nb, 0, none⟩ = some (.int .i64 n.f0) ∧ W.cell? ⟨nb, 1, none⟩ = some (.string n.f1) ∧ W.cell? ⟨nb, 2, none⟩ = some (.slice A2 n.f2.length c2) ∧ W.cell? ⟨nb, 3, none⟩ = some (.slice A3 n.f3.length c3) := h.nd.cells
theorem Gc.below {W W2 : World} {rb nb : Nat} {n : S25} {A2 A3 : Option Addr} {c2 c3 : Nat} (h : Gc W rb nb n A2 c2 A3 c3) (hb : Below W.heap.size W W2) : Gc W2 rb nb n A2 c2 A3 c3 := ⟨h.nd.below hb, h.rs.below hb⟩
theorem tW {P : Prop} (h : P := by intro w' hSw; (try dsimp only at hSw); go_simp; (try with_reducible rfl)) : P := h
section
variable {P : Program} {md : Region.Mode} {ops : Array Oper} {Q : Exit → Act → World → Prop} {S : World → Prop} {oi : Oper} {v : Value} {fuel : Nat} {l : Array Bool} {a a' : Act} {w : World}
theorem nm (ha : a = a') (h : wpAnyH P md ops Q S fuel l a' w) : wpAnyH P md ops Q S fuel l a w := ha ▸ h
theorem cl {i : Nat} (hi : ops[i]? = some oi) (hr : Region.ready md ops l = [i])
  (h : ∀ K : Act → World → Prop, Shut (∀ a' w', S w' → (S w' → wpAnyH P md ops Q S fuel (l.setIfInBounds i true) a' w') → K a' w') → if Region.wanted oi (yielded ops a.tmps) = true then Oper.wp P oi a w K Q else K (a.put oi.dst undef) w) :
  wpAnyH P md ops Q S (fuel + 1) l a w := wpAnyH_ready hr (by simp) (AllReadyH.cons hi (fun K hK => h K hK) AllReadyH.nil)
theorem tw (i N : Nat) (hS : S w) (h : wpAnyH P md ops Q S fuel (l.setIfInBounds i true) a' w)
  (hi : ops[i]? = some oi := by rfl) (hN : oi.dst = some N := by rfl) (hs : Region.noSelect ops = true := by kernel_rfl) (hf : Region.free md ops l i = true := by kernel_rfl) (hr : (Region.ready md ops l).contains i = true := by kernel_rfl)
  (hy : YieldsIf P ops S oi v a := by first | exact .inl ⟨by rfl, tW⟩ | exact .inr ⟨by rfl, rfl⟩) (ha : a.put (some N) v = a' := by exact tP)
  (hQ : ∀ c a w, Q (.panic c) (a.put oi.dst v) w → Q (.panic c) a w := by exact fun _ _ _ h => h) : wpAnyH P md ops Q S (fuel + 1) l a w := by
 subst ha; rw [← hN] at h; exact wpAnyH_take hi hs hf hr hQ hy hS h
end
theorem tzZ20 {P : Prop} (h : P := by
  refine hK.out _ _ ?_ (fun hHeld => ?_)
  ·(try dsimp only)
   first | go_keep | exact gc_keep HG.out
  clear hK; refine tw 22 3 hHeld ?_; refine wpAnyH_done (by kernel_rfl) ?_ _; have HRF := sd (set4_nb HG.out.rs (.int .i64 n.f0) (.string n.f1) (.slice A2 n.f2.length c2) (.slice A3 n.f3.length c3)); have HBF := sd (set4_below HB4.out (Nat.le_refl rb) (.int .i64 n.f0) (.string n.f1) (.slice A2 n.f2.length c2) (.slice A3 n.f3.length c3)); go_wp2; (try simp only [Exit.inBlock, Exit.then]); refine bodyPost_ret (res_ct rfl _ _ rb HRF.out rfl) rfl ?_; exact ⟨⟨A2, c2, A3, c3, rfl⟩, by rw [hn]; exact HBF.out⟩) : P := h
theorem gb_true (s : ByteArray) (hs : s.size ≤ 65536) (h0 : 0 < s.size) (n : S25) (u b1 b2 : Bool) (x1 x2 : Int) (hx1 : bt s 0 = x1) (m : Nat) (hm : s.size = m + 1) (hx2 : bt s (m : Int) = x2) (ht : TextC 10 s n true) (hu : UniqC n u) (hb1 : BlkC x1 b1) (hb2 : BlkC x2 b2) (w : World) :
  Calls Tryz.prog 4 #[.string s] w fun e w' => (∃ A2 c2 A3 c3, e = .returned (.tuple #[ndV n A2 c2 A3 c3, .bool (u && !b1 && !b2)])) ∧ Below w.heap.size w w' := by
 have HT := sd ht; have HU := sd hu; have H1 := sd hb1; have H2 := sd hb2; have y1 : wrap64 ((s.size : Int) - 1) = (m : Int) := by rw [hm, Go.IntWalk.wrap64_in _ (by omega)]; omega
 have y2 : ((0 < s.size) = True) := eq_true h0; have y3 : ((0 ≤ (m : Int)) = True) := eq_true (by omega); have y4 : (((m : Int) < (s.size : Int)) = True) := eq_true (by omega); have y5 : ((m < s.size) = True) := eq_true (by omega); have y6 : (m : Int).toNat = m := Int.toNat_natCast m; have y7 : ∀ h : 0 < s.size, ((s[0]'h).toNat : Int) = x1 := fun h => by have := bt_c s 0 h; rw [show ((0 : Nat) : Int) = 0 from rfl, hx1] at this; exact this
 have y8 : ∀ h : m < s.size, ((s[m]'h).toNat : Int) = x2 := fun h => by rw [bt_c s m h, hx2]
 have z1 : (0 : Int) ≤ (m : Int) := by omega
 have z2 : (m : Int) < (s.size : Int) := by omega
 have z3 : IntKind.i64.wrap ((s.size : Int) - 1) = (m : Int) := by rw [i64_w]; exact y1
 clear hs h0 hx1 hm hx2 ht hu hb1 hb2; go_enter Tryz.func4, Tryz.ntmps4; have HR0 := sd (NB.new w (.int .i64 0) (.string ⟨#[]⟩) (.slice none 0 0) (.slice none 0 0)); have HB0 := sd (below_alloc (Below.refl w.heap.size w) (.cells #[.int .i64 0, .string ⟨#[]⟩, .slice none 0 0, .slice none 0 0] 25)); go_upto_region 2 with (first | (go_at_call 10; (with_reducible refine (HT.out _).mono ?_); rintro e0 w2 ⟨⟨A2, c2, A3, c3, rfl, hnv⟩, hb⟩; have HR2 := sd (HR0.out.below hb); have HB2 := sd (below_step HB0.out hb); have HNV := sd hnv; clear hb hnv))
 have HLT := sd (blk_lt HR2.out.h); have HR3 := sd (HR2.out.alloc (.cells #[.int .i64 n.f0, .string n.f1, .slice A2 n.f2.length c2, .slice A3 n.f3.length c3] 25)); have HN3 := sd (NB.new w2 (.int .i64 n.f0) (.string n.f1) (.slice A2 n.f2.length c2) (.slice A3 n.f3.length c3)); have HB3 := sd (below_alloc HB2.out (.cells #[.int .i64 n.f0, .string n.f1, .slice A2 n.f2.length c2, .slice A3 n.f3.length c3] 25)); have HV3 := sd (HNV.out.below (below_alloc (Below.refl w2.heap.size w2) (.cells #[.int .i64 n.f0, .string n.f1, .slice A2 n.f2.length c2, .slice A3 n.f3.length c3] 25))); clear HR0 HB0 HR2 HB2 HNV; generalize hn : w.heap.size = rb at *; generalize w2.heap.size = nb at *; generalize w2.alloc (.cells #[.int .i64 n.f0, .string n.f1, .slice A2 n.f2.length c2, .slice A3 n.f3.length c3] 25) = w3 at *; have hcl : Gc w3 rb nb n A2 c2 A3 c3 := ⟨HN3.out, HR3.out⟩
 have hne : nb ≠ rb := fun e => by have := HLT.out; omega
 have hne2 : rb ≠ nb := fun e => hne e.symm; have HG := sd (show Gc w3.drew rb nb n A2 c2 A3 c3 from ⟨⟨hcl.nd.h⟩, ⟨hcl.rs.h⟩⟩); have HB4 := sd (below_drew HB3.out); have HV4 := sd (HV3.out.below (below_drew (Below.refl w3.heap.size w3))); have hS := gc_cells hcl; clear hcl HV3 HB3 HR3 HN3; refine wp_region_held_drew (S := fun w' => w'.cell? ⟨nb, 0, none⟩ = some (.int .i64 n.f0) ∧ w'.cell? ⟨nb, 1, none⟩ = some (.string n.f1) ∧ w'.cell? ⟨nb, 2, none⟩ = some (.slice A2 n.f2.length c2) ∧ w'.cell? ⟨nb, 3, none⟩ = some (.slice A3 n.f3.length c3)) (by kernel_rfl) (gc_keep HG.out) (fun hHeld => ?_); refine tw 1 12 hHeld ?_; refine tw 2 13 hHeld ?_; refine tw 0 11 hHeld ?_; refine tw 3 14 hHeld ?_; refine cl (i := 4) rfl (by kernel_rfl) (fun K hK => ?_)
 refine goes_ (f := 11) (N := some 15) Tryz.func11 (by kernel_rfl) rfl #[ndV n A2 c2 A3 c3] (by rfl) rfl rfl (by (try simp only [List.map_toArray, List.map_cons, List.map_nil]); rfl) ?_; (with_reducible refine (HU.out _ A2 c2 A3 c3 HV4.out).mono ?_); rintro e0 w4 ⟨rfl, hb⟩; refine ⟨_, rfl, ?_⟩; have HG := sd (HG.out.below hb); have HB4 := sd (bstep hn HB4.out hb); clear hb; clear hHeld; refine hK.out _ _ (gc_keep HG.out) (fun hHeld => ?_); clear hK; refine nm (a' := ?_) ?_ ?_; rotate_left; exact tP; refine tw 5 16 hHeld ?_; refine tw 6 17 hHeld ?_
 cases u with
 | false =>
  refine tw 7 18 hHeld ?_; refine tw 8 19 hHeld ?_; refine tw 9 20 hHeld ?_; refine tw 10 21 hHeld ?_; refine tw 11 22 hHeld ?_; refine tw 12 23 hHeld ?_; refine tw 13 24 hHeld ?_; refine tw 14 25 hHeld ?_; refine tw 15 26 hHeld ?_; refine tw 16 27 hHeld ?_; refine tw 17 28 hHeld ?_; refine tw 18 29 hHeld ?_; refine tw 19 30 hHeld ?_; refine tw 20 31 hHeld ?_; obtain ⟨_, _, _, _, q0, q1, q2, q3, f0, f1, f2, f3⟩ := gc_cells HG.out; refine cl (i := 21) rfl (by kernel_rfl) (fun K hK => ?_); refine skip_ (w1 := (((w4.setCell ⟨rb, 0, none⟩ (.int .i64 n.f0)).setCell ⟨rb, 1, none⟩ (.string n.f1)).setCell ⟨rb, 2, none⟩ (.slice A2 n.f2.length c2)).setCell ⟨rb, 3, none⟩ (.slice A3 n.f3.length c3)) (by rfl) rfl ?_ ?_
  ·go_simp
   try rfl
  exact tzZ20
 | true =>
  refine tw 7 18 hHeld ?_; refine tw 8 19 hHeld ?_; refine cl (i := 9) rfl (by kernel_rfl) (fun K hK => ?_); refine goes_ (f := 12) (N := some 20) Tryz.func12 (by kernel_rfl) rfl #[.int .u8 x1] (by rfl) rfl rfl (by (try simp only [List.map_toArray, List.map_cons, List.map_nil]); rfl) ?_; (with_reducible refine (H1.out _).mono ?_); rintro e0 w5 ⟨rfl, hb⟩; refine ⟨_, rfl, ?_⟩; have HG := sd (HG.out.below hb); have HB4 := sd (bstep hn HB4.out hb); clear hb; clear hHeld; refine hK.out _ _ (gc_keep HG.out) (fun hHeld => ?_); clear hK; refine nm (a' := ?_) ?_ ?_; rotate_left; exact tP; refine tw 10 21 hHeld ?_; refine tw 11 22 hHeld ?_; refine tw 12 23 hHeld ?_
  cases b1 with
  | true =>
   refine tw 13 24 hHeld ?_; refine tw 14 25 hHeld ?_; refine tw 15 26 hHeld ?_; refine tw 16 27 hHeld ?_; refine tw 17 28 hHeld ?_; refine tw 18 29 hHeld ?_; refine tw 19 30 hHeld ?_; refine tw 20 31 hHeld ?_; obtain ⟨_, _, _, _, q0, q1, q2, q3, f0, f1, f2, f3⟩ := gc_cells HG.out; refine cl (i := 21) rfl (by kernel_rfl) (fun K hK => ?_); refine skip_ (w1 := (((w5.setCell ⟨rb, 0, none⟩ (.int .i64 n.f0)).setCell ⟨rb, 1, none⟩ (.string n.f1)).setCell ⟨rb, 2, none⟩ (.slice A2 n.f2.length c2)).setCell ⟨rb, 3, none⟩ (.slice A3 n.f3.length c3)) (by rfl) rfl ?_ ?_
   ·go_simp
    try rfl
   exact tzZ20
  | false =>
   refine tw 13 24 hHeld ?_; refine tw 14 25 hHeld ?_; refine tw 15 26 hHeld ?_; refine tw 16 27 hHeld ?_; refine tw 17 28 hHeld ?_; refine cl (i := 18) rfl (by kernel_rfl) (fun K hK => ?_); refine goes_ (f := 12) (N := some 29) Tryz.func12 (by kernel_rfl) rfl #[.int .u8 x2] (by rfl) rfl rfl (by (try simp only [List.map_toArray, List.map_cons, List.map_nil]); rfl) ?_; (with_reducible refine (H2.out _).mono ?_); rintro e0 w6 ⟨rfl, hb⟩; refine ⟨_, rfl, ?_⟩; have HG := sd (HG.out.below hb); have HB4 := sd (bstep hn HB4.out hb); clear hb; clear hHeld; refine hK.out _ _ (gc_keep HG.out) (fun hHeld => ?_); clear hK; refine nm (a' := ?_) ?_ ?_; rotate_left; exact tP; refine tw 19 30 hHeld ?_; refine tw 20 31 hHeld ?_; obtain ⟨_, _, _, _, q0, q1, q2, q3, f0, f1, f2, f3⟩ := gc_cells HG.out; refine cl (i := 21) rfl (by kernel_rfl) (fun K hK => ?_)
   refine skip_ (w1 := (((w6.setCell ⟨rb, 0, none⟩ (.int .i64 n.f0)).setCell ⟨rb, 1, none⟩ (.string n.f1)).setCell ⟨rb, 2, none⟩ (.slice A2 n.f2.length c2)).setCell ⟨rb, 3, none⟩ (.slice A3 n.f3.length c3)) (by rfl) rfl ?_ ?_
   ·go_simp
    try rfl
   exact tzZ20
end Go.Proofs.YtdacgdjjdifneaaGreatDoor.PFnGjFlattenOften
