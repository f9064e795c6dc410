/- Part of the proof of the card in text ZF. -/
import Derived.Test.YtdacgdjjdifneaaGreatDoorZH
import Derived.Test.YtdacgdjjdifneaaGreatDoorZI
import Derived.Test.YtdacgdjjdifneaaGreatDoorZC
import Derived.Shelf.LaysM
import Derived.Shelf.Strconv.SyntaxError
import Derived.Shelf.Strconv.RangeError
import Derived.Lib.IfaceEq
set_option linter.all false
set_option maxHeartbeats 16000000
set_option maxRecDepth 100000
namespace Go.Proofs.YtdacgdjjdifneaaGreatDoor.PFnGjFlattenOften
open Go.RowKit Go.Proofs.YtdacgdjjdifneaaGreatDoorW.PrintWords Go.Proofs.YtdacgdjjdifneaaGreatDoorW.PrintLast Go.Proofs.YtdacgdjjdifneaaGreatDoorW.PrintMore
structure FT (W : World) : Prop where
 opt : W.cell? ⟨3, 0, none⟩ = some (.bool true)
 fi : Fi W 8
 p10 : P10 W
 t13 : T13 W
 lc : Lc W
 pt : ∃ (pb po c : Nat), W.cell? ⟨12, 0, none⟩ = some (.slice (some ⟨pb, po, none⟩) 9 c) ∧ ∀ k, k < 9 → W.cell? ⟨pb, po + k, none⟩ = some (.int .i64 (pT k : Int))
theorem kc {w W : World} {p : Addr} {v : Value} (h : w.cell? p = some v) (hb : Below w.heap.size w W) : W.cell? p = some v := (hb.cell (World.block_lt_of_cell? _ _ h)).trans h
theorem FT.keep {w W : World} (h : FT w) (hb : Below w.heap.size w W) : FT W := by
 obtain ⟨h1, h2, h3, h4, h5, h6⟩ := h; refine ⟨kc h1 hb, ⟨kc h2.m hb, kc h2.e hb, kc h2.b hb, Nat.lt_of_lt_of_le h2.lt hb.size⟩, h3.keep hb, ?_, ?_, ?_⟩
 ·obtain ⟨a, b, c, g1, g2⟩ := h4.ex; exact ⟨a, b, c, kc g1 hb, fun k hk => by obtain ⟨x, e1, e2⟩ := g2 k hk; exact ⟨x, kc e1 hb, e2⟩⟩
 ·obtain ⟨a, b, c, g1, g2⟩ := h5.ex; exact ⟨a, b, c, kc g1 hb, fun k hk => ⟨kc (g2 k hk).1 hb, kc (g2 k hk).2 hb⟩⟩
 ·obtain ⟨a, b, c, g1, g2⟩ := h6; exact ⟨a, b, c, kc g1 hb, fun k hk => kc (g2 k hk) hb⟩
theorem FT.fw {w W : World} {b : Nat} (h : FT w) (hb : w.heap.size ≤ b) {D : Nat → Int} {nd : Nat} {dp : Int} {neg tr : Bool} (k : Below w.heap.size w W) (hd : Dw W b D nd dp neg tr) : Fw W W b 8 D nd dp neg tr := by
 have h' := h.keep k; have hsz := k.size; refine ⟨Kq.refl W b, hd, ?_, ?_, h'.fi, by have := h.fi.lt; omega⟩
 ·obtain ⟨ab, ao, c, g1, g2⟩ := h.lc.ex; have l1 := World.block_lt_of_cell? _ _ g1; have l2 := World.block_lt_of_cell? _ _ (g2 0 (by decide)).1; dsimp only at l1 l2; exact ⟨ab, ao, c, ⟨by omega, by omega, by omega, by omega⟩, kc g1 k, fun i hi => ⟨kc (g2 i hi).1 k, kc (g2 i hi).2 k⟩⟩
 ·obtain ⟨pb, po, c, g1, g2⟩ := h.pt; have l1 := World.block_lt_of_cell? _ _ g1; have l2 := World.block_lt_of_cell? _ _ (g2 0 (by decide)); dsimp only at l1 l2; exact ⟨pb, po, c, ⟨by omega, by omega, by omega, by omega⟩, kc g1 k, fun i hi => kc (g2 i hi) k⟩
def NumT (s : ByteArray) : Prop := ∀ i, i < s.size → NumC (bt s (i : Int))
theorem NumT.take {s : ByteArray} (h : NumT s) (n : Nat) : NumT (s.extract 0 n) := by
 intro i hi; rw [bt_cut s 0 n i hi, Nat.zero_add]; rw [ByteArray.size_extract] at hi; exact h i (by omega)
theorem zero133 : Tryz.zeroCells133 = Array.replicate 800 (.int .u8 0) ++ #[.int .i64 0, .int .i64 0, .bool false, .bool false] := by kernel_rfl
theorem new_sd (w : World) : Sd (w.alloc (.cells Tryz.zeroCells133 133)) (w.alloc (.cells Tryz.zeroCells133 133)) w.heap.size := by
 refine ⟨fun _ => 0, 0, 0, false, false, Kq.refl _ _, ⟨_, blk_new w _, ?_, ?_, ?_, ?_, ?_, ?_⟩, .inl rfl⟩
 ·rw [zero133]; simp
 ·intro i hi; rw [zero133, Array.getElem?_append_left (by simpa using hi)]; simp [hi]
 ·rw [zero133, Array.getElem?_append_right (by simp)]; simp
 ·rw [zero133, Array.getElem?_append_right (by simp)]; simp
 ·rw [zero133, Array.getElem?_append_right (by simp)]; simp
 ·rw [zero133, Array.getElem?_append_right (by simp)]; simp
theorem new_below (w : World) : Below w.heap.size w (w.alloc (.cells Tryz.zeroCells133 133)) := below_alloc (Below.refl _ _) _
theorem new_lt (w : World) : w.heap.size < (w.alloc (.cells Tryz.zeroCells133 133)).heap.size := blk_lt (blk_new w _)
theorem dst (b : Nat) (s : ByteArray) (hs : s.size ≤ 65536) (hc : NumT s) (w : World) (h : Sd w w b) : Calls Tryz.prog 136 #[.pointer (some ⟨b, 0, none⟩), .string s] w fun e w' => (∃ ok : Bool, e = .returned (.bool ok)) ∧ Sd w w' b := ds_calls b s hs hc w h
theorem spt (s : ByteArray) (hs : s.size ≤ 65536) (hc : NumT s) (w : World) : Calls Tryz.prog 129 #[.string s] w fun e w' => e = .returned (.tuple #[.float .f64 0, .int .i64 0, .bool false]) ∧ w' = w := sp_calls s hs hc w
theorem rft (s : ByteArray) (hs : s.size ≤ 65536) (hc : NumT s) (w : World) : Calls Tryz.prog 130 #[.string s] w fun e w' => RfR s e ∧ w' = w := rf_calls s hs hc w
theorem cl105 (s : ByteArray) (hs : s.size ≤ 65536) (hc : NumT s) (w : World) (hT : FT w) :
  Calls Tryz.prog 105 #[.string s] w fun e w' => (∃ (f : Nat) (n : Int) (v : Value), e = .returned (.tuple #[.float .f64 f, .int .i64 n, v]) ∧ ErrI v) ∧ Below w.heap.size w w' := by
 have HS := sd hs; have HC := sd hc; have HT := sd hT; have go := hT.opt; have hf := run139; clear hs hc hT; go_enter Tryz.func105, Tryz.ntmps105; go_upto_region 5 with (first | (go_at_call 129; (with_reducible refine (spt s HS.out HC.out _).mono ?_); rintro e0 W2 ⟨rfl, rfl⟩) | (go_at_call 130; (with_reducible refine (rft s HS.out HC.out _).mono ?_); rintro e0 W2 ⟨⟨m, x, neg, tr, ok, i, rfl, hm, hi⟩, rfl⟩; have HM := sd hm; have HI := sd hi; clear hm hi))
 cases ok with
 | false =>
  go_wp2; go_ret3; exact ⟨⟨_, _, _, rfl, .inr (.inr rfl)⟩, Below.refl _ _⟩
 | true =>
  go_upto_region 12 with (first | (go_at_call 138; (with_reducible refine (cl138 _ _).mono ?_); rintro e0 W2 ⟨rfl, rfl⟩))
  generalize IntKind.u64.wrap (b2i neg * 9223372036854775808) = sg at *
  by_cases h0 : m = 0
  ·have y1 : (m == 0) = true := beq_iff_eq.mpr h0; clear h0; go_wp2; go_ret3; exact ⟨⟨_, _, _, rfl, .inl rfl⟩, Below.refl _ _⟩
  ·have y1 : (m == 0) = false := beq_eq_false_iff_ne.mpr h0
   by_cases h1 : 310 < x
   ·have y2 : decide (310 < x) = true := decide_eq_true h1; clear h0 h1; go_wp2; go_ret3; exact ⟨⟨_, _, _, rfl, .inr (.inl rfl)⟩, Below.refl _ _⟩
   ·have y2 : decide (310 < x) = false := decide_eq_false h1
    by_cases h2 : x < -345
    ·have y3 : decide (x < -345) = true := decide_eq_true h2; clear h0 h1 h2; go_wp2; go_ret3; exact ⟨⟨_, _, _, rfl, .inl rfl⟩, Below.refl _ _⟩
    ·have y3 : decide (x < -345) = false := decide_eq_false h2; have HX := sd (show -345 ≤ x ∧ x ≤ 310 by omega); clear h0 h1 h2; have HM1 := sd (u64_rng (m + 1)); go_upto_if 88 with (fail)
     clear y1 y2 y3 go; have HF := sd HT.out.fi; have H13 := sd HT.out.t13; go_cut [3, 4] (fun n v wd => n = .int .i64 (i : Int) ∧ v = .nilIface ∧ Aside0 (Below W2.heap.size W2 wd))
     case first =>
      cases tr with
      | true =>
       go_wp2; go_meet
       case rel => exact ⟨rfl, rfl, ⟨Below.refl _ _⟩⟩
      | false =>
       go_wp2_with (first | (go_at_call 140; (with_reducible refine (cl140 m x neg _ HF.out H13.out).mono ?_); rintro e0 W4 ⟨⟨f, ok, rfl⟩, hb⟩; have HB := sd hb; clear hb; cases ok))
       ·go_meet
        case rel => exact ⟨rfl, rfl, HB⟩
       ·go_ret3; exact ⟨⟨_, _, _, rfl, .inl rfl⟩, HB.out⟩
     case rest =>
      clear HF H13; obtain ⟨rfl, rfl, HB⟩ := hcut; have HT2 := sd (HT.out.keep HB.out); have HP := sd HT2.out.p10
      cases tr with
      | false =>
       go_wp2_with (first | (go_at_call 141; (with_reducible refine (cl141 m x sg HM.out HX.out _ HP.out).mono ?_); rintro e0 W4 ⟨⟨f, v, rfl, hv⟩, hb⟩; have HB4 := sd (below_step HB.out hb); have HV := sd hv; clear hb hv)); go_ret3; exact ⟨⟨_, _, _, rfl, HV.out⟩, HB4.out⟩
      | true =>
       go_upto_region 25 with (first | (go_at_call 141; (with_reducible refine (cl141 m x sg HM.out HX.out _ HP.out).mono ?_); rintro e0 W4 ⟨⟨f, v, rfl, hv⟩, hb⟩; have HB4 := sd (below_step HB.out hb); have HV := sd hv; clear hb hv))
       clear HT2 HP; have HT2 := sd (HT.out.keep HB4.out); have HP := sd HT2.out.p10; go_upto_region 28 with (first | (go_at_call 141; (with_reducible refine (cl141 _ x sg HM1.out HX.out _ HP.out).mono ?_); rintro e0 W5 ⟨⟨f1, v1, rfl, hv⟩, hb⟩; have HB5 := sd (below_step HB4.out hb); clear hb hv))
       ·go_ret3; exact ⟨⟨_, _, _, rfl, HV.out⟩, HB5.out⟩
       ·clear HT2 HP HX HM HM1; go_upto_region 29 with (fail)
        have HA := sd (new_sd W5); have HBA := sd (new_below W5); have HLA := sd (new_lt W5); generalize W5.alloc (Obj.cells Tryz.zeroCells133 133) = W6 at *; have i1 : ((0 ≤ (i : Int)) = True) := eq_true (by omega); have i2 : (((i : Int) ≤ (s.size : Int)) = True) := eq_true (by have := HI.out; omega); have i3 : ((i ≤ s.size) = True) := eq_true HI.out; have i4 : (i : Int).toNat = i := Int.toNat_natCast i; have HS2 := sd (show (s.extract 0 i).size ≤ 65536 by rw [ByteArray.size_extract]; have := HS.out; omega); have HC2 := sd (HC.out.take i); go_upto_region 31 with (first | (go_at_call 136; (with_reducible refine (dst _ _ HS2.out HC2.out _ HA.out).mono ?_); rintro e0 W7 ⟨⟨ok, rfl⟩, hsd⟩; have HD := sd hsd; clear hsd; cases ok))
        ·obtain ⟨D, nd, dp, ng, tc, hk, _, _⟩ := HD.out.ex; go_ret3; exact ⟨⟨_, _, _, rfl, .inr (.inr rfl)⟩, below_step HB5.out (Kq.below HBA.out hk (Nat.le_of_lt HLA.out) (Nat.le_refl _))⟩
        ·clear i1 i2 i3 i4 HS2 HC2; obtain ⟨D, nd, dp, ng, tc, hk, hd, hn⟩ := HD.out.ex; have HB7 := sd (below_step HB5.out (Kq.below HBA.out hk (Nat.le_of_lt HLA.out) (Nat.le_refl _))); have HW := sd ((HT.out.keep HB5.out).fw (Nat.le_refl _) (Kq.below HBA.out hk (Nat.le_of_lt HLA.out) (Nat.le_refl _)) hd); have HN := sd hn; have HK7 := sd (Kq.below HBA.out hk (Nat.le_of_lt HLA.out) (Nat.le_refl _)); clear hk hd hn; go_wp2_with (first | (go_at_call 137; (with_reducible refine (fb_calls _ 8 D nd dp ng tc HN.out _ HW.out).mono ?_); rintro e0 W8 ⟨⟨t, o, rfl⟩, hk⟩; have HB8 := sd (below_step HB5.out (Kq.below HK7.out hk (Nat.le_of_lt (Nat.lt_of_lt_of_le HLA.out (by have := HD.out; obtain ⟨_, _, _, _, _, hk9, _⟩ := this.ex; exact hk9.size))) (Nat.le_refl _))); clear hk; cases o))
         ·go_ret3; exact ⟨⟨_, _, _, rfl, .inl rfl⟩, HB8.out⟩
         ·go_ret3; exact ⟨⟨_, _, _, rfl, .inr (.inl rfl)⟩, HB8.out⟩
theorem cl84 (s : ByteArray) (hs : s.size ≤ 65536) (hc : NumT s) (w : World) (hT : FT w) :
  Calls Tryz.prog 84 #[.string s, .int .i64 64] w fun e w' => (∃ (f : Nat) (n : Int) (v : Value), e = .returned (.tuple #[.float .f64 f, .int .i64 n, v]) ∧ ErrI v) ∧ Below w.heap.size w w' := by
 have HS := sd hs; have HC := sd hc; have HT := sd hT; clear hs hc hT; go_enter Tryz.func84, Tryz.ntmps84; go_wp2_with (first | (go_at_call 105; (with_reducible refine (cl105 s HS.out HC.out _ HT.out).mono ?_); rintro e0 W2 ⟨⟨f, n, v, rfl, hv⟩, hb⟩; have HV := sd (And.intro hv hb); clear hv hb)); go_ret3; exact ⟨⟨_, _, _, rfl, HV.out.1⟩, HV.out.2⟩
theorem cl75 (s : ByteArray) (hs : s.size ≤ 65536) (hc : NumT s) (w : World) (hT : FT w) :
  Calls Tryz.prog 75 #[.string s, .int .i64 64] w fun e w' => (∃ (f : Nat) (v : Value), e = .returned (.tuple #[.float .f64 f, v]) ∧ ErrI v) ∧ Below w.heap.size w w' := by
 have HS := sd hs; have HC := sd hc; have HT := sd hT; clear hs hc hT; go_enter Tryz.func75, Tryz.ntmps75; go_wp2_with (first | (go_at_call 84; (with_reducible refine (cl84 s HS.out HC.out _ HT.out).mono ?_); rintro e0 W2 ⟨⟨f, n, v, rfl, hv⟩, hb⟩; have HV := sd (And.intro hv hb); clear hv hb))
 ·go_ret2; exact ⟨⟨_, _, rfl, .inr (.inr rfl)⟩, HV.out.2⟩
 ·go_ret2; exact ⟨⟨_, _, rfl, HV.out.1⟩, HV.out.2⟩
end Go.Proofs.YtdacgdjjdifneaaGreatDoor.PFnGjFlattenOften
namespace Go.Proofs
open Go.Shelf
def Tryz.laysM280_ren : Go.Shelf.Ren := ⟨fun | 280 => 81 | 316 => 101 | n => n, fun | 9 => 9 | 168 => 108 | 75 => 84 | 210 => 137 | 3 => 3 | 4 => 4 | 37 => 69 | 0 => 0 | 127 => 160 | 80 => 67 | 5 => 5 | n => n, fun | 16 => 5 | n => n⟩
theorem Tryz.laysM280 : Go.Proofs.LaysM.n280 Tryz.prog Tryz.laysM280_ren := {
 mixed := by kernel_rfl
 f280 := Tryz.func81.trans (congrArg some (by kernel_rfl))
 f316 := Tryz.func101.trans (congrArg some (by kernel_rfl))
 t0 := Tryz.underlying0
 a0 := Tryz.isAgg0
 z0 := Tryz.sizeOf0
 v0 := Tryz.zeroValue0
 t3 := Tryz.underlying3
 a3 := Tryz.isAgg3
 z3 := Tryz.sizeOf3
 v3 := Tryz.zeroValue3
 t4 := Tryz.underlying4
 a4 := Tryz.isAgg4
 z4 := Tryz.sizeOf4
 v4 := Tryz.zeroValue4
 t9 := Tryz.underlying9
 a9 := Tryz.isAgg9
 z9 := Tryz.sizeOf9
 v9 := Tryz.zeroValue9
 t37 := Tryz.underlying69
 a37 := Tryz.isAgg69
 z37 := Tryz.sizeOf69
 v37 := Tryz.zeroValue69
 t75 := Tryz.underlying84
 a75 := Tryz.isAgg84
 z75 := Tryz.sizeOf84
 v75 := Tryz.zeroValue84
 t127 := Tryz.underlying160
 a127 := Tryz.isAgg160
 z127 := Tryz.sizeOf160
 v127 := Tryz.zeroValue160
 t168 := Tryz.underlying108
 a168 := Tryz.isAgg108
 z168 := Tryz.sizeOf108
 v168 := Tryz.zeroValue108
 t210 := Tryz.underlying137
 a210 := Tryz.isAgg137
 z210 := Tryz.sizeOf137
 v210 := Tryz.zeroValue137
 g16 := by kernel_rfl
 t5 := Tryz.underlying5
 a5 := Tryz.isAgg5
 z5 := Tryz.sizeOf5
 v5 := Tryz.zeroValue5
 t80 := Tryz.underlying67
 a80 := Tryz.isAgg67
 z80 := Tryz.sizeOf67
 v80 := Tryz.zeroValue67
 i0 := by kernel_rfl
 i3 := by kernel_rfl
 i4 := by kernel_rfl
 i5 := by kernel_rfl
 i9 := by kernel_rfl
 i37 := by kernel_rfl
 i75 := by kernel_rfl
 i80 := by kernel_rfl
 i127 := by kernel_rfl
 i168 := by kernel_rfl
 i210 := by kernel_rfl
 m16 := by kernel_rfl }
def Tryz.laysM279_ren : Go.Shelf.Ren := ⟨fun | 279 => 80 | 316 => 101 | n => n, fun | 9 => 9 | 168 => 108 | 75 => 84 | 210 => 137 | 3 => 3 | 4 => 4 | 37 => 69 | 0 => 0 | 127 => 160 | 80 => 67 | 5 => 5 | n => n, fun | 15 => 4 | n => n⟩
theorem Tryz.laysM279 : Go.Proofs.LaysM.n279 Tryz.prog Tryz.laysM279_ren := {
 mixed := by kernel_rfl
 f279 := Tryz.func80.trans (congrArg some (by kernel_rfl))
 f316 := Tryz.func101.trans (congrArg some (by kernel_rfl))
 t0 := Tryz.underlying0
 a0 := Tryz.isAgg0
 z0 := Tryz.sizeOf0
 v0 := Tryz.zeroValue0
 t3 := Tryz.underlying3
 a3 := Tryz.isAgg3
 z3 := Tryz.sizeOf3
 v3 := Tryz.zeroValue3
 t4 := Tryz.underlying4
 a4 := Tryz.isAgg4
 z4 := Tryz.sizeOf4
 v4 := Tryz.zeroValue4
 t9 := Tryz.underlying9
 a9 := Tryz.isAgg9
 z9 := Tryz.sizeOf9
 v9 := Tryz.zeroValue9
 t37 := Tryz.underlying69
 a37 := Tryz.isAgg69
 z37 := Tryz.sizeOf69
 v37 := Tryz.zeroValue69
 t75 := Tryz.underlying84
 a75 := Tryz.isAgg84
 z75 := Tryz.sizeOf84
 v75 := Tryz.zeroValue84
 t127 := Tryz.underlying160
 a127 := Tryz.isAgg160
 z127 := Tryz.sizeOf160
 v127 := Tryz.zeroValue160
 t168 := Tryz.underlying108
 a168 := Tryz.isAgg108
 z168 := Tryz.sizeOf108
 v168 := Tryz.zeroValue108
 t210 := Tryz.underlying137
 a210 := Tryz.isAgg137
 z210 := Tryz.sizeOf137
 v210 := Tryz.zeroValue137
 g15 := by kernel_rfl
 t5 := Tryz.underlying5
 a5 := Tryz.isAgg5
 z5 := Tryz.sizeOf5
 v5 := Tryz.zeroValue5
 t80 := Tryz.underlying67
 a80 := Tryz.isAgg67
 z80 := Tryz.sizeOf67
 v80 := Tryz.zeroValue67
 i0 := by kernel_rfl
 i3 := by kernel_rfl
 i4 := by kernel_rfl
 i5 := by kernel_rfl
 i9 := by kernel_rfl
 i37 := by kernel_rfl
 i75 := by kernel_rfl
 i80 := by kernel_rfl
 i127 := by kernel_rfl
 i168 := by kernel_rfl
 i210 := by kernel_rfl
 m15 := by kernel_rfl }
end Go.Proofs
namespace Go.Proofs.YtdacgdjjdifneaaGreatDoor.PFnGjFlattenOften
open Go.RowKit Go.Proofs.YtdacgdjjdifneaaGreatDoorW.PrintWords Go.Proofs.YtdacgdjjdifneaaGreatDoorW.PrintLast Go.Proofs.YtdacgdjjdifneaaGreatDoorW.PrintMore
structure EvW (W : World) : Prop where
 ex : ∃ v4 v5, W.cell? ⟨4, 0, none⟩ = some v4 ∧ W.cell? ⟨5, 0, none⟩ = some v5 ∧ (v4 = .nilIface ∨ ∃ t p, v4 = .iface t p) ∧ (v5 = .nilIface ∨ ∃ t p, v5 = .iface t p)
theorem EvW.keep {w W : World} (h : EvW w) (hb : Below w.heap.size w W) : EvW W := by
 obtain ⟨v4, v5, h1, h2, h3, h4⟩ := h.ex; exact ⟨v4, v5, kc h1 hb, kc h2 hb, h3, h4⟩
theorem syn80 (fn s : ByteArray) (hs : s.size ≤ 65536) (w : World) (h : EvW w) : Calls Tryz.prog 80 #[.string fn, .string s] w fun e w' => (∃ N, e = .returned (.pointer (some ⟨N, 0, none⟩))) ∧ Below w.heap.size w w' := by
 obtain ⟨v4, v5, h1, h2, h3, h4⟩ := h.ex; refine (Any.strconv_syntaxError Tryz.laysM279 fn s v4 w (by omega) h1 h3).mono ?_; rintro e w' ⟨N, rfl, _, _, hb⟩; exact ⟨⟨N, rfl⟩, hb⟩
theorem rng81 (fn s : ByteArray) (hs : s.size ≤ 65536) (w : World) (h : EvW w) : Calls Tryz.prog 81 #[.string fn, .string s] w fun e w' => (∃ N, e = .returned (.pointer (some ⟨N, 0, none⟩))) ∧ Below w.heap.size w w' := by
 obtain ⟨v4, v5, h1, h2, h3, h4⟩ := h.ex; refine (Any.strconv_rangeError Tryz.laysM280 fn s v5 w (by omega) h2 h4).mono ?_; rintro e w' ⟨N, rfl, _, _, hb⟩; exact ⟨⟨N, rfl⟩, hb⟩
theorem toErr (fn s : ByteArray) (b1 b2 : Int) (hs : s.size ≤ 65536) (v : Value) (hv : v = .iface 107 (.int .i64 1) ∨ v = .iface 107 (.int .i64 2)) (w : World) (h : EvW w) :
  Calls Tryz.prog 72 #[.string fn, .string s, .int .i64 b1, .int .i64 b2, v] w fun e w' => (∃ N, e = .returned (.iface 108 (.pointer (some ⟨N, 0, none⟩)))) ∧ Below w.heap.size w w' := by
 have HS := sd hs; have HE := sd h; clear hs h; have q12 : ∀ W, (binOp .eql 84 (.iface 107 (.int .i64 1)) (.iface 107 (.int .i64 2))).run Tryz.prog W = .ok (.bool false) W := fun W => Lib.run_eql_iface_int W 1 2 Tryz.underlying84 (by kernel_rfl) Tryz.underlying107; have q11 : ∀ W, (binOp .eql 84 (.iface 107 (.int .i64 1)) (.iface 107 (.int .i64 1))).run Tryz.prog W = .ok (.bool true) W := fun W => Lib.run_eql_iface_int W 1 1 Tryz.underlying84 (by kernel_rfl) Tryz.underlying107; have q22 : ∀ W, (binOp .eql 84 (.iface 107 (.int .i64 2)) (.iface 107 (.int .i64 2))).run Tryz.prog W = .ok (.bool true) W := fun W => Lib.run_eql_iface_int W 2 2 Tryz.underlying84 (by kernel_rfl) Tryz.underlying107
 rcases hv with rfl | rfl
 ·go_enter Tryz.func72, Tryz.ntmps72; go_wp2_with (first | (go_at_call 81; (with_reducible refine (rng81 fn s HS.out _ HE.out).mono ?_); rintro e0 W2 ⟨⟨N, rfl⟩, hb⟩; have HB := sd hb; clear hb)); go_ret; exact ⟨⟨_, rfl⟩, HB.out⟩
 ·go_enter Tryz.func72, Tryz.ntmps72; go_wp2_with (first | (go_at_call 80; (with_reducible refine (syn80 fn s HS.out _ HE.out).mono ?_); rintro e0 W2 ⟨⟨N, rfl⟩, hb⟩; have HB := sd hb; clear hb)); go_ret; exact ⟨⟨_, rfl⟩, HB.out⟩
theorem pf_calls (s : ByteArray) (hs : s.size ≤ 65536) (hc : NumT s) (w : World) (hT : FT w) (hE : EvW w) :
  Calls Tryz.prog 62 #[.string s, .int .i64 64] w fun e w' => (∃ (f : Nat) (v : Value), e = .returned (.tuple #[.float .f64 f, v])) ∧ Below w.heap.size w w' := by
 have HS := sd hs; have HC := sd hc; have HT := sd hT; have HE := sd hE; clear hs hc hT hE; go_enter Tryz.func62, Tryz.ntmps62; go_upto_region 2 with (first | (go_at_call 75; (with_reducible refine (cl75 s HS.out HC.out _ HT.out).mono ?_); rintro e0 W2 ⟨⟨f, v, rfl, hv⟩, hb⟩; have HB := sd hb; have HE2 := sd (HE.out.keep hb); clear hb))
 rcases hv with rfl | rfl | rfl
 ·go_wp2; go_ret2; exact ⟨⟨_, _, rfl⟩, HB.out⟩
 ·go_wp2_with (first | (go_at_call 72; (with_reducible refine (toErr _ s _ _ HS.out _ (.inl rfl) _ HE2.out).mono ?_); rintro e0 W3 ⟨⟨N, rfl⟩, hb⟩; have HB2 := sd (below_step HB.out hb); clear hb)); go_ret2; exact ⟨⟨_, _, rfl⟩, HB2.out⟩
 ·go_wp2_with (first | (go_at_call 72; (with_reducible refine (toErr _ s _ _ HS.out _ (.inr rfl) _ HE2.out).mono ?_); rintro e0 W3 ⟨⟨N, rfl⟩, hb⟩; have HB2 := sd (below_step HB.out hb); clear hb)); go_ret2; exact ⟨⟨_, _, rfl⟩, HB2.out⟩
end Go.Proofs.YtdacgdjjdifneaaGreatDoor.PFnGjFlattenOften
