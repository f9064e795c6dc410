/- Part of the proof of the card in text ZF. -/
import Derived.Test.YtdacgdjjdifneaaGreatDoorZT
import Derived.Test.YtdacgdjjdifneaaGreatDoorZO
import Derived.Test.YtdacgdjjdifneaaGreatDoorZM
import Derived.Deep.CutBlock
import Derived.Outline
set_option linter.all false
set_option maxHeartbeats 16000000
set_option maxRecDepth 100000
namespace Go.Proofs.YtdacgdjjdifneaaGreatDoor.PFnGjFlattenOften
open Go.RowKit Go.Proofs.YtdacgdjjdifneaaGreatDoorW.PrintWords Go.Proofs.YtdacgdjjdifneaaGreatDoorW.PrintLast Go.Proofs.YtdacgdjjdifneaaGreatDoorW.PrintMore
theorem ks_setCells {g : Nat} {w : World} : ∀ (vs : List Value) (o : Nat) (W : World), Ks w W (fun k => k = g) → Ks w (W.setCells g o vs) (fun k => k = g)
 | [], _, _, h => h
 | v :: r, o, W, h => ks_setCells r (o + 1) _ (h.set g o rfl v)
theorem BR.of_blk {w W2 : World} {base g cap : Nat} {v : Value} {xs : List Int} (h : BR w base v xs g cap) (e : W2.heap[g]? = w.heap[g]?) (hz : w.heap.size ≤ W2.heap.size) : BR W2 base v xs g cap :=
 ⟨h.val, h.ge, Nat.lt_of_lt_of_le h.lt hz, h.le, h.max, fun j hj => by
  have := h.there j hj; simp only [World.cell?, World.frozen?, e] at this ⊢; exact this, fun j v hv => by
  have := h.cell j v hv; simp only [World.cell?, e] at this ⊢; exact this⟩
theorem BR.sl {w : World} {base g cap : Nat} {v : Value} {xs : List Int} (h : BR w base v xs g cap) : ∃ L, v = .slice (some ⟨g, 0, none⟩) L cap := ⟨_, h.val⟩
section
variable {P : Program}
theorem run_append_br2 {w : World} {base g cap : Nat} {v : Value} {xs ys : List Int} (t u ty : TypeId) (i : TypeInfo) (x : Value) (ht : P.underlying t = some (.slice 5)) (hi : P.info? 5 = some i) (hz : i.zero = some (.int .u8 0)) (h1 : i.size = 1) (hby : i.bytes = 1)
  (h : BR w base v xs g cap) (hbase : base ≤ w.heap.size) (h63 : xs.length + ys.length ≤ 140737488355328)
  (hx : (∃ ad c, u = t ∧ x = .slice (some ad) ys.length c ∧ ∀ j v, (byteCells ys)[j]? = some v → w.cell? (ad.add j) = some v) ∨ (∃ s, P.underlying u = some .string ∧ x = .string s ∧ Lib.strCells s = byteCells ys)) :
  ∃ v' w' g' c', (Builtin.append_ #[t, u] ty #[v, x]).run P w = .ok v' w' ∧ BR w' base v' (xs ++ ys) g' c' ∧ Ks w w' (fun k => k = g) ∧ (g' = g ∨ w.heap.size ≤ g') := by
 obtain ⟨rfl⟩ : v = _ := h.val; have hlen : (byteCells ys).length = ys.length := byteCells_length ys; have hone : ∀ u ∈ byteCells ys, u.oneCell' = true := fun u hu => by
  rw [byteCells, List.mem_map] at hu; obtain ⟨a, _, rfl⟩ := hu; rfl
 by_cases hroom : xs.length + ys.length ≤ cap
 ·have hst := run_storeCells_cells (P := P) g xs.length (byteCells ys) 0 w (fun j hj => (h.there _ (by omega)).1) (fun j hj => (h.there _ (by omega)).2) hone; simp only [Nat.add_zero] at hst; refine ⟨_, _, g, cap, ?_, h.room hroom, ks_setCells _ _ _ (Ks.refl w _), .inl rfl⟩
  rcases hx with ⟨ad, c, rfl, rfl, hnews⟩ | ⟨s, hu, rfl, hsc⟩
  ·have hf := run_firstCells_some (P := P) w 1 ys.length ad ys.length c (byteCells ys) (by rw [hlen, Nat.mul_one]) hnews; simp [Builtin.append_, run_underlying ht, sizeOf, typeInfo, hi, h1, Builtin.lenOf, hroom, hf, Addr.add_lit, hst]
  ·have hsz : s.size = ys.length := by rw [← Lib.strCells_length, hsc, hlen]
   have hf := Lib.run_firstCells_string (P := P) w 1 s; rw [hsz, hsc] at hf; simp [Builtin.append_, run_underlying ht, run_underlying hu, sizeOf, typeInfo, hi, h1, Builtin.lenOf, hsz, hroom, hf, Addr.add_lit, hst]
 ·have hlo : (byteCells xs).length = xs.length * i.size := by rw [byteCells_length, h1, Nat.mul_one]
  have holds : ∀ j v, (byteCells xs)[j]? = some v → w.cell? ((⟨g, 0, none⟩ : Addr).add j) = some v := fun j v hv => by rw [add0]; exact h.cell j v hv
  have h9 : ((xs.length + ys.length : Nat) : Int) ≤ 9223372036854775807 := by omega
  have hfit : Builtin.nextslicecap (xs.length + ys.length) cap * i.bytes ≤ 281474976710656 := growslice_fits (by omega) (by rw [hby, Nat.mul_one]; exact h63); have hzc : (Value.int .u8 0).cells = #[.int .u8 0] := rfl
  rcases hx with ⟨ad, c, rfl, rfl, hnews⟩ | ⟨s, hu, rfl, hsc⟩
  ·have hr := run_append_grow (P := P) w _ ty 5 i _ ht hi hz ⟨g, 0, none⟩ xs.length cap (byteCells xs) hlo holds ad ys.length c (byteCells ys) (by rw [hlen, h1, Nat.mul_one]) hnews (by omega) h9 hfit; rw [hzc] at hr; refine ⟨_, _, w.heap.size, grownCap w (xs.length + ys.length) cap 5, hr, ?_, ?_, .inr (Nat.le_refl _)⟩
   ·exact h.grown hbase rfl (grownCap_ge w _ _ _) (grownCap_le_maxLen w _ _ _ (by simp only [maxLen]; omega))
   ·exact Ks.of_below ((below_drew (Below.refl _ _)).alloc (Nat.le_refl _) _) _
  ·have hsz : s.size = ys.length := by rw [← Lib.strCells_length, hsc, hlen]
   have hr := Lib.run_append_grow_string (P := P) w t u ty 5 i _ ht hu hi hz ⟨g, 0, none⟩ xs.length cap (byteCells xs) hlo holds s (by omega) (by rw [hsz]; exact h9) (by rw [hsz]; exact hfit); rw [hzc, hsz, hsc] at hr; refine ⟨_, _, w.heap.size, grownCap w (xs.length + ys.length) cap 5, hr, ?_, ?_, .inr (Nat.le_refl _)⟩
   ·exact h.grown hbase rfl (grownCap_ge w _ _ _) (grownCap_le_maxLen w _ _ _ (by simp only [maxLen]; omega))
   ·exact Ks.of_below ((below_drew (Below.refl _ _)).alloc (Nat.le_refl _) _) _
theorem wpList_append_br2 {ops : Array Oper} {rest : List Oper} {o : Oper} {a : Act} {Q : Exit → Act → World → Prop} {w : World} {base g cap : Nat} {v : Value} {xs : List Int} (hgd : o.guard = none) (sl x : Operand) (t u : TypeId)
  (ho : o.op = .call { callee := .builtin .append, args := #[sl, x], argTypes := #[t, u] }) (i : TypeInfo) (ht : P.underlying t = some (.slice 5)) (hi : P.info? 5 = some i) (hz : i.zero = some (.int .u8 0)) (h1 : i.size = 1) (hby : i.bytes = 1)
  (hs : a.eval sl = v) (h : BR w base v xs g cap) (hbase : base ≤ w.heap.size) (ys : List Int) (h63 : xs.length + ys.length ≤ 140737488355328)
  (hx : (∃ ad c, u = t ∧ a.eval x = .slice (some ad) ys.length c ∧ ∀ j v, (byteCells ys)[j]? = some v → w.cell? (ad.add j) = some v) ∨ (∃ s, P.underlying u = some .string ∧ a.eval x = .string s ∧ Lib.strCells s = byteCells ys))
  (hk : ∀ v' w' g' c', BR w' base v' (xs ++ ys) g' c' → Ks w w' (fun k => k = g) → (g' = g ∨ w.heap.size ≤ g') → wpList P ops Q rest (a.put o.dst v') w') : wpList P ops Q (o :: rest) a w := by
 obtain ⟨v', w', g', c', hr, hbr, hb, hg⟩ := run_append_br2 (P := P) t u o.type i (a.eval x) ht hi hz h1 hby h hbase h63 hx; refine Kd.event_run hgd ?_ (hk v' w' g' c' hbr hb hg); simp [execOp, ho, resolve, invoke, builtin, hs, hr]
end
structure CS (w0 : World) (db ab xb ob : Nat) (d : Bool) (arg : ByteArray) (O : Nat → Prop) (x : Int) (v : Value) (xs : List Int) (g cap : Nat) (W : World) : Prop where
 bd : W.heap[db]? = some (.cells #[.bool d] 4 (0, 0))
 ba : W.heap[ab]? = some (.cells #[.string arg] 9 (0, 0))
 bx : W.heap[xb]? = some (.cells #[.int .i64 x] 3 (0, 0))
 bo : W.heap[ob]? = some (.cells #[v] 69 (0, 0))
 br : BR W w0.heap.size v xs g cap
 gne : g ≠ db ∧ g ≠ ab ∧ g ≠ xb ∧ g ≠ ob ∧ ¬ O g
 no : ¬ O db ∧ ¬ O ab ∧ ¬ O xb ∧ ¬ O ob
 nn : w0.heap.size ≤ xb ∧ w0.heap.size ≤ ob
 hO : ∀ k, O k → w0.heap.size ≤ k
 fr : Below w0.heap.size w0 W
section
variable {w0 W W2 : World} {db ab xb ob g cap : Nat} {d : Bool} {arg : ByteArray} {O : Nat → Prop} {x : Int} {v : Value} {xs : List Int}
theorem CS.ne (h : CS w0 db ab xb ob d arg O x v xs g cap W) : db ≠ ob ∧ ab ≠ ob ∧ xb ≠ ob ∧ db ≠ xb ∧ ab ≠ xb :=
 ⟨blk_ne h.bd h.bo (by decide), blk_ne h.ba h.bo (by decide), blk_ne h.bx h.bo (by decide), blk_ne h.bd h.bx (by decide), blk_ne h.ba h.bx (by decide)⟩
theorem CS.stab (h : CS w0 db ab xb ob d arg O x v xs g cap W) (hk : Ks W W2 O) : CS w0 db ab xb ob d arg O x v xs g cap W2 :=
 ⟨hk.blk h.bd h.no.1, hk.blk h.ba h.no.2.1, hk.blk h.bx h.no.2.2.1, hk.blk h.bo h.no.2.2.2, h.br.of_blk (hk.kept.2 g h.br.lt h.gne.2.2.2.2) hk.kept.1, h.gne, h.no, h.nn, h.hO,
  ⟨hk.env.1.trans h.fr.os, hk.env.2.1.trans h.fr.tape, hk.env.2.2.trans h.fr.output, Nat.le_trans h.fr.size hk.kept.1, fun k hk2 => (hk.kept.2 k (Nat.lt_of_lt_of_le hk2 h.fr.size) (fun ho => by have := h.hO k ho; omega)).trans (h.fr.block k hk2)⟩⟩
theorem CS.below (h : CS w0 db ab xb ob d arg O x v xs g cap W) (hb : Below W.heap.size W W2) : CS w0 db ab xb ob d arg O x v xs g cap W2 := h.stab (Ks.of_below hb _)
theorem CS.cells (h : CS w0 db ab xb ob d arg O x v xs g cap W) : W.cell? ⟨db, 0, none⟩ = some (.bool d) ∧ W.cell? ⟨ab, 0, none⟩ = some (.string arg) ∧ W.cell? ⟨xb, 0, none⟩ = some (.int .i64 x) ∧ W.cell? ⟨ob, 0, none⟩ = some v ∧ W.frozen? ⟨xb, 0, none⟩ = false ∧ W.frozen? ⟨ob, 0, none⟩ = false :=
 ⟨(blk_cell h.bd 0).trans rfl, (blk_cell h.ba 0).trans rfl, (blk_cell h.bx 0).trans rfl, (blk_cell h.bo 0).trans rfl, blk_frozen h.bx 0, blk_frozen h.bo 0⟩
theorem CS.app (h : CS w0 db ab xb ob d arg O x v xs g cap W) {v2 : Value} {ys : List Int} {g2 cap2 : Nat} (hb : BR W2 w0.heap.size v2 ys g2 cap2) (hk : Ks W W2 (fun k => k = g)) (hg : g2 = g ∨ W.heap.size ≤ g2) (hO : ∀ k, O k → k < W.heap.size) :
  CS w0 db ab xb ob d arg O x v2 ys g2 cap2 (W2.setCell ⟨ob, 0, none⟩ v2) ∧ (∀ k, O k → (W2.setCell ⟨ob, 0, none⟩ v2).heap[k]? = W.heap[k]?) ∧ W.heap.size ≤ (W2.setCell ⟨ob, 0, none⟩ v2).heap.size := by
 obtain ⟨n1, n2, n3, n4, n5⟩ := h.ne; obtain ⟨e1, e2, e3, e4, e5⟩ := h.gne; have lt1 := blk_lt h.bd; have lt2 := blk_lt h.ba; have lt3 := blk_lt h.bx; have lt4 := blk_lt h.bo; have f2 : ∀ k, k < W.heap.size → k ≠ g → k ≠ ob → (W2.setCell ⟨ob, 0, none⟩ v2).heap[k]? = W.heap[k]? := fun k hk1 hk2 hk3 => (Below.heap_setCell W2 ⟨ob, 0, none⟩ v2 k hk3).trans (hk.kept.2 k hk1 hk2); have hgo : g2 ≠ ob := by rcases hg with rfl | hg <;> omega
 refine ⟨⟨(f2 db lt1 (Ne.symm e1) n1).trans h.bd, (f2 ab lt2 (Ne.symm e2) n2).trans h.ba, (f2 xb lt3 (Ne.symm e3) n3).trans h.bx, ?_, ?_, ⟨?_, ?_, ?_, hgo, ?_⟩, h.no, h.nn, h.hO, ?_⟩, fun k ho => f2 k (hO k ho) (fun e => e5 (e ▸ ho)) (fun e => h.no.2.2.2 (e ▸ ho)), ?_⟩
 ·have := (hk.kept.2 ob lt4 (Ne.symm e4)).trans h.bo; exact (blk_set this 0 v2).trans rfl
 ·exact hb.of_blk (Below.heap_setCell W2 ⟨ob, 0, none⟩ v2 g2 hgo) (by rw [World.size_setCell]; exact Nat.le_refl _)
 ·rcases hg with rfl | hg <;> omega
 ·rcases hg with rfl | hg <;> omega
 ·rcases hg with rfl | hg <;> omega
 ·rcases hg with rfl | hg
  ·exact e5
  ·exact fun ho => by have := hO _ ho; omega
 ·refine Below.setCell ⟨hk.env.1.trans h.fr.os, hk.env.2.1.trans h.fr.tape, hk.env.2.2.trans h.fr.output, Nat.le_trans h.fr.size hk.kept.1, fun k hk2 => (hk.kept.2 k (Nat.lt_of_lt_of_le hk2 h.fr.size) (fun e => by have := h.br.ge; omega)).trans (h.fr.block k hk2)⟩ (p := ⟨ob, 0, none⟩) h.nn.2 v2
 ·rw [World.size_setCell]; exact hk.kept.1
theorem CS.inc (h : CS w0 db ab xb ob d arg O x v xs g cap W) (x2 : Int) : CS w0 db ab xb ob d arg O x2 v xs g cap (W.setCell ⟨xb, 0, none⟩ (.int .i64 x2)) ∧ (∀ k, O k → (W.setCell ⟨xb, 0, none⟩ (.int .i64 x2)).heap[k]? = W.heap[k]?) ∧ W.heap.size ≤ (W.setCell ⟨xb, 0, none⟩ (.int .i64 x2)).heap.size := by
 obtain ⟨n1, n2, n3, n4, n5⟩ := h.ne; have f2 : ∀ k, k ≠ xb → (W.setCell ⟨xb, 0, none⟩ (.int .i64 x2)).heap[k]? = W.heap[k]? := fun k hk => Below.heap_setCell W ⟨xb, 0, none⟩ _ k hk; refine ⟨⟨(f2 db n4).trans h.bd, (f2 ab n5).trans h.ba, (blk_set h.bx 0 _).trans rfl, (f2 ob (Ne.symm n3)).trans h.bo, h.br.of_blk (f2 g h.gne.2.2.1) (by rw [World.size_setCell]; exact Nat.le_refl _), h.gne, h.no, h.nn, h.hO, h.fr.setCell (p := ⟨xb, 0, none⟩) h.nn.1 _⟩, fun k ho => f2 k (fun e => h.no.2.2.1 (e ▸ ho)), by rw [World.size_setCell]; exact Nat.le_refl _⟩
theorem CS.mid (h : CS w0 db ab xb ob d arg O x v xs g cap W) (hk : Ks W W2 (fun k => k = g)) : W2.cell? ⟨ob, 0, none⟩ = some v ∧ W2.frozen? ⟨ob, 0, none⟩ = false := by
 have hb := (hk.kept.2 ob (blk_lt h.bo) (Ne.symm h.gne.2.2.2.1)).trans h.bo; exact ⟨(blk_cell hb 0).trans rfl, blk_frozen hb 0⟩
end
theorem info5u : (Tryz.prog.info? 5).map (fun i => (i.zero, i.size, i.bytes)) = some (some (Value.int .u8 0), 1, 1) := by kernel_rfl
theorem info_parts' {P : Program} {t : TypeId} {z : Value} {a b : Nat} (h : (P.info? t).map (fun i => (i.zero, i.size, i.bytes)) = some (some z, a, b)) : ∃ i, P.info? t = some i ∧ i.zero = some z ∧ i.size = a ∧ i.bytes = b := by
 obtain ⟨i, hi, hz⟩ := Option.map_eq_some_iff.1 h; simp only [Prod.mk.injEq] at hz; exact ⟨i, hi, hz.1, hz.2.1, hz.2.2⟩
structure CT (w0 : World) (db ab xb ob : Nat) (d : Bool) (arg : ByteArray) (O : Nat → Prop) (acc : List Int) (W : World) : Prop where
 ex : ∃ (x : Nat) (v : Value) (g cap : Nat), CS w0 db ab xb ob d arg O (x : Int) v (91 :: acc) g cap W ∧ x ≤ acc.length ∧ (x = 0 ↔ acc = [])
def Kp (O : Nat → Prop) (W W2 : World) : Prop := (∀ k, O k → W2.heap[k]? = W.heap[k]?) ∧ W.heap.size ≤ W2.heap.size
theorem Kp.then_ {O : Nat → Prop} {a b c : World} (h : Kp O a b) (k : Kp O b c) : Kp O a c := ⟨fun i hi => (k.1 i hi).trans (h.1 i hi), Nat.le_trans h.2 k.2⟩
theorem Kp.of_below {O : Nat → Prop} {W W2 : World} (h : Below W.heap.size W W2) (hO : ∀ k, O k → k < W.heap.size) : Kp O W W2 := ⟨fun k hk => h.block k (hO k hk), h.size⟩
theorem Kp.own {O : Nat → Prop} {W W2 : World} (h : Kp O W W2) (hO : ∀ k, O k → k < W.heap.size) : ∀ k, O k → k < W2.heap.size := fun k hk => Nat.lt_of_lt_of_le (hO k hk) h.2
theorem CT.below {w0 W W2 : World} {db ab xb ob : Nat} {d : Bool} {arg : ByteArray} {O : Nat → Prop} {acc : List Int} (h : CT w0 db ab xb ob d arg O acc W) (hb : Below W.heap.size W W2) : CT w0 db ab xb ob d arg O acc W2 := by
 obtain ⟨x, v, g, cap, h1, h2⟩ := h.ex; exact ⟨x, v, g, cap, h1.below hb, h2⟩
abbrev ClPost (w0 : World) (db ab xb ob : Nat) (d : Bool) (arg : ByteArray) (O : Nat → Prop) (acc : List Int) (W : World) (x : Ending) (W' : World) : Prop := x = .returned (.bool true) ∧ CT w0 db ab xb ob d arg O acc W' ∧ Kp O W W'
theorem add_nil {acc b : List Int} (h : b = []) : addB acc b = acc := by rw [h, addB_nil]
def PcC (w0 : World) (db ab xb ob : Nat) (d : Bool) (arg : ByteArray) (O : Nat → Prop) (acc : List Int) (ty : Int) (raw : ByteArray) (b : List Int) : Prop :=
 (SolT b ∧ bytesOf raw = b ∧ (ty ≠ 5 ∨ (ty = 5 ∧ ∃ r, b = 123 :: r))) ∨
 (ty = 5 ∧ d = false ∧ ∃ x, bytesOf raw = 91 :: (x ++ [93]) ∧ ∃ v1 v2, Ws v1 ∧ Ws v2 ∧ x = v1 ++ (b ++ v2)) ∨
 (ty = 5 ∧ d = true ∧ (∃ r, bytesOf raw = 91 :: r) ∧ ∀ W, CT w0 db ab xb ob d arg O acc W → Calls Tryz.prog 26 #[.string raw, .string arg] W fun x W' => (∃ t : ByteArray, x = .returned (.string t) ∧ bytesOf t = 91 :: (b ++ [93]) ∧ t.size ≤ 65536) ∧ Below W.heap.size W W')
theorem isArr_d (ty : Int) (raw str : ByteArray) (num : Nat) (ix : Int) (w : World) (h : ty = 5 → 0 < raw.size) : Calls Tryz.prog 36 #[RV ty raw str num ix] w fun e w' => (∃ ba : Bool, e = .returned (.bool ba) ∧ (ba = true ↔ (ty = 5 ∧ bt raw 0 = 91))) ∧ Below w.heap.size w w' := by
 by_cases h5 : ty = 5
 ·subst h5; exact (isArr_c raw str num ix _ w (h rfl) rfl).mono fun e w' ⟨h1, h2⟩ => ⟨⟨_, h1, by simp⟩, h2⟩
 ·exact (isArr_no ty raw str num ix w h5).mono fun e w' ⟨h1, h2⟩ => ⟨⟨_, h1, by simp [h5]⟩, h2⟩
theorem pcc_pos {w0 : World} {db ab xb ob : Nat} {d : Bool} {arg : ByteArray} {O : Nat → Prop} {acc : List Int} {ty : Int} {raw : ByteArray} {b : List Int} (h : PcC w0 db ab xb ob d arg O acc ty raw b) : ty = 5 → 0 < raw.size := fun h5 => by
 rcases h with ⟨_, hr, h | ⟨_, r, hr2⟩⟩ | ⟨_, _, x, hx, _⟩ | ⟨_, _, ⟨r, hr⟩, _⟩
 ·exact absurd h5 h
 ·exact ct_lt (hr.trans hr2)
 ·exact ct_lt hx
 ·exact ct_lt hr
theorem ct_str {t : ByteArray} {x b v1 v2 : List Int} (h : bytesOf t = x) (h1 : Ws v1) (h2 : Ws v2) (hx : x = v1 ++ (b ++ v2)) : Ct t b := ⟨v1, v2, h1, h2, by rw [h, hx]⟩
theorem new_cell1 (w : World) (v : Value) (t : TypeId) : ∀ (j : Nat) (u : Value), [v][j]? = some u → (w.alloc (.cells #[v] t)).cell? ((⟨w.heap.size, 0, none⟩ : Addr).add j) = some u := by
 intro j u hj; rw [add0, blk_cell (t := t) (cs := #[v]) (blk_new w _)]
 simpa using hj
theorem ct_len {s : ByteArray} {b : List Int} (h : Ct s b) (hs : s.size ≤ 65536) : b.length ≤ 65536 := by
 obtain ⟨w, w', _, _, h⟩ := h; have := congrArg List.length h; rw [bytesOf_length] at this; simp at this; omega
theorem ct_self {t : ByteArray} {b : List Int} (h : bytesOf t = b) : Ct t b := ⟨[], [], ws_nil, ws_nil, by rw [h]; simp⟩
theorem cl_any (w0 : World) (db ab xb ob : Nat) (d : Bool) (arg : ByteArray) (O : Nat → Prop) (acc b : List Int) (kf : Nat) (ty : Int) (raw str : ByteArray) (num : Nat) (ix : Int) (W : World) (hT : CT w0 db ab xb ob d arg O acc W) (hO : ∀ k, O k → k < W.heap.size) (hsz : raw.size ≤ 65536) (hacc : acc.length ≤ 65536)
  (hb : b = [] ∨ SolT b) (hp : PcC w0 db ab xb ob d arg O acc ty raw b) :
  Calls Tryz.prog 41 #[RV 2 ⟨#[]⟩ ⟨#[]⟩ kf 0, RV ty raw str num ix, .pointer (some ⟨db, 0, none⟩), .pointer (some ⟨ab, 0, none⟩), .pointer (some ⟨xb, 0, none⟩), .pointer (some ⟨ob, 0, none⟩)] W (ClPost w0 db ab xb ob d arg O (addB acc b) W) := by
 have HT := sd hT; have HO := sd hO; have HSZ := sd hsz; have HAC := sd hacc; have HB := sd hb; have HP := sd hp; obtain ⟨i0, hi, hz0, hz1, hz2⟩ := info_parts' info5u; have HI0 := sd (And.intro hi (And.intro hz0 (And.intro hz1 hz2))); clear hT hO hsz hacc hb hp hi hz0 hz1 hz2; go_enter Tryz.func41, Tryz.ntmps41; go_upto_region 2 with (fail)
 have HV := sd (RB.new (W.alloc (.cells #[.int .i64 2, .string ⟨#[]⟩, .string ⟨#[]⟩, .float .f64 kf, .int .i64 0, .slice none 0 0] 64)) (.int .i64 ty) (.string raw) (.string str) (.float .f64 num) (.int .i64 ix) (.slice none 0 0)); rw [World.size_alloc] at HV; have HB1 := sd (below_alloc (below_alloc (Below.refl W.heap.size W) (.cells #[.int .i64 2, .string ⟨#[]⟩, .string ⟨#[]⟩, .float .f64 kf, .int .i64 0, .slice none 0 0] 64)) (.cells #[.int .i64 ty, .string raw, .string str, .float .f64 num, .int .i64 ix, .slice none 0 0] 64)); generalize hn : W.heap.size = n at *; generalize (W.alloc (.cells #[.int .i64 2, .string ⟨#[]⟩, .string ⟨#[]⟩, .float .f64 kf, .int .i64 0, .slice none 0 0] 64)).alloc (.cells #[.int .i64 ty, .string raw, .string str, .float .f64 num, .int .i64 ix, .slice none 0 0] 64) = w1 at *; obtain ⟨p0, p1, p2, p3, p4, p5⟩ := HV.out.cells
 go_upto_if 11 with (first | (go_at_call 36; (with_reducible refine (isArr_d ty raw str num ix _ (pcc_pos HP.out)).mono ?_); rintro e0 w2 ⟨⟨ba, rfl, hba⟩, hb⟩; have HB2 := sd (bstep hn HB1.out hb); have HV2 := sd (HV.out.below hb); clear hb))
 clear p0 p1 p2 p3 p4 p5 HV HB1; have HBA := sd hba; clear hba; go_cut [9] (fun v wc => ∃ t : ByteArray, v = .string t ∧ Aside0 (Ct t b ∧ t.size ≤ 65536) ∧ Aside0 (Below n W wc))
 case first =>
  have q1 := HV2.out.cells.2.1; have HT2 := sd (CT.below HT.out (by rw [hn]; exact HB2.out)); obtain ⟨q2, q3⟩ : w2.cell? ⟨db, 0, none⟩ = some (.bool d) ∧ w2.cell? ⟨ab, 0, none⟩ = some (.string arg) := by obtain ⟨xx, vv, gg, cc, hcs, _⟩ := HT2.out.ex; exact ⟨hcs.cells.1, hcs.cells.2.1⟩
  rcases HP.out with ⟨hs, hr, h5 | ⟨h5, r, hr2⟩⟩ | ⟨h5, hd, x, hx, v1, v2, g1, g2, g3⟩ | ⟨h5, hd, ⟨r, hr⟩, hrec⟩
  ·skip
   have HD := sd (ct_self hr); have hb2 : ba = false := by cases hbb : ba with | false => rfl | true => exact absurd (HBA.out.1 hbb).1 h5
   subst hb2; clear h5 hr hs HBA; go_wp2; go_meet
   case rel => exact ⟨raw, rfl, ⟨HD.out, HSZ.out⟩, HB2⟩
  ·skip
   have HD := sd (ct_self hr); have hb2 : ba = false := by cases hbb : ba with | false => rfl | true => have h9 := (HBA.out.1 hbb).2; rw [ct_first (hr.trans hr2)] at h9; exact absurd h9 (by decide)
   subst hb2; clear hr hs hr2 h5 HBA; go_wp2; go_meet
   case rel => exact ⟨raw, rfl, ⟨HD.out, HSZ.out⟩, HB2⟩
  ·skip
   subst hd; have HX := sd hx; have HG := sd (And.intro g1 (And.intro g2 g3)); have hb2 : ba = true := HBA.out.2 ⟨h5, ct_first hx⟩; subst hb2; clear hx g1 g2 g3 h5 HBA; go_wp2_with (first | (go_at_call 42; (with_reducible refine (unwrap_c raw HSZ.out x HX.out _).mono ?_); rintro e0 w3 ⟨⟨t, rfl, ht, htz⟩, rfl⟩)); go_meet
   case rel => exact ⟨t, rfl, ⟨ct_str ht HG.out.1 HG.out.2.1 HG.out.2.2, Nat.le_trans htz HSZ.out⟩, HB2⟩
  ·skip
   subst hd; have HX := sd hr; have HREC := sd hrec; have hb2 : ba = true := HBA.out.2 ⟨h5, ct_first hr⟩; subst hb2; clear hr hrec h5 HBA; go_wp2_with (first | (go_at_call 26; (with_reducible refine (HREC.out _ HT2.out).mono ?_); rintro e0 w3 ⟨⟨u, rfl, hu, huz⟩, hb⟩; have HB3 := sd (bstep hn HB2.out hb); have HUU := sd hu; have HUZ := sd huz; clear hb hu huz) | (go_at_call 42; (with_reducible refine (unwrap_c u HUZ.out b HUU.out _).mono ?_); rintro e0 w4 ⟨⟨t, rfl, ht, htz⟩, rfl⟩)); go_meet
   case rel => exact ⟨t, rfl, ⟨ct_self ht, Nat.le_trans htz HUZ.out⟩, HB3⟩
 case rest =>
  clear HV2 HB2 HP HBA; obtain ⟨t, rfl, HC, HB1⟩ := hcut; have HT2 := sd (CT.below HT.out (by rw [hn]; exact HB1.out)); obtain ⟨x, v, g, cap, hcs, hx, hx0⟩ := HT2.out.ex; have HCS := sd hcs; have HX := sd (And.intro hx hx0); clear hcs hx hx0; obtain ⟨c0, c1, c2, c3, c4, c5⟩ := HCS.out.cells
  by_cases hbe : b = []
  ·--[ra
   go_wp2_with (first | (go_at_call 43; (with_reducible refine (tsp t HC.out.2 b HB.out HC.out.1 _).mono ?_); rintro e0 w3 ⟨⟨t2, rfl, ht2⟩, rfl⟩; obtain ⟨z1, z2⟩ := len_zero (s := t2) (by rw [← bytesOf_length, ht2, hbe]; rfl))); go_ret; exact ⟨rfl, by rw [add_nil hbe]; exact HT2.out, Kp.of_below (by rw [hn]; exact HB1.out) (by rw [hn]; exact HO.out)⟩
  ·have HBN := sd (HB.out.resolve_left hbe); have HBE := sd hbe; clear hbe; have HK1 := sd (show Kp O W wc from Kp.of_below (by rw [hn]; exact HB1.out) (by rw [hn]; exact HO.out)); have HO1 := sd (show ∀ k, O k → k < wc.heap.size from HK1.out.own (by rw [hn]; exact HO.out)); go_upto_region 9 with (first | (go_at_call 43; (with_reducible refine (tsp t HC.out.2 b HB.out HC.out.1 _).mono ?_); rintro e0 w3 ⟨⟨t2, rfl, ht2⟩, rfl⟩; have HT3 := sd ht2; obtain ⟨z1, z2, z3, z4⟩ := len_facts (s := t2) (by rw [← bytesOf_length, ht2]; exact List.length_pos_iff.mpr HBE.out); clear ht2))
   have HL := sd (show b.length ≤ 65536 from ct_len HC.out.1 HC.out.2); clear z1 z2 z3 z4
   by_cases hx0 : x = 0
   ·skip
    have hac : acc = [] := HX.out.2.1 hx0; have y1 : decide ((0 : Int) < (x : Int)) = false := decide_eq_false (by omega); have y2 : decide (0 < x) = false := decide_eq_false (by omega); have HAC0 := sd (And.intro hac hx0); clear hac hx0; have HBS := sd HCS.out.fr.size; have H63 := sd (show (91 :: acc).length + (bytesOf t2).length ≤ 140737488355328 from by have := HL.out; have := HAC.out; rw [HT3.out]; simp only [List.length_cons]; omega); go_upto_region 12 with (first | (at_builtin; refine wpList_append_br2 rfl _ _ 69 9 rfl i0 Tryz.underlying69 HI0.out.1 HI0.out.2.1 HI0.out.2.2.1 HI0.out.2.2.2 rfl HCS.out.br HBS.out (bytesOf t2) H63.out (.inr ⟨t2, Tryz.underlying9, rfl, strCells_bytes _⟩) ?_; intro v2 w4 g2 cp2 hbr hks hgg; obtain ⟨L, rfl⟩ := hbr.sl; have HAP := sd (HCS.out.app hbr hks hgg HO1.out); obtain ⟨m1, m2⟩ := HCS.out.mid hks; clear hbr hks hgg))
    clear c0 c1 c2 c3 c4 c5 m1 m2; generalize w4.setCell ⟨ob, 0, none⟩ (.slice (some ⟨g2, 0, none⟩) L cp2) = w5 at *; have HC5 := sd HAP.out.1; have HK5 := sd (HK1.out.then_ HAP.out.2); obtain ⟨c0, c1, c2, c3, c4, c5⟩ := HC5.out.cells; obtain ⟨xn, hxn⟩ : ∃ xn, xn = x + 1 := ⟨_, rfl⟩
    have HXN := sd hxn; have z1 : wrap64 ((x : Int) + 1) = (xn : Int) := by rw [w64_1 (by have := HX.out.1; have := HAC.out; omega), ← hxn]
    clear hxn HAP; go_wp2; have HF := sd (HC5.out.inc (xn : Int)); go_ret; refine ⟨rfl, ⟨xn, .slice (some ⟨g2, 0, none⟩) L cp2, g2, cp2, ?_, ?_, ?_⟩, ?_⟩
    ·have h1 := HF.out.1; rw [HT3.out] at h1; rw [HAC0.out.1, nil_addB]; rw [HAC0.out.1] at h1; exact h1
    ·rw [HAC0.out.1, nil_addB, HXN.out, HAC0.out.2]; exact List.length_pos_iff.mpr HBE.out
    ·rw [HAC0.out.1, nil_addB, HXN.out]; exact ⟨fun h => absurd h (by omega), fun h => absurd h HBE.out⟩
    ·exact HK5.out.then_ HF.out.2
   ·skip
    have hac : acc ≠ [] := fun e => hx0 (HX.out.2.2 e); have y1 : decide ((0 : Int) < (x : Int)) = true := decide_eq_true (by omega); have y2 : decide (0 < x) = true := decide_eq_true (by omega); have HAC0 := sd hac; clear hac hx0; have HA0 := sd (below_alloc (Below.refl wc.heap.size wc) (.cells #[.int .u8 44] 5)); have HC0 := sd (HCS.out.below HA0.out); have HK0 := sd (HK1.out.then_ (Kp.of_below HA0.out HO1.out)); have HO0 := sd (HK0.out.own (by rw [hn]; exact HO.out)); have HBS := sd HC0.out.fr.size; have H63 := sd (show (91 :: acc).length + [(44 : Int)].length ≤ 140737488355328 from by have := HAC.out; simp only [List.length_cons, List.length_nil]; omega)
    go_upto_region 11 with (first | (at_builtin; refine wpList_append_br2 rfl _ _ 69 69 rfl i0 Tryz.underlying69 HI0.out.1 HI0.out.2.1 HI0.out.2.2.1 HI0.out.2.2.2 rfl HC0.out.br HBS.out [44] H63.out (.inl ⟨⟨_, 0, none⟩, 1, rfl, rfl, new_cell1 _ _ _⟩) ?_; intro v1 w4 g1 cp1 hbr hks hgg; obtain ⟨L1, rfl⟩ := hbr.sl; have HAP := sd (HC0.out.app hbr hks hgg HO0.out); obtain ⟨m1, m2⟩ := HC0.out.mid hks; clear hbr hks hgg))
    clear c0 c1 c2 c3 c4 c5 m1 m2; generalize w4.setCell ⟨ob, 0, none⟩ (.slice (some ⟨g1, 0, none⟩) L1 cp1) = w5 at *; have HC5 := sd HAP.out.1; have HK5 := sd (HK0.out.then_ HAP.out.2); have HO5 := sd (HK5.out.own (by rw [hn]; exact HO.out)); clear HAP HC0 HCS HBS H63 HK0 HO0 HA0; obtain ⟨c0, c1, c2, c3, c4, c5⟩ := HC5.out.cells; have HBS := sd HC5.out.fr.size; have H63 := sd (show (91 :: acc ++ [(44 : Int)]).length + (bytesOf t2).length ≤ 140737488355328 from by have := HL.out; have := HAC.out; rw [HT3.out]; simp only [List.length_cons, List.length_append, List.length_nil]; omega)
    go_upto_region 12 with (first | (at_builtin; refine wpList_append_br2 rfl _ _ 69 9 rfl i0 Tryz.underlying69 HI0.out.1 HI0.out.2.1 HI0.out.2.2.1 HI0.out.2.2.2 rfl HC5.out.br HBS.out (bytesOf t2) H63.out (.inr ⟨t2, Tryz.underlying9, rfl, strCells_bytes _⟩) ?_; intro v2 w6 g2 cp2 hbr hks hgg; obtain ⟨L, rfl⟩ := hbr.sl; have HAP := sd (HC5.out.app hbr hks hgg HO5.out); obtain ⟨m1, m2⟩ := HC5.out.mid hks; clear hbr hks hgg))
    clear c0 c1 c2 c3 c4 c5 m1 m2; generalize w6.setCell ⟨ob, 0, none⟩ (.slice (some ⟨g2, 0, none⟩) L cp2) = w7 at *; have HC7 := sd HAP.out.1; have HK7 := sd (HK5.out.then_ HAP.out.2); obtain ⟨c0, c1, c2, c3, c4, c5⟩ := HC7.out.cells; obtain ⟨xn, hxn⟩ : ∃ xn, xn = x + 1 := ⟨_, rfl⟩
    have HXN := sd hxn; have z1 : wrap64 ((x : Int) + 1) = (xn : Int) := by rw [w64_1 (by have := HX.out.1; have := HAC.out; omega), ← hxn]
    clear hxn HAP HC5 HBS H63; go_wp2; have HF := sd (HC7.out.inc (xn : Int)); have HAD := sd (show addB acc b = acc ++ 44 :: b from by unfold addB; rw [if_neg HBE.out, if_neg HAC0.out]); go_ret; refine ⟨rfl, ⟨xn, .slice (some ⟨g2, 0, none⟩) L cp2, g2, cp2, ?_, ?_, ?_⟩, ?_⟩
    ·have h1 := HF.out.1; rw [HT3.out] at h1; rw [HAD.out]; have e1 : (91 :: acc ++ [(44 : Int)]) ++ b = 91 :: (acc ++ 44 :: b) := by simp
     rw [e1] at h1; exact h1
    ·rw [HAD.out, HXN.out]; have := HX.out.1; simp; omega
    ·rw [HAD.out, HXN.out]; exact ⟨fun h => absurd h (by omega), fun h => absurd h (by simp)⟩
    ·exact HK7.out.then_ HF.out.2
end Go.Proofs.YtdacgdjjdifneaaGreatDoor.PFnGjFlattenOften
