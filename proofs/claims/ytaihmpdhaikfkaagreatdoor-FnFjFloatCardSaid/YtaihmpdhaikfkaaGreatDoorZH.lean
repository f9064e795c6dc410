/- Part of the proof that laws.FnFjFloat answers true for every input (the card: text ZF). -/
import Derived.Test.YtaihmpdhaikfkaaGreatDoorZG
import Derived.Test.YtaihmpdhaikfkaaGreatDoorZE
import Derived.StillTailTactics
import Derived.Outline
set_option linter.all false
/- Value.Type, and Value.Float64 of what is no number. -/
namespace Go.Proofs.YtaihmpdhaikfkaaGreatDoor.PFnFjFloat
open Go.RowKit Go.Proofs.YtaihmpdhaikfkaaGreatDoorW.PrintWords Go.Proofs.YtaihmpdhaikfkaaGreatDoorW.PrintLast Go.Proofs.YtaihmpdhaikfkaaGreatDoorW.PrintMore
/-- Nothing changes but a Value's block. -/
structure Kq (w w' : World) (vb : Nat) : Prop where
 env : Env w w'
 size : w.heap.size ≤ w'.heap.size
 blk : ∀ k, k < w.heap.size → k ≠ vb → w'.heap[k]? = w.heap[k]?
theorem Kq.refl (w : World) (vb : Nat) : Kq w w vb := ⟨Env.refl w, Nat.le_refl _, fun _ _ _ => rfl⟩
theorem Kq.then_ {a b c : World} {vb : Nat} (h : Kq a b vb) (k : Kq b c vb) : Kq a c vb :=
 ⟨h.env.then_ k.env, Nat.le_trans h.size k.size, fun i hi hn => (k.blk i (Nat.lt_of_lt_of_le hi h.size) hn).trans (h.blk i hi hn)⟩
theorem Kq.of_below {w w' : World} (vb : Nat) (h : Below w.heap.size w w') : Kq w w' vb := ⟨Env.of_below h, h.size, fun k hk _ => h.block k hk⟩
theorem Kq.set {w w' : World} {vb : Nat} (h : Kq w w' vb) (o : Nat) (u : Value) : Kq w (w'.setCell ⟨vb, o, none⟩ u) vb :=
 ⟨h.env, by rw [World.size_setCell]; exact h.size, fun k hk hn => by
  rw [← h.blk k hk hn]
  exact Below.heap_setCell w' _ u k hn⟩
theorem Kq.below {B : Nat} {w w1 w2 : World} {vb : Nat} (h : Below B w w1) (k : Kq w1 w2 vb) (hB : B ≤ w.heap.size) (hv : B ≤ vb) : Below B w w2 :=
 ⟨k.env.1.trans h.os, k.env.2.1.trans h.tape, k.env.2.2.trans h.output, Nat.le_trans h.size k.size, fun i hi => (k.blk i (Nat.lt_of_lt_of_le (Nat.lt_of_lt_of_le hi hB) h.size) (by omega)).trans (h.block i hi)⟩
/-- A Value as Type and Float64 look at it. -/
structure Va (w : World) (vb vo : Nat) (t : Int) (ss : ByteArray) : Prop where
 k4 : w.cell? ⟨vb, vo + 4, none⟩ = some (.int .i64 t)
 f4 : w.frozen? ⟨vb, vo + 4, none⟩ = false
 k3 : w.cell? ⟨vb, vo + 3, none⟩ = some (.string ss)
 f3 : w.frozen? ⟨vb, vo + 3, none⟩ = false
 blk : ∃ cur, w.heap[vb]? = some (.cells cur 86 (0, 0))
theorem Va.below {w w' : World} {vb vo : Nat} {t : Int} {ss : ByteArray} (h : Va w vb vo t ss) (hb : Below w.heap.size w w') : Va w' vb vo t ss := by
 obtain ⟨cur, hc⟩ := h.blk
 have hc' := blk_below hc hb
 exact ⟨by rw [blk_cell hc', ← blk_cell hc]; exact h.k4, blk_frozen hc' _, by rw [blk_cell hc', ← blk_cell hc]; exact h.k3, blk_frozen hc' _, cur, hc'⟩
theorem ne_b {t k : Int} (h : t ≠ k) : (t == k) = false := beq_eq_false_iff_ne.mpr h
set_option maxHeartbeats 4000000 in
set_option maxRecDepth 100000 in
theorem type_same (w : World) (vb vo : Nat) (t : Int) (ss : ByteArray) (h : Va w vb vo t ss) (h7 : (t == 7) = false) : Calls Tryz.prog 33 #[.pointer (some ⟨vb, vo, none⟩)] w fun e w' => e = .returned (.int .i64 t) ∧ w' = w := by
 obtain ⟨k4, f4, k3, f3, _⟩ := h
 go_enter Tryz.func33, Tryz.ntmps33
 go_wp2
 go_ret
 exact ⟨rfl, rfl⟩
set_option maxHeartbeats 4000000 in
set_option maxRecDepth 100000 in
theorem type_raw (w : World) (vb vo : Nat) (ss : ByteArray) (h : Va w vb vo 7 ss) (hs : ss.size < 2 ^ 30) (hE : EvW w) : Calls Tryz.prog 33 #[.pointer (some ⟨vb, vo, none⟩)] w fun e w' => e = .returned (.int .i64 3) ∧ Kq w w' vb := by
 have H := sd h
 have HS := sd hs
 have HE := sd hE
 obtain ⟨k4, f4, k3, f3, _⟩ := h
 clear hs hE
 go_enter Tryz.func33, Tryz.ntmps33
 go_wp2_with (first | (go_at_call 51; (with_reducible refine (unesc ss HS.out _ HE.out).mono ?_); rintro e0 W ⟨⟨r, rfl⟩, hb⟩; have HB := sd hb; clear k4 f4 k3 f3; obtain ⟨k4, f4, k3, f3, _⟩ := H.out.below hb; clear hb))
 go_ret
 exact ⟨rfl, ((Kq.of_below vb HB.out).set _ _).set _ _⟩
theorem type_any (w : World) (vb vo : Nat) (t : Int) (ss : ByteArray) (h : Va w vb vo t ss) (h4 : t ≠ 4) (hs : ss.size < 2 ^ 30) (hE : EvW w) : Calls Tryz.prog 33 #[.pointer (some ⟨vb, vo, none⟩)] w fun e w' => ∃ t' : Int, e = .returned (.int .i64 t') ∧ (t' != 4) = true ∧ Kq w w' vb := by
 by_cases h7 : t = 7
 ·subst h7
  exact (type_raw w vb vo ss h hs hE).mono fun e w' ⟨h1, h2⟩ => ⟨3, h1, by decide, h2⟩
 ·exact (type_same w vb vo t ss h (ne_b h7)).mono fun e w' ⟨h1, h2⟩ => ⟨t, h1, bne_iff_ne.mpr h4, by rw [h2]; exact Kq.refl w vb⟩
set_option maxHeartbeats 4000000 in
set_option maxRecDepth 100000 in
theorem float_not (w : World) (vb vo : Nat) (t : Int) (ss : ByteArray) (h : Va w vb vo t ss) (h4 : t ≠ 4) (hs : ss.size < 2 ^ 30) (hE : EvW w) : Calls Tryz.prog 17 #[.pointer (some ⟨vb, vo, none⟩)] w fun e w' => ∃ (fl : Value) (ea : Addr), e = .returned (.tuple #[fl, .iface 101 (.pointer (some ea))]) ∧ Kq w w' vb := by
 have H := sd h
 have HS := sd hs
 have HE := sd hE
 clear hs hE h
 go_enter Tryz.func17, Tryz.ntmps17
 go_wp2_with (first | (go_at_call 33; (with_reducible refine (type_any _ vb vo t ss H.out h4 HS.out HE.out).mono ?_); rintro e0 W ⟨t', rfl, hn, hk⟩; have HK := sd hk; clear hk) | (go_at_call 32; (with_reducible refine (err_new _ _).mono ?_); rintro e0 W2 ⟨ea, rfl, hb⟩; have RE := sd (HK.out.then_ (Kq.of_below vb hb)); clear hb))
 go_ret2
 exact ⟨_, _, rfl, RE.out⟩
set_option maxHeartbeats 4000000 in
set_option maxRecDepth 100000 in
theorem reset29 (w : World) (pb : Nat) (hc : w.cell? ⟨pb, 1, none⟩ = some (.slice none 0 0)) (hf : w.frozen? ⟨pb, 1, none⟩ = false) :
  Calls Tryz.prog 29 #[.pointer (some ⟨pb, 1, none⟩)] w fun e w' => e = .returned (.tuple #[]) ∧ w'.heap = (w.setCell ⟨pb, 1, none⟩ (.slice none 0 0)).heap ∧ Env w w' := by
 go_enter Tryz.func29, Tryz.ntmps29
 go_wp2
 go_loop [10] (fun v => v = .int .i64 0) (fun _ => 0)
 case atStart => rfl
 case round =>
  obtain rfl := hrel
  go_wp2
  go_end0
  exact ⟨rfl, rfl, rfl, rfl, rfl⟩
section
variable {w W W2 : World} {base g cap : Nat} {v : Value} {xs : List Int}
theorem BR.fresh {W' : World} {c : Nat} (hW : W'.heap = (w.alloc (.cells ((byteCells xs).toArray ++ Builtin.zeroCells #[.int .u8 0] (c - xs.length)) 5)).heap) (hc : xs.length ≤ c) (hm : c ≤ maxLen) :
  BR W' w.heap.size (.slice (some ⟨w.heap.size, 0, none⟩) xs.length c) xs w.heap.size c := by
 have hk := blk_new w (.cells ((byteCells xs).toArray ++ Builtin.zeroCells #[.int .u8 0] (c - xs.length)) 5)
 rw [← hW] at hk
 have hz : (Builtin.zeroCells #[.int .u8 0] (c - xs.length)).size = c - xs.length := by rw [size_zeroCells]; show _ * 1 = _; omega
 have hsz : ((byteCells xs).toArray ++ Builtin.zeroCells #[.int .u8 0] (c - xs.length)).size = c := by
  rw [Array.size_append, hz, List.size_toArray, byteCells_length]; omega
 refine ⟨rfl, Nat.le_refl _, blk_lt hk, hc, hm, fun j hj => ?_, fun j u hu => ?_⟩
 ·rw [blk_cell hk]
  exact ⟨by rw [Array.getElem?_eq_getElem (by rw [hsz]; exact hj)]; rfl, blk_frozen hk j⟩
 ·rw [blk_cell hk]
  have hj := (List.getElem?_eq_some_iff.1 hu).1
  rw [Array.getElem?_append_left (by rw [List.size_toArray]; exact hj), List.getElem?_toArray]
  exact hu
theorem run_nil_str {P : Program} (t u ty : TypeId) (i : TypeInfo) (ht : P.underlying t = some (.slice 5)) (hu : P.underlying u = some .string) (hi : P.info? 5 = some i) (hz : i.zero = some (.int .u8 0)) (h1 : i.bytes = 1)
  (s : ByteArray) (h0 : 0 < s.size) (hs : s.size < 2 ^ 30) : ∃ w', (Builtin.append_ #[t, u] ty #[.slice none 0 0, .string s]).run P w = .ok (.slice (some ⟨w.heap.size, 0, none⟩) s.size (grownCap w s.size 0 5)) w' ∧
   BR w' w.heap.size (.slice (some ⟨w.heap.size, 0, none⟩) s.size (grownCap w s.size 0 5)) (bytesOf s) w.heap.size (grownCap w s.size 0 5) ∧ Below w.heap.size w w' := by
 have hr := run_append_nil_string (P := P) (w := w) t u ty 5 i _ ht hu hi hz s h0 (by omega) (by rw [h1]; omega)
 refine ⟨_, hr, ?_, ?_⟩
 ·have hl := bytesOf_length s
  have := BR.fresh (w := w) (xs := bytesOf s) (c := grownCap w s.size 0 5) (W' := w.drew.alloc (.cells (s.data.map (fun b => Value.int .u8 b.toNat) ++ Builtin.zeroCells (Value.int .u8 0).cells (grownCap w s.size 0 5 - s.size)) 5)) (by
    rw [hl, ← strCells_bytes]
    show _ = (w.heap.push _)
    show w.heap.push _ = w.heap.push _
    refine congrArg (fun x => w.heap.push (.cells (x ++ _) 5 (0, 0))) (Array.ext' ?_)
    simp [Lib.strCells]) (by rw [hl]; exact grownCap_ge w _ _ _) (grownCap_le_maxLen w _ _ _ (by simp only [maxLen]; omega))
  rw [hl] at this
  exact this
 ·exact (below_drew (Below.refl _ _)).alloc (Nat.le_refl _) _
theorem wpList_nil_str {P : Program} {ops : Array Oper} {rest : List Oper} {o : Oper} {a : Act} {Q : Exit → Act → World → Prop} (hgd : o.guard = none) (sl x : Operand) (t u : TypeId)
  (ho : o.op = .call { callee := .builtin .append, args := #[sl, x], argTypes := #[t, u] }) (i : TypeInfo) (ht : P.underlying t = some (.slice 5)) (hu : P.underlying u = some .string) (hi : P.info? 5 = some i) (hz : i.zero = some (.int .u8 0)) (h1 : i.bytes = 1)
  (hs : a.eval sl = .slice none 0 0) (s : ByteArray) (hx : a.eval x = .string s) (h0 : 0 < s.size) (h30 : s.size < 2 ^ 30)
  (hk : ∀ g c w', BR w' w.heap.size (.slice (some ⟨g, 0, none⟩) s.size c) (bytesOf s) g c → Below w.heap.size w w' → wpList P ops Q rest (a.put o.dst (.slice (some ⟨g, 0, none⟩) s.size c)) w') : wpList P ops Q (o :: rest) a w := by
 obtain ⟨w', hr, hbr, hb⟩ := run_nil_str (P := P) (w := w) t u o.type i ht hu hi hz h1 s h0 h30
 refine Kd.event_run hgd ?_ (hk _ _ w' hbr hb)
 simp [execOp, ho, resolve, invoke, builtin, hs, hx, hr]
end
/-- The parser's block. -/
structure Pb (w : World) (pb : Nat) (b : Value) : Prop where
 hp : w.heap[pb]? = some (.cells #[b, .slice none 0 0] 45 (0, 0))
section
variable {w W W2 : World} {pb : Nat} {b : Value}
theorem Pb.c0 (h : Pb w pb b) : w.cell? ⟨pb, 0, none⟩ = some b ∧ w.frozen? ⟨pb, 0, none⟩ = false ∧ w.cell? ⟨pb, 1, none⟩ = some (.slice none 0 0) ∧ w.frozen? ⟨pb, 1, none⟩ = false :=
 ⟨(blk_cell h.hp 0).trans rfl, blk_frozen h.hp _, (blk_cell h.hp 1).trans rfl, blk_frozen h.hp _⟩
theorem Pb.below (h : Pb w pb b) (hb : Below w.heap.size w W) : Pb W pb b := ⟨blk_below h.hp hb⟩
theorem Pb.set (h : Pb w pb b) (u : Value) : Pb (w.setCell ⟨pb, 0, none⟩ u) pb u := ⟨blk_set h.hp 0 u⟩
theorem Pb.reset (h : Pb w pb b) (e : W.heap = (w.setCell ⟨pb, 1, none⟩ (.slice none 0 0)).heap) : Pb W pb b := ⟨by rw [e]; exact blk_set h.hp 1 _⟩
theorem Pb.st (h : Pb w pb b) : St w pb b none 0 0 := ⟨h.hp, .inl ⟨rfl, rfl, rfl⟩⟩
theorem Fr.setpb (h : Fr w W pb none 0) (o : Nat) (u : Value) : Fr w (W.setCell ⟨pb, o, none⟩ u) pb none 0 :=
 ⟨h.env, by rw [World.size_setCell]; exact h.size, fun k hk hp hB => by
  rw [← h.blk k hk hp hB]
  exact Below.heap_setCell W _ u k hp, fun b cur e _ => by cases e⟩
theorem Fr.of_heap (h : Fr w W pb none 0) (e : W2.heap = W.heap) (he : Env W W2) : Fr w W2 pb none 0 :=
 ⟨h.env.then_ he, by rw [e]; exact h.size, fun k hk hp hB => by rw [e]; exact h.blk k hk hp hB, fun b cur e _ => by cases e⟩
theorem Fr.next (h : Fr w W pb none 0) (hb : Below W.heap.size W W2) : Fr w W2 pb none 0 := h.below hb (fun b e => by cases e)
theorem Fr.then0 (h : Fr w W pb none 0) (k : Fr W W2 pb none 0) : Fr w W2 pb none 0 := h.trans (Up.refl _ _ _) k (fun b e => by cases e)
end
theorem BR.of_blk {w W2 : World} {base g cap : Nat} {v : Value} {xs : List Int} (h : BR w base v xs g cap) (e : W2.heap[g]? = w.heap[g]?) (hz : w.heap.size ≤ W2.heap.size) : BR W2 base v xs g cap :=
 ⟨h.val, h.ge, Nat.lt_of_lt_of_le h.lt hz, h.le, h.max, fun j hj => by
  have := h.there j hj
  simp only [World.cell?, World.frozen?, e] at this ⊢
  exact this, fun j v hv => by
  have := h.cell j v hv
  simp only [World.cell?, e] at this ⊢
  exact this⟩
theorem pb_ne {w : World} {pb g : Nat} {b : Value} (h : Pb w pb b) (hg : w.heap.size ≤ g) : g ≠ pb := by
 have := blk_lt h.hp
 omega
theorem str_bytes (r : ByteArray) : strOfNums (bytesOf r) = r := by
 have h : (strOfNums (bytesOf r)).data = r.data := by
  refine Array.ext' ?_
  rw [strOfNums_data, bytesOf, List.map_map]
  have : ((fun n : Int => UInt8.ofNat n.toNat) ∘ fun b : UInt8 => (b.toNat : Int)) = id := by
   funext b
   simp
  rw [this, List.map_id]
 cases r
 exact congrArg ByteArray.mk h
theorem b2s_r {W4 W : World} {r : ByteArray} {v : Value} {base g cap : Nat} (h : BR W4 base v (bytesOf r) g cap) (e : W.heap = W4.heap) : Calls Tryz.prog 31 #[v] W fun e w' => e = .returned (.string r) ∧ Below W.heap.size W w' := by
 have hv := h.val
 subst hv
 exact (fastjson_b2s.calls _ _ _ _ W (h.of_blk (W2 := W) (by rw [e]) (by rw [e]; exact Nat.le_refl _)).reads h.le (by show some _ = some _; rw [str_bytes])).mono fun e w' ⟨a, b⟩ => ⟨a, b.below⟩
theorem drawn_step {w W W2 : World} (hb : Below W.heap.size W W2) (k : Nat) (e : w.drewN k = W) : Below w.heap.size w W2 := by
 subst e
 exact below_step (below_draws (Below.refl _ _) k) hb
theorem heap_drew (w : World) : w.drew.heap = w.heap := rfl
theorem drew_step {w W2 : World} (hb : Below w.drew.heap.size w.drew W2) : Below w.heap.size w W2 := below_step (below_drew (Below.refl _ _)) hb
/-- The text begins as a number does. -/
def HN (r : ByteArray) : Prop := (bt r 0 == 123) = false ∧ (bt r 0 == 91) = false ∧ (bt r 0 == 34) = false ∧ (bt r 0 == 116) = false ∧ (bt r 0 == 102) = false ∧ (bt r 0 == 110) = false
/-- Its first k bytes are a number, the rest blanks. -/
def NumTop (r : ByteArray) (k : Nat) : Prop := HN r ∧ NumRun r k ∧ Whole r k ∧ Ws ((bytesOf r).drop k)
def TopP (r : ByteArray) (w : World) (pb : Nat) (bs : Value) (e : Ending) (w' : World) : Prop := Fr w w' pb none 0 ∧
 ((∃ (vb vo : Nat) (tail : ByteArray) (t : Int) (ss : ByteArray), e = .returned (.tuple #[.pointer (some ⟨vb, vo, none⟩), .string tail, .nilIface]) ∧ tail.size ≤ r.size ∧ Va w' vb vo t ss ∧ ss.size ≤ r.size ∧ TV r t ∧ (∀ k, NumTop r k → t = 4 ∧ bytesOf ss = (bytesOf r).take k ∧ bytesOf tail = (bytesOf r).drop k) ∧ w.heap.size ≤ vb) ∨
  ((∃ (a : ByteArray) (ea : Addr), e = .returned (.tuple #[.pointer none, .string a, .iface 101 (.pointer (some ea))])) ∧ ∀ k, ¬ NumTop r k))
theorem va_of {w : World} {pb n vb vo : Nat} {B : Option Nat} {t : Int} {ss : ByteArray} (hl : Loc w pb B n vb vo) (h4 : w.cell? ⟨vb, vo + 4, none⟩ = some (.int .i64 t)) (h3 : w.cell? ⟨vb, vo + 3, none⟩ = some (.string ss)) : Va w vb vo t ss := by
 obtain ⟨cur, hc, _⟩ := hl.blk
 exact ⟨h4, (hl.cell 4 (by omega)).2, h3, (hl.cell 3 (by omega)).2, cur, hc⟩
theorem newL_ge {w : World} {n vb vo : Nat} (h : NewL w none n vb vo) : w.heap.size ≤ vb := by
 rcases h with h | ⟨h, _⟩
 ·exact h
 ·cases h
theorem topV (r : ByteArray) (hr : r.size < 2 ^ 30) (h0 : 0 < r.size) (w : World) (pb : Nat) (bs : Value) (hS : St w pb bs none 0 0) :
  Calls Tryz.prog 30 #[.pointer (some ⟨pb, 1, none⟩), .string r, .int .i64 0] w (TopP r w pb bs) := by
 by_cases hn : HN r
 ·obtain ⟨c0, c1, c2, c3, c4, c5⟩ := hn
  refine (pv_num_case pb bs r w none 0 0 0 hS (way_of r 0 h0 (by omega) (by omega)) h0 (by omega) c0 c1 c2 c3 c4 c5).mono fun e w' ⟨⟨hf, hp⟩, hv⟩ => ⟨hf, ?_⟩
  rcases hp with ⟨vb, vo, tail, B', n', m', rfl, ht, hnt, hr, hl, t, ss, k4, k3, hss, hT, hnew⟩ | ⟨a, ea, rfl⟩
  ·refine .inl ⟨vb, vo, tail, t, ss, rfl, by omega, va_of hl k4 k3, hss, hT, fun k hk => ?_, newL_ge hnew⟩
   obtain ⟨vb', vo', x, tl, he, q4, q3, qx, qt⟩ := hv k hk.2.1 hk.2.2.1
   simp only [Ending.returned.injEq, Value.tuple.injEq] at he
   have he2 := congrArg Array.toList he
   simp only [List.cons.injEq, Value.pointer.injEq, Option.some.injEq, Addr.mk.injEq, Value.string.injEq] at he2
   obtain ⟨⟨rfl, rfl, _⟩, rfl, _⟩ := he2
   rw [k4] at q4
   rw [k3] at q3
   simp only [Option.some.injEq, Value.int.injEq, Value.string.injEq] at q4 q3
   subst q3
   exact ⟨q4.2, qx, qt⟩
  ·refine .inr ⟨⟨a, ea, rfl⟩, fun k hk => ?_⟩
   obtain ⟨vb', vo', x, tl, he, _⟩ := hv k hk.2.1 hk.2.2.1
   simp only [Ending.returned.injEq, Value.tuple.injEq] at he
   have he2 := congrArg Array.toList he
   simp at he2
 ·refine ((pv_all pb bs r.size).use r w none 0 0 0 (Nat.le_refl _) hS (by omega) (by omega) (by omega)).mono fun e w' ⟨hf, hp⟩ => ⟨hf, ?_⟩
  rcases hp with ⟨vb, vo, tail, B', n', m', rfl, ht, hnt, hr, hl, t, ss, k4, k3, hss, hT, hnew⟩ | ⟨a, ea, rfl⟩
  ·exact .inl ⟨vb, vo, tail, t, ss, rfl, by omega, va_of hl k4 k3, hss, hT, fun k hk => absurd hk.1 hn, newL_ge hnew⟩
  ·exact .inr ⟨⟨a, ea, rfl⟩, fun k hk => hn hk.1⟩
theorem topP_form {r : ByteArray} {w w' : World} {pb : Nat} {bs : Value} {e : Ending} (h : TopP r w pb bs e w') : ∃ (p : Value) (a : ByteArray) (er : Value), e = .returned (.tuple #[p, .string a, er]) ∧ Fr w w' pb none 0 ∧
  ((∃ (vb vo : Nat) (t : Int) (ss : ByteArray), p = .pointer (some ⟨vb, vo, none⟩) ∧ er = .nilIface ∧ a.size ≤ r.size ∧ Va w' vb vo t ss ∧ ss.size ≤ r.size ∧ TV r t ∧ (∀ k, NumTop r k → t = 4 ∧ bytesOf ss = (bytesOf r).take k ∧ bytesOf a = (bytesOf r).drop k) ∧ w.heap.size ≤ vb) ∨
   (∃ ea : Addr, p = .pointer none ∧ er = .iface 101 (.pointer (some ea))) ∧ ∀ k, ¬ NumTop r k) := by
 obtain ⟨hf, ⟨vb, vo, tail, t, ss, rfl, h⟩ | ⟨⟨a, ea, rfl⟩, h⟩⟩ := h
 ·exact ⟨_, _, _, rfl, hf, .inl ⟨vb, vo, t, ss, rfl, rfl, h⟩⟩
 ·exact ⟨_, _, _, rfl, hf, .inr ⟨⟨ea, rfl, rfl⟩, h⟩⟩
/-- What Parse leaves. -/
def ParP (r : ByteArray) (w : World) (pb : Nat) (e : Ending) (w' : World) : Prop := Fr w w' pb none 0 ∧
 ((∃ (vb vo : Nat) (t : Int) (ss : ByteArray), e = .returned (.tuple #[.pointer (some ⟨vb, vo, none⟩), .nilIface]) ∧ Va w' vb vo t ss ∧ ss.size ≤ r.size ∧ TV r t ∧ (∀ k, NumTop r k → t = 4 ∧ bytesOf ss = (bytesOf r).take k) ∧ w.heap.size ≤ vb) ∨
  ((∃ (ea : Addr), e = .returned (.tuple #[.pointer none, .iface 101 (.pointer (some ea))])) ∧ ∀ k, ¬ NumTop r k))
theorem skip_ws {s t : ByteArray} (h : SkipP s t) (hw : Ws (bytesOf s)) : t.size = 0 := by
 obtain ⟨u, h1, h2, h3⟩ := h
 rw [← bytesOf_length]
 cases hb : bytesOf t with
 | nil => rfl
 | cons c r => exact absurd (hw c (by rw [h1, hb]; simp)) (h3 c r hb)
theorem pos_cases (t : ByteArray) : (decide (0 < (t.size : Int)) = true ∧ decide (0 < t.size) = true ∧ Aside0 (t.size ≠ 0)) ∨ (decide (0 < (t.size : Int)) = false ∧ decide (0 < t.size) = false) := by
 by_cases h : 0 < t.size
 ·exact .inl ⟨decide_eq_true (by omega), decide_eq_true h, ⟨by omega⟩⟩
 ·exact .inr ⟨decide_eq_false (by omega), decide_eq_false h⟩
theorem par_sz {a r : ByteArray} (h : a.size ≤ r.size) (hr : r.size < 2 ^ 30) : a.size < 2 ^ 39 := by omega
set_option maxHeartbeats 4000000 in
set_option maxRecDepth 100000 in
theorem parse_calls (s : ByteArray) (hs : s.size < 2 ^ 30) (h0 : ∀ r, SkipP s r → 0 < r.size) (w : World) (pb : Nat) (hp : Pb w pb (.slice none 0 0)) :
  Calls Tryz.prog 16 #[.pointer (some ⟨pb, 0, none⟩), .string s] w fun e w' => ∃ r, SkipP s r ∧ ParP r w pb e w' := by
 have HS := sd hs
 have H0 := sd h0
 have HP := sd hp
 clear hs h0 hp
 obtain ⟨i0, hi, hz0, hz1, hz2⟩ := info_parts info5u
 go_enter Tryz.func16, Tryz.ntmps16
 go_upto_region 2 with (first | (go_at_call 28; (with_reducible refine (skip_calls s (Nat.lt_trans HS.out (by decide)) _).mono ?_); rintro e0 W1 ⟨r, rfl, hsk, hb⟩; have HK := sd hsk; have P1 := sd (HP.out.below hb); have F1 := sd ((Fr.refl w pb none 0).next hb); clear hsk hb))
 have HR := sd (And.intro (H0.out r HK.out) (Nat.lt_of_le_of_lt HK.out.le HS.out))
 obtain ⟨k0, f0, k1, f1⟩ := P1.out.c0
 go_upto_region 3 with (first | (at_builtin; refine wpList_nil_str rfl _ _ 40 9 rfl i0 Tryz.underlying40 Tryz.underlying9 hi hz0 hz2 rfl r rfl HR.out.1 HR.out.2 ?_; intro g c W2 hbr hb; have B2 := sd hbr; have P2 := sd (P1.out.below hb); have F2 := sd (F1.out.next hb); clear hbr hb k0 f0 k1 f1; obtain ⟨k0, f0, k1, f1⟩ := P2.out.c0))
 have B3 := sd (B2.out.of_blk (W2 := W2.setCell ⟨pb, 0, none⟩ (.slice (some ⟨g, 0, none⟩) r.size c)) (Below.heap_setCell W2 _ _ g (pb_ne P1.out B2.out.ge)) (by rw [World.size_setCell]; exact Nat.le_refl _))
 have P3 := sd (P2.out.set (.slice (some ⟨g, 0, none⟩) r.size c))
 have F3 := sd (F2.out.setpb 0 (.slice (some ⟨g, 0, none⟩) r.size c))
 clear k0 f0 k1 f1 B2 P2 F1 F2
 generalize W2.setCell ⟨pb, 0, none⟩ (.slice (some ⟨g, 0, none⟩) r.size c) = W3 at *
 obtain ⟨k0, f0, k1, f1⟩ := P3.out.c0
 go_upto_region 4 with (first | (go_at_call 29; (with_reducible refine (reset29 W3 pb k1 f1).mono ?_); rintro e0 W4 ⟨rfl, hh, he⟩; have P4 := sd (P3.out.reset hh); have F4 := sd ((F3.out.setpb 1 (.slice none 0 0)).of_heap hh he); have B4 := sd (B3.out.of_blk (W2 := W4) (by rw [hh]; exact Below.heap_setCell W3 _ _ g (pb_ne P1.out B3.out.ge)) (by rw [hh, World.size_setCell]; exact Nat.le_refl _)); clear hh he k0 f0 k1 f1))
 obtain ⟨k0, f0, k1, f1⟩ := P4.out.c0
 clear P3 F3 B3
 go_region_with (first | (go_at_call 31; (with_reducible refine (b2s_r B4.out (heap_drew _)).mono ?_); rintro e0 W5 ⟨rfl, hb⟩; have P5 := sd (P4.out.below (drew_step hb)); have F5 := sd (F4.out.next (drew_step hb)); clear hb k0 f0 k1 f1) | (go_at_call 30; (with_reducible refine (topV r HR.out.2 HR.out.1 _ pb _ P5.out.st).mono ?_); rintro e0 W6 htp; obtain ⟨p1, a1, er, rfl, hf, hc⟩ := topP_form htp; have F6 := sd (F5.out.then0 hf); have TP := sd hc; clear hf hc htp))
 rcases TP.out with ⟨vb, vo, t, ss, rfl, rfl, hc⟩ | ⟨⟨ea, rfl, rfl⟩, hc⟩
 ·have TQ := sd hc
  clear hc TP
  go_wp2_with (first | (go_at_call 28; (with_reducible refine (skip_calls a1 (par_sz TQ.out.1 HR.out.2) _).mono ?_); rintro e0 W7 ⟨a2, rfl, hsk, hb⟩; have HK2 := sd hsk; have F7 := sd (F6.out.next hb); have TR := sd (TQ.out.2.1.below hb); clear hsk hb; rcases pos_cases a2 with ⟨d1, d2, d3⟩ | ⟨d1, d2⟩) | (go_at_call 32; (with_reducible refine (err_new _ _).mono ?_); rintro e0 W8 ⟨ea, rfl, hb⟩; have F8 := sd (F7.out.next hb); clear hb))
  ·go_ret2
   refine ⟨r, HK.out, F8.out, .inr ⟨⟨ea, rfl⟩, fun k hk => d3.out (skip_ws HK2.out ?_)⟩⟩
   rw [(TQ.out.2.2.2.2.1 k hk).2.2]
   exact hk.2.2.2
  ·go_ret2
   exact ⟨r, HK.out, F7.out, .inl ⟨vb, vo, t, ss, rfl, TR.out, TQ.out.2.2.1, TQ.out.2.2.2.1, fun k hk => ⟨(TQ.out.2.2.2.2.1 k hk).1, (TQ.out.2.2.2.2.1 k hk).2.1⟩, Nat.le_trans F5.out.size TQ.out.2.2.2.2.2⟩⟩
 ·have TQ := sd hc
  clear hc TP
  go_wp2_with (first | (go_at_call 32; (with_reducible refine (err_new _ _).mono ?_); rintro e0 W8 ⟨ea, rfl, hb⟩; have F8 := sd (F6.out.next hb); clear hb))
  go_ret2
  exact ⟨r, HK.out, F8.out, .inr ⟨⟨_, rfl⟩, TQ.out⟩⟩
theorem kq_fr {w W W2 : World} {pb : Nat} (hb : Below w.heap.size w W) (hp : w.heap.size ≤ pb) (hf : Fr W W2 pb none 0) : Below w.heap.size w W2 :=
 ⟨hf.env.1.trans hb.os, hf.env.2.1.trans hb.tape, hf.env.2.2.trans hb.output, Nat.le_trans hb.size hf.size, fun k hk => (hf.blk k (Nat.lt_of_lt_of_le hk hb.size) (by omega) (by intro e; cases e)).trans (hb.block k hk)⟩
theorem pb_new (w : World) : Pb (w.alloc (.cells #[.slice none 0 0, .slice none 0 0] 45)) w.heap.size (.slice none 0 0) := ⟨blk_new w _⟩
theorem parP_form {r : ByteArray} {w w' : World} {pb : Nat} {e : Ending} (h : ParP r w pb e w') (hn : NotNum r) : ∃ (p er : Value), e = .returned (.tuple #[p, er]) ∧ Fr w w' pb none 0 ∧
  ((∃ (vb vo : Nat) (t : Int) (ss : ByteArray), p = .pointer (some ⟨vb, vo, none⟩) ∧ er = .nilIface ∧ Va w' vb vo t ss ∧ ss.size ≤ r.size ∧ t ≠ 4 ∧ w.heap.size ≤ vb) ∨
   (∃ ea : Addr, p = .pointer none ∧ er = .iface 101 (.pointer (some ea)))) := by
 obtain ⟨hf, ⟨vb, vo, t, ss, rfl, h1, h2, h3, _, h5⟩ | ⟨⟨ea, rfl⟩, h⟩⟩ := h
 ·exact ⟨_, _, rfl, hf, .inl ⟨vb, vo, t, ss, rfl, rfl, h1, h2, h3 hn, h5⟩⟩
 ·exact ⟨_, _, rfl, hf, .inr ⟨ea, rfl, rfl⟩⟩
set_option maxHeartbeats 4000000 in
set_option maxRecDepth 100000 in
theorem fj_not (s : ByteArray) (hs : s.size < 2 ^ 30) (h0 : ∀ r, SkipP s r → 0 < r.size ∧ NotNum r) (w : World) (hE : EvW w) :
  Calls Tryz.prog 7 #[.string s] w fun e w' => (∃ fl : Value, e = .returned (.tuple #[fl, .bool false])) ∧ Below w.heap.size w w' := by
 have HS := sd hs
 have HE := sd hE
 have H0 := sd h0
 clear hs hE h0
 go_enter Tryz.func7, Tryz.ntmps7
 go_wp2_with (first | (go_at_call 16; (with_reducible refine (parse_calls s HS.out (fun r h => (H0.out r h).1) _ _ (pb_new w)).mono ?_); rintro e0 W1 ⟨r, hsk, hpp⟩; obtain ⟨p, er, rfl, hf, hc⟩ := parP_form hpp (H0.out r hsk).2; have HB := sd (kq_fr (below_alloc (Below.refl _ w) _) (Nat.le_refl _) hf); have HZ := sd hsk.le; clear hpp hf hsk; rcases hc with ⟨vb, vo, t, ss, rfl, rfl, hva, hss, h4, hvb⟩ | ⟨ea, rfl, rfl⟩) | (go_at_call 17; (with_reducible refine (float_not _ vb vo t ss hva h4 (Nat.lt_of_le_of_lt (Nat.le_trans hss HZ.out) HS.out) (HE.out.below HB.out)).mono ?_); rintro e0 W2 ⟨fl, ea, rfl, hk⟩; have HK := sd (Kq.below HB.out hk (Nat.le_refl _) (Nat.le_trans (by rw [World.size_alloc]; exact Nat.le_succ _) hvb)); clear hk))
 ·go_quiet (fail)
  go_wp2
  go_ret2
  exact ⟨⟨_, rfl⟩, below_draws HK.out _⟩
 ·go_ret2
  exact ⟨⟨_, rfl⟩, HB.out⟩
end Go.Proofs.YtaihmpdhaikfkaaGreatDoor.PFnFjFloat
