/- Part of the proof that laws.FnFjFloat answers true for every input (the card: text ZF). -/
import Derived.Test.YtaihmpdhaikfkaaGreatDoorV0
import Derived.Laws.Append
import Derived.Laws.AppendOwn
import Derived.Deep.RegionHeld3
import Derived.StillTailTactics
import Derived.Outline
import Derived.WalkLawsBesides
import Derived.Shelf.Small.Strs
import Derived.Shelf.LaysC
import Derived.Shelf.Strconv.ToError
import Derived.Shelf.Strconv.Lower
import Derived.Shelf.Strings.Search1
import Derived.Test.YtaihmpdhaikfkaaGreatDoorProg
set_option linter.all false
/- The parser's cache of values: what its memory holds, what a call leaves alone, and an append that must grow. -/
namespace Go.Proofs.YtaihmpdhaikfkaaGreatDoor.PFnFjFloat
open Go.RowKit Go.Proofs.YtaihmpdhaikfkaaGreatDoorW.PrintWords Go.Proofs.YtaihmpdhaikfkaaGreatDoorW.PrintLast Go.Proofs.YtaihmpdhaikfkaaGreatDoorW.PrintMore
def Env (a b : World) : Prop := b.os = a.os ∧ b.tape = a.tape ∧ b.output = a.output
theorem Env.refl (a : World) : Env a a := ⟨rfl, rfl, rfl⟩
theorem Env.then_ {a b c : World} (h : Env a b) (k : Env b c) : Env a c := ⟨k.1.trans h.1, k.2.1.trans h.2.1, k.2.2.trans h.2.2⟩
theorem Env.of_below {B : Nat} {a b : World} (h : Below B a b) : Env a b := ⟨h.os, h.tape, h.output⟩
/-- What a Value holds that nothing has been put into. -/
def zVal : List Value := [.slice none 0 0, .bool false, .slice none 0 0, .string ⟨#[]⟩, .int .i64 0]
/-- From the n-th Value on nothing has been put into the block. -/
def Emp (cur : Array Value) (n : Nat) : Prop := ∀ j, n ≤ j → 5 * j + 5 ≤ cur.size → ∀ i, i < 5 → cur[5 * j + i]? = zVal[i]?
/-- The cache: n Values are in use, in block B, of m. -/
structure St (w : World) (pb : Nat) (bs : Value) (B : Option Nat) (n m : Nat) : Prop where
 hp : w.heap[pb]? = some (.cells #[bs, .slice (B.map fun b => ⟨b, 0, none⟩) n m] 45 (0, 0))
 hb : (B = none ∧ n = 0 ∧ m = 0) ∨ ∃ b cur, B = some b ∧ w.heap[b]? = some (.cells cur 86 (0, 0)) ∧ cur.size = 5 * m ∧ n ≤ m ∧ m ≤ maxLen ∧ Emp cur n
/-- What is left alone: all but the parser's own block and, in the cache's block, what is not in use. -/
structure Fr (w w' : World) (pb : Nat) (B : Option Nat) (n : Nat) : Prop where
 env : Env w w'
 size : w.heap.size ≤ w'.heap.size
 blk : ∀ k, k < w.heap.size → k ≠ pb → some k ≠ B → w'.heap[k]? = w.heap[k]?
 old : ∀ b cur, B = some b → w.heap[b]? = some (.cells cur 86 (0, 0)) → ∃ cur', w'.heap[b]? = some (.cells cur' 86 (0, 0)) ∧ cur'.size = cur.size ∧ ∀ o, o < 5 * n → cur'[o]? = cur[o]?
def Up (w : World) (B : Option Nat) (n : Nat) (B' : Option Nat) (n' : Nat) : Prop := n ≤ n' ∧ (B' = B ∨ ∃ b', B' = some b' ∧ w.heap.size ≤ b')
/-- A Value's place: in the cache's block among those in use, or in another block. -/
structure Loc (w : World) (pb : Nat) (B : Option Nat) (n : Nat) (vb vo : Nat) : Prop where
 lt : vb < w.heap.size
 ne : vb ≠ pb
 inb : some vb = B → vo + 5 ≤ 5 * n
 blk : ∃ cur, w.heap[vb]? = some (.cells cur 86 (0, 0)) ∧ vo + 5 ≤ cur.size
/-- The place is none that an elder world has in use. -/
def NewL (w : World) (B : Option Nat) (n : Nat) (vb vo : Nat) : Prop := w.heap.size ≤ vb ∨ (some vb = B ∧ 5 * n ≤ vo)
section
variable {w w1 w2 : World} {pb n m n1 m1 n2 : Nat} {bs : Value} {B B1 B2 : Option Nat}
theorem St.ne (h : St w pb bs B n m) {b : Nat} (hb : B = some b) : b ≠ pb ∧ b < w.heap.size := by
 rcases h.hb with ⟨h0, _⟩ | ⟨b', cur, h0, h1, _⟩
 ·rw [h0] at hb; cases hb
 ·obtain rfl : b' = b := by rw [h0] at hb; exact Option.some.inj hb
  exact ⟨fun e => by subst e; rw [h.hp] at h1; simp at h1, blk_lt h1⟩
theorem St.drewN (h : St w pb bs B n m) (k : Nat) : St (w.drewN k) pb bs B n m := ⟨h.hp, h.hb⟩
theorem St.of_heap (h : St w pb bs B n m) (e : w1.heap = w.heap) : St w1 pb bs B n m := ⟨by rw [e]; exact h.hp, by rw [e]; exact h.hb⟩
theorem St.alloc (h : St w pb bs B n m) (o : Obj) : St (w.alloc o) pb bs B n m :=
 ⟨blk_alloc h.hp o, by
  rcases h.hb with h0 | ⟨b, cur, h0, h1, h2⟩
  ·exact .inl h0
  ·exact .inr ⟨b, cur, h0, blk_alloc h1 o, h2⟩⟩
theorem St.below (h : St w pb bs B n m) (hb : Below w.heap.size w w1) : St w1 pb bs B n m :=
 ⟨blk_below h.hp hb, by
  rcases h.hb with h0 | ⟨b, cur, h0, h1, h2⟩
  ·exact .inl h0
  ·exact .inr ⟨b, cur, h0, blk_below h1 hb, h2⟩⟩
theorem Fr.refl (w : World) (pb : Nat) (B : Option Nat) (n : Nat) : Fr w w pb B n :=
 ⟨Env.refl w, Nat.le_refl _, fun _ _ _ _ => rfl, fun b cur _ h => ⟨cur, h, rfl, fun _ _ => rfl⟩⟩
theorem Fr.trans (h : Fr w w1 pb B n) (hu : Up w B n B1 n1) (k : Fr w1 w2 pb B1 n1) (hs : ∀ b, B = some b → b ≠ pb ∧ b < w.heap.size) : Fr w w2 pb B n := by
 refine ⟨h.env.then_ k.env, Nat.le_trans h.size k.size, fun i hi hp hB => ?_, fun b cur hb hc => ?_⟩
 ·have h1 := h.blk i hi hp hB
  refine (k.blk i (Nat.lt_of_lt_of_le hi h.size) hp ?_).trans h1
  rcases hu.2 with e | ⟨b', e, hb'⟩
  ·rw [e]; exact hB
  ·rw [e]; intro e2; have := Option.some.inj e2; omega
 ·obtain ⟨cur1, h1, h2, h3⟩ := h.old b cur hb hc
  have hbl := hs b hb
  rcases hu.2 with e | ⟨b', e, hb'⟩
  ·obtain ⟨cur2, k1, k2, k3⟩ := k.old b cur1 (e.trans hb) h1
   exact ⟨cur2, k1, k2.trans h2, fun o ho => (k3 o (by have := hu.1; omega)).trans (h3 o ho)⟩
  ·refine ⟨cur1, (k.blk b (by have := h.size; omega) hbl.1 ?_).trans h1, h2, h3⟩
   rw [e]; intro e2; have := Option.some.inj e2; omega
theorem Up.refl (w : World) (B : Option Nat) (n : Nat) : Up w B n B n := ⟨Nat.le_refl _, .inl rfl⟩
theorem Up.trans (h : Up w B n B1 n1) (k : Up w1 B1 n1 B2 n2) (hs : w.heap.size ≤ w1.heap.size) : Up w B n B2 n2 := by
 refine ⟨Nat.le_trans h.1 k.1, ?_⟩
 rcases k.2 with e | ⟨b', e, hb⟩
 ·rw [e]; exact h.2
 ·exact .inr ⟨b', e, Nat.le_trans hs hb⟩
theorem Fr.below (h : Fr w w1 pb B n) (hb : Below w1.heap.size w1 w2) (hs : ∀ b, B = some b → b < w.heap.size) : Fr w w2 pb B n := by
 refine ⟨h.env.then_ (Env.of_below hb), Nat.le_trans h.size hb.size, fun i hi hp hB => (hb.block i (Nat.lt_of_lt_of_le hi h.size)).trans (h.blk i hi hp hB), fun b cur e hc => ?_⟩
 obtain ⟨cur1, h1, h2, h3⟩ := h.old b cur e hc
 exact ⟨cur1, blk_below h1 hb, h2, h3⟩
theorem Loc.step {vb vo : Nat} (hl : Loc w pb B n vb vo) (h : Fr w w1 pb B n) (hu : Up w B n B1 n1) : Loc w1 pb B1 n1 vb vo ∧ ∀ i, i < 5 → w1.cell? ⟨vb, vo + i, none⟩ = w.cell? ⟨vb, vo + i, none⟩ := by
 obtain ⟨cur, hc, hsz⟩ := hl.blk
 by_cases hB : some vb = B
 ·obtain ⟨cur1, h1, h2, h3⟩ := h.old vb cur hB.symm hc
  refine ⟨⟨Nat.lt_of_lt_of_le hl.lt h.size, hl.ne, fun e => ?_, cur1, h1, by omega⟩, fun i hi => ?_⟩
  ·have := hl.inb hB; have := hu.1; omega
  ·rw [blk_cell h1, blk_cell hc]
   exact h3 _ (by have := hl.inb hB; omega)
 ·have h1 := (h.blk vb hl.lt hl.ne hB).trans hc
  refine ⟨⟨Nat.lt_of_lt_of_le hl.lt h.size, hl.ne, fun e => ?_, cur, h1, hsz⟩, fun i hi => by rw [blk_cell h1, blk_cell hc]⟩
  rcases hu.2 with e2 | ⟨b', e2, hb'⟩
  ·rw [e2] at e; exact absurd e hB
  ·rw [e2] at e; have := Option.some.inj e; have := hl.lt; omega
theorem Loc.cell {vb vo : Nat} (hl : Loc w pb B n vb vo) (i : Nat) (hi : i < 5) : (∃ v, w.cell? ⟨vb, vo + i, none⟩ = some v) ∧ w.frozen? ⟨vb, vo + i, none⟩ = false := by
 obtain ⟨cur, hc, hsz⟩ := hl.blk
 rw [blk_cell hc]
 exact ⟨⟨cur[vo + i]'(by omega), Array.getElem?_eq_getElem (by omega)⟩, blk_frozen hc _⟩
/-- A store into a Value in use. -/
theorem Loc.set {vb vo : Nat} (hl : Loc w pb B n vb vo) (hS : St w pb bs B n m) (i : Nat) (hi : i < 5) (u : Value) :
  St (w.setCell ⟨vb, vo + i, none⟩ u) pb bs B n m ∧ Loc (w.setCell ⟨vb, vo + i, none⟩ u) pb B n vb vo ∧
   (∀ j, (w.setCell ⟨vb, vo + i, none⟩ u).cell? ⟨vb, vo + j, none⟩ = if j = i then some u else w.cell? ⟨vb, vo + j, none⟩) := by
 obtain ⟨cur, hc, hsz⟩ := hl.blk
 have hc' := blk_set hc (vo + i) u
 refine ⟨⟨blk_far hS.hp (fun e => hl.ne e.symm) u, ?_⟩, ⟨by rw [World.size_setCell]; exact hl.lt, hl.ne, hl.inb, _, hc', by rw [Array.size_setIfInBounds]; exact hsz⟩, fun j => ?_⟩
 ·rcases hS.hb with h0 | ⟨b, cur2, h0, h1, h2, h3, h4, h5⟩
  ·exact .inl h0
  ·by_cases hv : vb = b
   ·subst hv
    rw [hc] at h1
    have e : cur = cur2 := by injection h1 with h1; injection h1
    subst e
    refine .inr ⟨vb, _, h0, hc', by rw [Array.size_setIfInBounds]; exact h2, h3, h4, fun j hj hz q hq => ?_⟩
    rw [Array.size_setIfInBounds] at hz
    have := hl.inb h0.symm
    rw [Array.getElem?_setIfInBounds_ne (by omega)]
    exact h5 j hj hz q hq
   ·exact .inr ⟨b, cur2, h0, blk_far h1 (fun e => hv e.symm) u, h2, h3, h4, h5⟩
 ·rw [blk_cell hc', blk_cell hc]
  by_cases e : j = i
  ·subst e; rw [if_pos rfl, Array.getElem?_setIfInBounds_self_of_lt (by omega)]
  ·rw [if_neg e, Array.getElem?_setIfInBounds_ne (by omega)]
theorem Fr.set {vb vo : Nat} (h : Fr w w1 pb B n) (hn : NewL w B n vb vo) (i : Nat) (u : Value) : Fr w (w1.setCell ⟨vb, vo + i, none⟩ u) pb B n := by
 refine ⟨h.env, by rw [World.size_setCell]; exact h.size, fun k hk hp hB => ?_, fun b cur hb hc => ?_⟩
 ·rw [← h.blk k hk hp hB]
  refine Below.heap_setCell w1 _ u k ?_
  rintro rfl
  rcases hn with h0 | ⟨h0, _⟩
  ·exact absurd hk (by show ¬ _ < _; omega)
  ·exact hB h0
 ·obtain ⟨cur1, h1, h2, h3⟩ := h.old b cur hb hc
  by_cases hv : vb = b
  ·subst hv
   refine ⟨_, blk_set h1 (vo + i) u, by rw [Array.size_setIfInBounds]; exact h2, fun o ho => ?_⟩
   rcases hn with h0 | ⟨_, h0⟩
   ·have := blk_lt hc; omega
   ·rw [Array.getElem?_setIfInBounds_ne (by omega)]; exact h3 o ho
  ·exact ⟨cur1, blk_far h1 (fun e => hv e.symm) u, h2, h3⟩
/-- Another block that is new is written, or made. -/
theorem Fr.grown {row : Option Nat} (h : Fr w w1 pb B n) (hg : w1.grownBy w2 row) (hr : ∀ k, row = some k → w.heap.size ≤ k) (hs : ∀ b, B = some b → b < w.heap.size) : Fr w w2 pb B n := by
 have hne : ∀ k, k < w.heap.size → some k ≠ row := fun k hk e => by have := hr k e.symm; omega
 refine ⟨h.env.then_ ⟨hg.os, hg.tape, hg.output⟩, Nat.le_trans h.size hg.size, fun i hi hp hB => (hg.block i (Nat.lt_of_lt_of_le hi h.size) (hne i hi)).trans (h.blk i hi hp hB), fun b cur e hc => ?_⟩
 obtain ⟨cur1, h1, h2, h3⟩ := h.old b cur e hc
 exact ⟨cur1, blk_grown h1 hg (hne b (hs b e)), h2, h3⟩
theorem St.grown {row : Option Nat} (h : St w pb bs B n m) (hg : w.grownBy w1 row) (hp : some pb ≠ row) (hr : ∀ b, B = some b → some b ≠ row) : St w1 pb bs B n m :=
 ⟨blk_grown h.hp hg hp, by
  rcases h.hb with h0 | ⟨b, cur, h0, h1, h2⟩
  ·exact .inl h0
  ·exact .inr ⟨b, cur, h0, blk_grown h1 hg (hr b h0), h2⟩⟩
theorem Loc.grown {row : Option Nat} {vb vo : Nat} (h : Loc w pb B n vb vo) (hg : w.grownBy w1 row) (hr : some vb ≠ row) : Loc w1 pb B n vb vo ∧ ∀ i, w1.cell? ⟨vb, vo + i, none⟩ = w.cell? ⟨vb, vo + i, none⟩ := by
 obtain ⟨cur, hc, hsz⟩ := h.blk
 have hc1 := blk_grown hc hg hr
 exact ⟨⟨Nat.lt_of_lt_of_le h.lt hg.size, h.ne, h.inb, cur, hc1, hsz⟩, fun i => by rw [blk_cell hc1, blk_cell hc]⟩
theorem Loc.below {vb vo : Nat} (h : Loc w pb B n vb vo) (hb : Below w.heap.size w w1) : Loc w1 pb B n vb vo ∧ ∀ i, w1.cell? ⟨vb, vo + i, none⟩ = w.cell? ⟨vb, vo + i, none⟩ := by
 obtain ⟨cur, hc, hsz⟩ := h.blk
 have hc1 := blk_below hc hb
 exact ⟨⟨Nat.lt_of_lt_of_le h.lt hb.size, h.ne, h.inb, cur, hc1, hsz⟩, fun i => by rw [blk_cell hc1, blk_cell hc]⟩
end
section
variable {P : Program} {ops : Array Oper} {rest : List Oper} {o : Oper} {a : Act} {Q : Exit → Act → World → Prop}
/-- An append that must grow: the new row written out, empty elements behind it. -/
theorem append_new {W : World} (hgd : o.guard = none) (s x : Operand) (t e : TypeId) (ho : o.op = .call { callee := .builtin .append, args := #[s, x], argTypes := #[t, t] })
  (i : TypeInfo) (z : Value) (zc : Array Value) (hzc : z.cells = zc) (size bytes : Nat) (ht : P.underlying t = some (.slice e)) (hi : P.info? e = some i) (hz : i.zero = some z) (hsize : i.size = size) (hby : i.bytes = bytes)
  (A : Option Addr) (n : Nat) (olds : List Value) (hs : a.eval s = .slice A n n) (hA : (A = none ∧ n = 0 ∧ olds = []) ∨ ∃ b, A = some b ∧ olds.length = n * size ∧ ∀ j v, olds[j]? = some v → W.cell? (b.add j) = some v)
  (ad : Addr) (news : List Value) (hx : a.eval x = .slice (some ad) 1 1) (hl : news.length = size) (hnews : ∀ j u, news[j]? = some u → W.cell? (ad.add j) = some u)
  (hbytes : (n + 1) * bytes ≤ 140737488355328) (hn : n + 1 ≤ maxLen)
  (h : ∀ c, n + 1 ≤ c → c ≤ maxLen → wpList P ops Q rest (a.put o.dst (.slice (some ⟨W.heap.size, 0, none⟩) (n + 1) c)) (W.drew.alloc (.cells (olds.toArray ++ news.toArray ++ Builtin.zeroCells zc (c - (n + 1))) e))) :
  wpList P ops Q (o :: rest) a W := by
 subst hsize
 subst hby
 subst hzc
 have h9 : ((n : Int) + 1) ≤ 9223372036854775807 := by simp only [maxLen] at hn; omega
 have hl' : news.length = 1 * i.size := by rw [hl, Nat.one_mul]
 rcases hA with ⟨rfl, rfl, rfl⟩ | ⟨b, rfl, hlo, holds⟩
 ·have hr := run_append_nil (P := P) W t o.type e i z ht hi hz ad 1 1 news hl' hnews (by omega) (by omega) (by rw [Nat.zero_add] at hbytes; omega)
  refine Kd.event_run hgd ?_ (h _ (grownCap_ge W 1 0 e) (grownCap_le_maxLen W 1 0 e hn))
  simp [execOp, ho, resolve, invoke, builtin, hs, hx, hr]
 ·have hr := run_append_grow (P := P) W t o.type e i z ht hi hz b n n olds hlo holds ad 1 1 news hl' hnews (by omega) (by omega) (growslice_fits (by omega) hbytes)
  refine Kd.event_run hgd ?_ (h _ (grownCap_ge W (n + 1) n e) (grownCap_le_maxLen W (n + 1) n e hn))
  simp [execOp, ho, resolve, invoke, builtin, hs, hx, hr]
end
set_option maxHeartbeats 4000000 in
set_option maxRecDepth 100000 in
theorem gv_room (w : World) (pb : Nat) (bs : Value) (B n m : Nat) (hS : St w pb bs (some B) n m) (hlt : n < m) (hm : m ≤ 9223372036854775807) :
  Calls Tryz.prog 48 #[.pointer (some ⟨pb, 1, none⟩)] w fun e w' => e = .returned (.pointer (some ⟨B, n * 5, none⟩)) ∧ w'.heap = (w.setCell ⟨pb, 1, none⟩ (.slice (some ⟨B, 0, none⟩) (n + 1) m)).heap ∧ Env w w' := by
 have hc := (blk_cell hS.hp 1).trans rfl
 have hf := blk_frozen hS.hp 1
 have t1 : decide ((n : Int) < (m : Int)) = true := decide_eq_true (by omega)
 have t2 : decide (n < m) = true := decide_eq_true hlt
 simp only [Option.map_some] at hc
 go_enter Tryz.func48, Tryz.ntmps48
 go_wp2
 go_quiet (fail)
 go_wp2
 have w1 : IntKind.i64.wrap ((n : Int) + 1) = (n : Int) + 1 := by rw [i64_w]; exact Go.IntWalk.wrap64_in _ (by omega)
 have w2 : wrap64 ((n : Int) + 1) = (n : Int) + 1 := Go.IntWalk.wrap64_in _ (by omega)
 have q1 : (0 ≤ (n : Int) + 1) = True := eq_true (by omega)
 have q2 : (((n : Int) + 1) ≤ (m : Int)) = True := eq_true (by omega)
 have q3 : ((n : Int) + 1).toNat = n + 1 := by omega
 refine wp_region_still_tail 14 (by kernel_rfl) (by kernel_rfl) ?_
 simp only [List.take_succ_cons, List.take_zero, List.drop_succ_cons, List.drop_zero]
 change wpStill _ _ (w.drewN (nq + 1)) (fun a' => wpList _ _ _ _ a' (w.drewN (nq + 1))) _ _
 repeat still_step
 refine wpStill_nil ?_
 go_wp2
 go_quiet (fail)
 go_wp2
 go_ret
 exact ⟨rfl, rfl, rfl, rfl, rfl⟩
theorem info86 : (Tryz.prog.info? 86).map (fun i => (i.zero, i.size, i.bytes)) = some (some (.agg zVal.toArray), 5, 80) := by kernel_rfl
/-- The cells of an elder row are there behind a draw and a new block. -/
theorem olds_later {w : World} {A : Option Addr} {n sz : Nat} {olds : List Value} (hA : (A = none ∧ n = 0 ∧ olds = []) ∨ ∃ b, A = some b ∧ olds.length = n * sz ∧ ∀ j v, olds[j]? = some v → w.cell? (b.add j) = some v) (k : Nat) (ob : Obj) :
  (A = none ∧ n = 0 ∧ olds = []) ∨ ∃ b, A = some b ∧ olds.length = n * sz ∧ ∀ j v, olds[j]? = some v → ((w.drewN k).alloc ob).cell? (b.add j) = some v := by
 rcases hA with h | ⟨b, h1, h2, h3⟩
 ·exact .inl h
 ·refine .inr ⟨b, h1, h2, fun j v hj => ?_⟩
  have hc := h3 j v hj
  exact ((below_alloc (Below.refl w.heap.size w) ob).cell (World.block_lt_of_cell? w _ hc)).trans hc
theorem new_cells {w : World} {l : List Value} {t : TypeId} (k : Nat) : ∀ j u, l[j]? = some u → ((w.drewN k).alloc (.cells l.toArray t)).cell? ((⟨w.heap.size, 0, none⟩ : Addr).add j) = some u := by
 intro j u hj
 have hadd : (⟨w.heap.size, 0, none⟩ : Addr).add j = ⟨w.heap.size, j, none⟩ := by unfold Addr.add; split <;> simp_all
 rw [hadd]
 show ((w.drewN k).alloc (.cells l.toArray t)).cell? ⟨(w.drewN k).heap.size, j, none⟩ = some u
 rw [blk_cell (t := t) (cs := l.toArray) (blk_new (w.drewN k) _)]
 simpa using hj
/-- The world behind the growth. -/
structure Gw (w W : World) (g pb : Nat) (cur : Array Value) (t : TypeId) : Prop where
 bel : Below w.heap.size w W
 blk : W.heap[g]? = some (.cells cur t (0, 0))
 ge : w.heap.size ≤ g
theorem gw_of {w : World} (pb k : Nat) (ob : Obj) (cur : Array Value) (t : TypeId) : Gw w (((w.drewN k).alloc ob).alloc (.cells cur t)).drew (w.heap.size + 1) pb cur t :=
 ⟨below_drew1 (below_alloc (below_alloc (pw_below_drewN (Below.refl w.heap.size w) k) ob) _), (by
  have h := blk_new ((w.drewN k).alloc ob) (.cells cur t)
  rw [World.size_alloc] at h
  exact h), Nat.le_succ _⟩
set_option maxHeartbeats 4000000 in
set_option maxRecDepth 100000 in
theorem gv_grow (w : World) (pb : Nat) (bs : Value) (A : Option Addr) (n : Nat) (olds : List Value) (hp : w.heap[pb]? = some (.cells #[bs, .slice A n n] 45 (0, 0)))
  (hA : (A = none ∧ n = 0 ∧ olds = []) ∨ ∃ b, A = some b ∧ olds.length = n * 5 ∧ ∀ j v, olds[j]? = some v → w.cell? (b.add j) = some v) (hb : (n + 1) * 80 ≤ 140737488355328) :
  Calls Tryz.prog 48 #[.pointer (some ⟨pb, 1, none⟩)] w fun e w' => ∃ g c W, e = .returned (.pointer (some ⟨g, n * 5, none⟩)) ∧ n + 1 ≤ c ∧ c ≤ maxLen ∧ Gw w W g pb ((olds ++ zVal).toArray ++ Builtin.zeroCells zVal.toArray (c - (n + 1))) 86 ∧
   w'.heap = (W.setCell ⟨pb, 1, none⟩ (.slice (some ⟨g, 0, none⟩) (n + 1) c)).heap ∧ Env w w' := by
 have hc := (blk_cell hp 1).trans rfl
 have hf := blk_frozen hp 1
 have hlt := blk_lt hp
 have t1 : decide ((n : Int) < (n : Int)) = false := decide_eq_false (by omega)
 have t2 : decide (n < n) = false := decide_eq_false (by omega)
 obtain ⟨i0, hi, hz0, hz1, hz2⟩ := info_parts info86
 have HA := sd hA
 have HP := sd hp
 clear hA hp
 go_enter Tryz.func48, Tryz.ntmps48
 go_wp2
 go_quiet (fail)
 go_wp2_with (at_builtin; refine append_new rfl _ _ 41 86 rfl i0 (.agg zVal.toArray) zVal.toArray (by rfl) 5 80 Tryz.underlying41 hi hz0 hz1 hz2 A n olds rfl (olds_later HA.out nq _) ⟨_, 0, none⟩ zVal rfl rfl (new_cells nq) hb (by simp only [maxLen]; omega) ?_)
 intro c h1 h2
 have HG := gw_of (w := w) pb nq (Obj.cells #[Value.slice none 0 0, Value.bool false, Value.slice none 0 0, Value.string ⟨#[]⟩, Value.int .i64 0] 86) ((olds ++ zVal).toArray ++ Builtin.zeroCells zVal.toArray (c - (n + 1))) 86
 generalize (((w.drewN nq).alloc (Obj.cells #[Value.slice none 0 0, Value.bool false, Value.slice none 0 0, Value.string ⟨#[]⟩, Value.int .i64 0] 86)).alloc (.cells ((olds ++ zVal).toArray ++ Builtin.zeroCells zVal.toArray (c - (n + 1))) 86)).drew = W at HG ⊢
 generalize w.heap.size + 1 = g at HG ⊢
 have hp3 := blk_below HP.out HG.bel
 have hc3 := (blk_cell hp3 1).trans rfl
 have hf3 := blk_frozen hp3 1
 have HGA := sd HG
 clear HG hp3 hc hf
 have w1 : IntKind.i64.wrap ((n : Int) + 1 - 1) = (n : Int) := by rw [i64_w, show (n : Int) + 1 - 1 = n by omega]; exact Go.IntWalk.wrap64_in _ (by omega)
 have w2 : wrap64 ((n : Int) + 1 - 1) = (n : Int) := by rw [show (n : Int) + 1 - 1 = n by omega]; exact Go.IntWalk.wrap64_in _ (by omega)
 go_wp2
 go_quiet (fail)
 go_wp2
 go_ret
 exact ⟨g, c, W, rfl, h1, h2, HGA.out, rfl, (Env.of_below HGA.out.bel).1, (Env.of_below HGA.out.bel).2.1, (Env.of_below HGA.out.bel).2.2⟩
/-- What getValue leaves: one Value more in use, empty, at its place. -/
structure GvP (w w' : World) (pb : Nat) (bs : Value) (B : Option Nat) (n : Nat) (B' m' : Nat) : Prop where
 st : St w' pb bs (some B') (n + 1) m'
 fr : Fr w w' pb B n
 up : Up w B n (some B') (n + 1)
 loc : Loc w' pb (some B') (n + 1) B' (n * 5)
 new : NewL w B n B' (n * 5)
 zero : ∀ i, i < 5 → w'.cell? ⟨B', n * 5 + i, none⟩ = zVal[i]?
theorem zero_cells (l : List Value) (n q : Nat) (hl : l.length = n * 5) : ((l ++ zVal).toArray ++ Builtin.zeroCells zVal.toArray q).size = 5 * (n + 1 + q) ∧ Emp ((l ++ zVal).toArray ++ Builtin.zeroCells zVal.toArray q) n ∧ ∀ o, o < 5 * n → ((l ++ zVal).toArray ++ Builtin.zeroCells zVal.toArray q)[o]? = l[o]? := by
 have h5 : zVal.length = 5 := rfl
 have hz : (Builtin.zeroCells zVal.toArray q).size = q * 5 := by rw [size_zeroCells]; rfl
 refine ⟨by rw [Array.size_append, hz, List.size_toArray, List.length_append, hl, h5]; omega, fun j hj hs i hi => ?_, fun o ho => ?_⟩
 ·rw [Array.size_append, hz, List.size_toArray, List.length_append, hl, h5] at hs
  by_cases e : j = n
  ·subst e
   rw [Array.getElem?_append_left (by rw [List.size_toArray, List.length_append, hl, h5]; omega), List.getElem?_toArray, List.getElem?_append_right (by omega)]
   congr 1
   omega
  ·rw [Array.getElem?_append_right (by rw [List.size_toArray, List.length_append, hl, h5]; omega), List.size_toArray, List.length_append, hl, h5]
   have e1 : 5 * j + i - (n * 5 + 5) = (j - n - 1) * 5 + i := by omega
   rw [e1]
   have e2 : (j - n - 1) * 5 + i < (Builtin.zeroCells zVal.toArray q).size := by rw [hz]; omega
   rw [Array.getElem?_eq_getElem e2, List.getElem?_eq_getElem (by rw [h5]; exact hi)]
   have e3 : ∀ (q p i : Nat) (hi : i < zVal.length) (h : p * 5 + i < (Builtin.zeroCells zVal.toArray q).size), (Builtin.zeroCells zVal.toArray q)[p * 5 + i]'h = zVal[i] := by
    intro q p i hi h
    have hm : (p * 5 + i) % 5 = i := by rw [h5] at hi; omega
    simp only [Builtin.zeroCells, Array.getElem_map, Array.getElem_range]
    have e4 : (p * 5 + i) % zVal.toArray.size = i := hm
    rw [e4, getElem!_pos zVal.toArray i hi]
    rfl
   rw [e3]
 ·rw [Array.getElem?_append_left (by rw [List.size_toArray, List.length_append, hl]; omega), List.getElem?_toArray, List.getElem?_append_left (by omega)]
theorem room_post {w w' : World} {pb : Nat} {bs : Value} {B n m : Nat} (hS : St w pb bs (some B) n m) (hlt : n < m) (hh : w'.heap = (w.setCell ⟨pb, 1, none⟩ (.slice (some ⟨B, 0, none⟩) (n + 1) m)).heap) (he : Env w w') : GvP w w' pb bs (some B) n B m := by
 obtain ⟨hne, hlB⟩ := hS.ne rfl
 rcases hS.hb with ⟨h0, _⟩ | ⟨b, cur, h0, h1, h2, h3, h4, h5⟩
 ·cases h0
 obtain rfl : B = b := Option.some.inj h0
 have hB : w'.heap[B]? = some (.cells cur 86 (0, 0)) := by rw [hh]; exact blk_far h1 hne _
 refine ⟨⟨?_, .inr ⟨B, cur, rfl, hB, h2, by omega, h4, fun j hj => h5 j (by omega)⟩⟩, ⟨he, by rw [hh, World.size_setCell]; exact Nat.le_refl _, fun k hk hp hb => ?_, fun b cur' hb hc => ?_⟩, ⟨by omega, .inl rfl⟩, ⟨by rw [hh, World.size_setCell]; exact hlB, hne, fun _ => by omega, cur, hB, by omega⟩, .inr ⟨rfl, by omega⟩, fun i hi => ?_⟩
 ·rw [hh]; exact blk_set hS.hp 1 _
 ·rw [hh]; exact Below.heap_setCell w _ _ k hp
 ·obtain rfl := Option.some.inj hb
  rw [h1] at hc
  have e : cur = cur' := by injection hc with hc; injection hc
  subst e
  exact ⟨cur, hB, rfl, fun _ _ => rfl⟩
 ·rw [blk_cell hB, Nat.mul_comm n 5]
  exact h5 n (Nat.le_refl _) (by omega) i hi
theorem grow_post {w w' W : World} {pb : Nat} {bs : Value} {B : Option Nat} {n g c : Nat} {olds : List Value} (hS : St w pb bs B n n) (hl : olds.length = n * 5) (ho : ∀ b cur, B = some b → w.heap[b]? = some (.cells cur 86 (0, 0)) → cur.toList = olds)
  (h1 : n + 1 ≤ c) (h2 : c ≤ maxLen) (hG : Gw w W g pb ((olds ++ zVal).toArray ++ Builtin.zeroCells zVal.toArray (c - (n + 1))) 86) (hh : w'.heap = (W.setCell ⟨pb, 1, none⟩ (.slice (some ⟨g, 0, none⟩) (n + 1) c)).heap) (he : Env w w') : GvP w w' pb bs B n g c := by
 obtain ⟨z1, z2, z3⟩ := zero_cells olds n (c - (n + 1)) hl
 have hpl := blk_lt hS.hp
 have hpW := blk_below hS.hp hG.bel
 have hgn : g ≠ pb := fun e => by have := hG.ge; omega
 have hB := blk_far hG.blk (p := ⟨pb, 1, none⟩) hgn (.slice (some ⟨g, 0, none⟩) (n + 1) c)
 rw [← hh] at hB
 have hold : ∀ k, k < w.heap.size → k ≠ pb → w'.heap[k]? = w.heap[k]? := fun k hk hp => by
  rw [hh]; exact (Below.heap_setCell W _ _ k hp).trans (hG.bel.block k hk)
 have hsz : w.heap.size ≤ w'.heap.size := by rw [hh, World.size_setCell]; exact hG.bel.size
 refine ⟨⟨?_, .inr ⟨g, _, rfl, hB, by rw [z1]; omega, h1, h2, fun j hj => z2 j (by omega)⟩⟩, ⟨he, hsz, fun k hk hp hb => hold k hk hp, fun b cur hb hc => ?_⟩, ⟨by omega, .inr ⟨g, rfl, hG.ge⟩⟩, ⟨blk_lt hB, hgn, fun _ => by omega, _, hB, by rw [z1]; omega⟩, .inl hG.ge, fun i hi => ?_⟩
 ·rw [hh]; exact blk_set hpW 1 _
 ·obtain ⟨hne, hlb⟩ := hS.ne hb
  exact ⟨cur, (hold b hlb hne).trans hc, rfl, fun _ _ => rfl⟩
 ·rw [blk_cell hB, Nat.mul_comm n 5]
  exact z2 n (Nat.le_refl _) (by rw [z1]; omega) i hi
/-- getValue, whatever the cache holds. -/
theorem gv_any (w : World) (pb : Nat) (bs : Value) (B : Option Nat) (n m : Nat) (hS : St w pb bs B n m) (hb : (n + 1) * 80 ≤ 140737488355328) :
  Calls Tryz.prog 48 #[.pointer (some ⟨pb, 1, none⟩)] w fun e w' => ∃ B' m', e = .returned (.pointer (some ⟨B', n * 5, none⟩)) ∧ GvP w w' pb bs B n B' m' := by
 rcases hS.hb with ⟨rfl, rfl, rfl⟩ | ⟨b, cur, rfl, h1, h2, h3, h4, h5⟩
 ·refine (gv_grow w pb bs none 0 [] hS.hp (.inl ⟨rfl, rfl, rfl⟩) hb).mono ?_
  rintro e w' ⟨g, c, W, rfl, k1, k2, hG, hh, he⟩
  exact ⟨g, c, rfl, grow_post hS rfl (fun b cur hb => by cases hb) k1 k2 hG hh he⟩
 ·by_cases hlt : n < m
  ·refine (gv_room w pb bs b n m hS hlt (by simp only [maxLen] at h4; omega)).mono ?_
   rintro e w' ⟨rfl, hh, he⟩
   exact ⟨b, m, rfl, room_post hS hlt hh he⟩
  ·obtain rfl : m = n := by omega
   refine (gv_grow w pb bs (some ⟨b, 0, none⟩) m cur.toList hS.hp (.inr ⟨_, rfl, by rw [Array.length_toList]; omega, fun j v hj => ?_⟩) hb).mono ?_
   ·have hadd : (⟨b, 0, none⟩ : Addr).add j = ⟨b, j, none⟩ := by unfold Addr.add; split <;> simp_all
    rw [hadd, blk_cell h1]
    simpa using hj
   ·rintro e w' ⟨g, c, W, rfl, k1, k2, hG, hh, he⟩
    refine ⟨g, c, rfl, grow_post hS (by rw [Array.length_toList]; omega) (fun b' cur' hb hc => ?_) k1 k2 hG hh he⟩
    obtain rfl := Option.some.inj hb
    rw [h1] at hc
    injection hc with hc
    injection hc with hc
    rw [hc]
set_option maxHeartbeats 4000000 in
set_option maxRecDepth 100000 in
theorem reset_nil (w : World) (vb vo : Nat) (hc : w.cell? ⟨vb, vo, none⟩ = some (.slice none 0 0)) (hf : w.frozen? ⟨vb, vo, none⟩ = false) (v1 : Value) (hc1 : w.cell? ⟨vb, vo + 1, none⟩ = some v1) (hf1 : w.frozen? ⟨vb, vo + 1, none⟩ = false) :
  Calls Tryz.prog 72 #[.pointer (some ⟨vb, vo, none⟩)] w fun e w' => e = .returned (.tuple #[]) ∧ w'.heap = ((w.setCell ⟨vb, vo, none⟩ (.slice none 0 0)).setCell ⟨vb, vo + 1, none⟩ (.bool false)).heap ∧ Env w w' := by
 have hcl : ∀ (ty : TypeId) (W : World), (Builtin.clear_ #[81] ty #[.slice none 0 0]).run Tryz.prog W = .ok (.tuple #[]) W := fun ty W => by
  simp [Builtin.clear_, run_underlying Tryz.underlying81]
 go_enter Tryz.func72, Tryz.ntmps72
 go_wp2
 go_end0
 exact ⟨rfl, rfl, rfl, rfl, rfl⟩
set_option maxHeartbeats 4000000 in
set_option maxRecDepth 100000 in
theorem gk_room (w : World) (vb vo G n m : Nat) (hc : w.cell? ⟨vb, vo, none⟩ = some (.slice (some ⟨G, 0, none⟩) n m)) (hf : w.frozen? ⟨vb, vo, none⟩ = false) (hlt : n < m) (hm : m ≤ 9223372036854775807) :
  Calls Tryz.prog 73 #[.pointer (some ⟨vb, vo, none⟩)] w fun e w' => e = .returned (.pointer (some ⟨G, n * 2, none⟩)) ∧ w'.heap = (w.setCell ⟨vb, vo, none⟩ (.slice (some ⟨G, 0, none⟩) (n + 1) m)).heap ∧ Env w w' := by
 have t1 : decide ((n : Int) < (m : Int)) = true := decide_eq_true (by omega)
 have t2 : decide (n < m) = true := decide_eq_true hlt
 go_enter Tryz.func73, Tryz.ntmps73
 go_wp2
 go_quiet (fail)
 go_wp2
 have w1 : IntKind.i64.wrap ((n : Int) + 1) = (n : Int) + 1 := by rw [i64_w]; exact Go.IntWalk.wrap64_in _ (by omega)
 have w2 : wrap64 ((n : Int) + 1) = (n : Int) + 1 := Go.IntWalk.wrap64_in _ (by omega)
 have q1 : (0 ≤ (n : Int) + 1) = True := eq_true (by omega)
 have q2 : (((n : Int) + 1) ≤ (m : Int)) = True := eq_true (by omega)
 have q3 : ((n : Int) + 1).toNat = n + 1 := by omega
 refine wp_region_still_tail 14 (by kernel_rfl) (by kernel_rfl) ?_
 simp only [List.take_succ_cons, List.take_zero, List.drop_succ_cons, List.drop_zero]
 change wpStill _ _ (w.drewN (nq + 1)) (fun a' => wpList _ _ _ _ a' (w.drewN (nq + 1))) _ _
 repeat still_step
 refine wpStill_nil ?_
 go_wp2
 go_quiet (fail)
 go_wp2
 go_ret
 exact ⟨rfl, rfl, rfl, rfl, rfl⟩
def zKv : List Value := [.string ⟨#[]⟩, .pointer none]
theorem info127 : (Tryz.prog.info? 127).map (fun i => (i.zero, i.size, i.bytes)) = some (some (.agg zKv.toArray), 2, 24) := by kernel_rfl
set_option maxHeartbeats 4000000 in
set_option maxRecDepth 100000 in
theorem gk_grow (w : World) (vb vo : Nat) (A : Option Addr) (n : Nat) (olds : List Value) (hc : w.cell? ⟨vb, vo, none⟩ = some (.slice A n n)) (hf : w.frozen? ⟨vb, vo, none⟩ = false)
  (hA : (A = none ∧ n = 0 ∧ olds = []) ∨ ∃ b, A = some b ∧ olds.length = n * 2 ∧ ∀ j v, olds[j]? = some v → w.cell? (b.add j) = some v) (hb : (n + 1) * 24 ≤ 140737488355328) :
  Calls Tryz.prog 73 #[.pointer (some ⟨vb, vo, none⟩)] w fun e w' => ∃ g c W, e = .returned (.pointer (some ⟨g, n * 2, none⟩)) ∧ n + 1 ≤ c ∧ c ≤ maxLen ∧ Gw w W g vb ((olds ++ zKv).toArray ++ Builtin.zeroCells zKv.toArray (c - (n + 1))) 127 ∧
   w'.heap = (W.setCell ⟨vb, vo, none⟩ (.slice (some ⟨g, 0, none⟩) (n + 1) c)).heap ∧ Env w w' := by
 have hlt := World.block_lt_of_cell? w _ hc
 have t1 : decide ((n : Int) < (n : Int)) = false := decide_eq_false (by omega)
 have t2 : decide (n < n) = false := decide_eq_false (by omega)
 obtain ⟨i0, hi, hz0, hz1, hz2⟩ := info_parts info127
 have HA := sd hA
 have HC := sd hc
 have HF := sd hf
 clear hA
 go_enter Tryz.func73, Tryz.ntmps73
 go_wp2
 go_quiet (fail)
 go_wp2_with (at_builtin; refine append_new rfl _ _ 81 127 rfl i0 (.agg zKv.toArray) zKv.toArray (by rfl) 2 24 Tryz.underlying81 hi hz0 hz1 hz2 A n olds rfl (olds_later HA.out nq _) ⟨_, 0, none⟩ zKv rfl rfl (new_cells nq) hb (by simp only [maxLen]; omega) ?_)
 intro c h1 h2
 have HG := gw_of (w := w) vb nq (Obj.cells #[Value.string ⟨#[]⟩, Value.pointer none] 127) ((olds ++ zKv).toArray ++ Builtin.zeroCells zKv.toArray (c - (n + 1))) 127
 generalize (((w.drewN nq).alloc (Obj.cells #[Value.string ⟨#[]⟩, Value.pointer none] 127)).alloc (.cells ((olds ++ zKv).toArray ++ Builtin.zeroCells zKv.toArray (c - (n + 1))) 127)).drew = W at HG ⊢
 generalize w.heap.size + 1 = g at HG ⊢
 have hc3 := (HG.bel.cell (p := ⟨vb, vo, none⟩) hlt).trans HC.out
 have hf3 := (HG.bel.frozen (p := ⟨vb, vo, none⟩) hlt).trans HF.out
 have HGA := sd HG
 clear HG hc hf
 have w1 : IntKind.i64.wrap ((n : Int) + 1 - 1) = (n : Int) := by rw [i64_w, show (n : Int) + 1 - 1 = n by omega]; exact Go.IntWalk.wrap64_in _ (by omega)
 have w2 : wrap64 ((n : Int) + 1 - 1) = (n : Int) := by rw [show (n : Int) + 1 - 1 = n by omega]; exact Go.IntWalk.wrap64_in _ (by omega)
 go_wp2
 go_quiet (fail)
 go_wp2
 go_ret
 exact ⟨g, c, W, rfl, h1, h2, HGA.out, rfl, (Env.of_below HGA.out.bel).1, (Env.of_below HGA.out.bel).2.1, (Env.of_below HGA.out.bel).2.2⟩
end Go.Proofs.YtaihmpdhaikfkaaGreatDoor.PFnFjFloat
/- The library's contracts that the walk leans on, laid at this dump: strings.IndexByte, strconv.toError (a syntax error), strconv.lower. -/
namespace Go.Proofs
open Go.Shelf
def Tryz.lays137_ren : Go.Shelf.Ren := ⟨fun | 137 => 75 | 217 => 86 | 266 => 94 | n => n, fun | 9 => 9 | 5 => 5 | 3 => 3 | n => n, fun | n => n⟩
theorem Tryz.lays137 : Go.Proofs.Lays.n137 Tryz.prog Tryz.lays137_ren := {
 mixed := by kernel_rfl
 f137 := Tryz.func75.trans (congrArg some (by kernel_rfl))
 f217 := Tryz.func86.trans (congrArg some (by kernel_rfl))
 f266 := Tryz.func94.trans (congrArg some (by kernel_rfl))
 t3 := Tryz.underlying3
 a3 := Tryz.isAgg3
 z3 := Tryz.sizeOf3
 v3 := Tryz.zeroValue3
 t5 := Tryz.underlying5
 a5 := Tryz.isAgg5
 z5 := Tryz.sizeOf5
 v5 := Tryz.zeroValue5
 t9 := Tryz.underlying9
 a9 := Tryz.isAgg9
 z9 := Tryz.sizeOf9
 v9 := Tryz.zeroValue9 }
open Go.RowKit in
/-- strings.IndexByte: "IndexByte returns the index of the first instance of c in s, or -1 if c is not present in s.": IT RETURNS 'Lib.indexByte s c'; the world is as it was. (LAID: no walk: one application.) -/
theorem Tryz.strings_IndexByte (s : ByteArray) (c : Int) (w : World) :
  Calls Tryz.prog 75 #[.string s, .int .u8 c] w fun e w' => e = .returned (.int .i64 (Lib.indexByte s.data.toList c.toNat.toUInt8)) ∧ w' = w := Any.strings_IndexByte Tryz.lays137 s c w
def Tryz.laysC245_ren : Go.Shelf.Ren := ⟨fun | 245 => 81 | 279 => 89 | 280 => 90 | 281 => 91 | 282 => 92 | 316 => 99 | 171 => 100 | 205 => 32 | 243 => 114 | 246 => 129 | 283 => 134 | 284 => 135 | 285 => 136 | 286 => 137 | 129 => 118 | 317 => 140 | 318 => 122 | 319 => 141 | 320 => 142 | 337 => 143 | 338 => 144 | n => n, fun | 9 => 9 | 3 => 3 | 75 => 48 | 167 => 144 | 4 => 4 | 168 => 145 | 210 => 154 | 37 => 40 | 0 => 0 | 127 => 178 | 145 => 103 | 143 => 101 | 2 => 2 | 171 => 206 | 53 => 66 | 5 => 5 | 173 => 208 | 212 => 215 | 51 => 139 | 20 => 20 | 213 => 216 | 46 => 104 | 232 => 219 | 233 => 220 | 80 => 221 | n => n, fun | 15 => 5 | 16 => 6 | 17 => 16 | 18 => 17 | 19 => 18 | n => n⟩
theorem Tryz.laysC245 : Go.Proofs.LaysC.n245 Tryz.prog Tryz.laysC245_ren := {
 mixed := by kernel_rfl
 f129 := Tryz.func118.trans (congrArg some (by kernel_rfl))
 f171 := Tryz.func100.trans (congrArg some (by kernel_rfl))
 f205 := Tryz.func32.trans (congrArg some (by kernel_rfl))
 f243 := Tryz.func114.trans (congrArg some (by kernel_rfl))
 f245 := Tryz.func81.trans (congrArg some (by kernel_rfl))
 f246 := Tryz.func129.trans (congrArg some (by kernel_rfl))
 f279 := Tryz.func89.trans (congrArg some (by kernel_rfl))
 f280 := Tryz.func90.trans (congrArg some (by kernel_rfl))
 f281 := Tryz.func91.trans (congrArg some (by kernel_rfl))
 f282 := Tryz.func92.trans (congrArg some (by kernel_rfl))
 f283 := Tryz.func134.trans (congrArg some (by kernel_rfl))
 f284 := Tryz.func135.trans (congrArg some (by kernel_rfl))
 f285 := Tryz.func136.trans (congrArg some (by kernel_rfl))
 f286 := Tryz.func137.trans (congrArg some (by kernel_rfl))
 f316 := Tryz.func99.trans (congrArg some (by kernel_rfl))
 f317 := Tryz.func140.trans (congrArg some (by kernel_rfl))
 f318 := Tryz.func122.trans (congrArg some (by kernel_rfl))
 f319 := Tryz.func141.trans (congrArg some (by kernel_rfl))
 f320 := Tryz.func142.trans (congrArg some (by kernel_rfl))
 f337 := Tryz.func143.trans (congrArg some (by kernel_rfl))
 f338 := Tryz.func144.trans (congrArg some (by kernel_rfl))
 t0 := Tryz.underlying0
 a0 := Tryz.isAgg0
 z0 := Tryz.sizeOf0
 v0 := Tryz.zeroValue0
 t2 := Tryz.underlying2
 a2 := Tryz.isAgg2
 z2 := Tryz.sizeOf2
 v2 := Tryz.zeroValue2
 t3 := Tryz.underlying3
 a3 := Tryz.isAgg3
 z3 := Tryz.sizeOf3
 v3 := Tryz.zeroValue3
 t4 := Tryz.underlying4
 a4 := Tryz.isAgg4
 z4 := Tryz.sizeOf4
 v4 := Tryz.zeroValue4
 t5 := Tryz.underlying5
 a5 := Tryz.isAgg5
 z5 := Tryz.sizeOf5
 v5 := Tryz.zeroValue5
 t9 := Tryz.underlying9
 a9 := Tryz.isAgg9
 z9 := Tryz.sizeOf9
 v9 := Tryz.zeroValue9
 t20 := Tryz.underlying20
 a20 := Tryz.isAgg20
 z20 := Tryz.sizeOf20
 v20 := Tryz.zeroValue20
 t37 := Tryz.underlying40
 a37 := Tryz.isAgg40
 z37 := Tryz.sizeOf40
 v37 := Tryz.zeroValue40
 t46 := Tryz.underlying104
 a46 := Tryz.isAgg104
 z46 := Tryz.sizeOf104
 v46 := Tryz.zeroValue104
 t51 := Tryz.underlying139
 a51 := Tryz.isAgg139
 z51 := Tryz.sizeOf139
 v51 := Tryz.zeroValue139
 t53 := Tryz.underlying66
 a53 := Tryz.isAgg66
 z53 := Tryz.sizeOf66
 v53 := Tryz.zeroValue66
 t75 := Tryz.underlying48
 a75 := Tryz.isAgg48
 z75 := Tryz.sizeOf48
 v75 := Tryz.zeroValue48
 t127 := Tryz.underlying178
 a127 := Tryz.isAgg178
 z127 := Tryz.sizeOf178
 v127 := Tryz.zeroValue178
 t143 := Tryz.underlying101
 a143 := Tryz.isAgg101
 z143 := Tryz.sizeOf101
 v143 := Tryz.zeroValue101
 t145 := Tryz.underlying103
 a145 := Tryz.isAgg103
 z145 := Tryz.sizeOf103
 v145 := Tryz.zeroValue103
 t167 := Tryz.underlying144
 a167 := Tryz.isAgg144
 z167 := Tryz.sizeOf144
 v167 := Tryz.zeroValue144
 t168 := Tryz.underlying145
 a168 := Tryz.isAgg145
 z168 := Tryz.sizeOf145
 v168 := Tryz.zeroValue145
 t171 := Tryz.underlying206
 a171 := Tryz.isAgg206
 z171 := Tryz.sizeOf206
 v171 := Tryz.zeroValue206
 t173 := Tryz.underlying208
 a173 := Tryz.isAgg208
 z173 := Tryz.sizeOf208
 v173 := Tryz.zeroValue208
 t210 := Tryz.underlying154
 a210 := Tryz.isAgg154
 z210 := Tryz.sizeOf154
 v210 := Tryz.zeroValue154
 t212 := Tryz.underlying215
 a212 := Tryz.isAgg215
 z212 := Tryz.sizeOf215
 v212 := Tryz.zeroValue215
 t213 := Tryz.underlying216
 a213 := Tryz.isAgg216
 z213 := Tryz.sizeOf216
 t232 := Tryz.underlying219
 a232 := Tryz.isAgg219
 z232 := Tryz.sizeOf219
 v232 := Tryz.zeroValue219
 t233 := Tryz.underlying220
 a233 := Tryz.isAgg220
 z233 := Tryz.sizeOf220
 v233 := Tryz.zeroValue220
 g15 := by kernel_rfl
 g16 := by kernel_rfl
 g17 := by kernel_rfl
 g18 := by kernel_rfl
 g19 := by kernel_rfl
 t80 := Tryz.underlying221
 a80 := Tryz.isAgg221
 z80 := Tryz.sizeOf221
 v80 := Tryz.zeroValue221
 i0 := by kernel_rfl
 i2 := by kernel_rfl
 i3 := by kernel_rfl
 i4 := by kernel_rfl
 i5 := by kernel_rfl
 i9 := by kernel_rfl
 i20 := by kernel_rfl
 i37 := by kernel_rfl
 i46 := by kernel_rfl
 i51 := by kernel_rfl
 i53 := by kernel_rfl
 i75 := by kernel_rfl
 i80 := by kernel_rfl
 i127 := by kernel_rfl
 i143 := by kernel_rfl
 i145 := by kernel_rfl
 i167 := by kernel_rfl
 i168 := by kernel_rfl
 i171 := by kernel_rfl
 i173 := by kernel_rfl
 i210 := by kernel_rfl
 i212 := by kernel_rfl
 i232 := by kernel_rfl
 i233 := by kernel_rfl
 m15 := by kernel_rfl
 m16 := by kernel_rfl
 m17 := by kernel_rfl
 m18 := by kernel_rfl
 m19 := by kernel_rfl
 c0 := by kernel_rfl
 c2 := by kernel_rfl
 c3 := by kernel_rfl
 c4 := by kernel_rfl
 c5 := by kernel_rfl
 c9 := by kernel_rfl
 c20 := by kernel_rfl
 c37 := by kernel_rfl
 c46 := by kernel_rfl
 c51 := by kernel_rfl
 c53 := by kernel_rfl
 c75 := by kernel_rfl
 c80 := by kernel_rfl
 c127 := by kernel_rfl
 c143 := by kernel_rfl
 c145 := by kernel_rfl
 c167 := by kernel_rfl
 c168 := by kernel_rfl
 c171 := by kernel_rfl
 c173 := by kernel_rfl
 c210 := by kernel_rfl
 c212 := by kernel_rfl
 c213 := by kernel_rfl
 c232 := by kernel_rfl
 c233 := by kernel_rfl }
open Go.RowKit in
/-- strconv.toError, at the inner package's ErrSyntax: 'syntaxError(fn, s)' as an error: A *NumError IN A NEW BLOCK. (LAID: no walk: one application.) -/
theorem Tryz.strconv_toError_syntax (fn s : ByteArray) (base bits : Int) (ev : Value) (w : World) (hlim : s.size ≤ 281474976710656) (hv : w.cell? ⟨5, 0, none⟩ = some ev) (hev : ev = .nilIface ∨ ∃ te pe, ev = .iface te pe) :
  Calls Tryz.prog 81 #[.string fn, .string s, .int .i64 base, .int .i64 bits, .iface 144 (.int .i64 2)] w fun e w' => ∃ N, e = .returned (.iface 145 (.pointer (some ⟨N, 0, none⟩))) ∧ w.heap.size ≤ N ∧ w'.heap[N]? = some (.cells #[.string fn, .string s, ev] 154 (0, 0)) ∧ Below w.heap.size w w' := Any.strconv_toError_syntax Tryz.laysC245 fn s base bits ev w hlim hv hev
def Tryz.lays321_ren : Go.Shelf.Ren := ⟨fun | 321 => 95 | n => n, fun | 5 => 5 | n => n, fun | n => n⟩
theorem Tryz.lays321 : Go.Proofs.Lays.n321 Tryz.prog Tryz.lays321_ren := {
 mixed := by kernel_rfl
 f321 := Tryz.func95.trans (congrArg some (by kernel_rfl))
 t5 := Tryz.underlying5
 a5 := Tryz.isAgg5
 z5 := Tryz.sizeOf5
 v5 := Tryz.zeroValue5 }
open Go.RowKit in
/-- internal/strconv.lower: 'c | ('x' - 'X')': the bit 32 set. The world is as it was. (LAID: no walk: one application.) -/
theorem Tryz.internal_strconv_lower (c : Int) (w : World) :
  Calls Tryz.prog 95 #[.int .u8 c] w fun e w' => e = .returned (.int .u8 (bits .or .u8 c 32)) ∧ w' = w := Any.internal_strconv_lower Tryz.lays321 c w
end Go.Proofs
/- errors.New, and the parts of the parser that cut a string: they return, whatever the text. -/
namespace Go.Proofs.YtaihmpdhaikfkaaGreatDoor.PFnFjFloat
open Go.RowKit Go.Proofs.YtaihmpdhaikfkaaGreatDoorW.PrintWords Go.Proofs.YtaihmpdhaikfkaaGreatDoorW.PrintLast Go.Proofs.YtaihmpdhaikfkaaGreatDoorW.PrintMore
set_option maxHeartbeats 4000000 in
set_option maxRecDepth 100000 in
theorem err_new (s : ByteArray) (w : World) : Calls Tryz.prog 32 #[.string s] w fun e w' => ∃ ea : Addr, e = .returned (.iface 101 (.pointer (some ea))) ∧ Below w.heap.size w w' := by
 go_enter Tryz.func32, Tryz.ntmps32
 go_wp2
 go_ret
 exact ⟨_, rfl, below_alloc (Below.refl _ _) _⟩
theorem bt_nat (s : ByteArray) (k : Nat) : ∀ h : k < s.size, ((s[k]'h).toNat : Int) = bt s (k : Int) := fun h => by
 have := bt_at s (k : Int)
 simpa using this h
/-- What a cut of a raw string or name gives: two parts, or an error. -/
def RawP (s : ByteArray) (w : World) (e : Ending) (w' : World) : Prop :=
 Below w.heap.size w w' ∧ ((∃ ss tail : ByteArray, e = .returned (.tuple #[.string ss, .string tail, .nilIface]) ∧ ss.size ≤ s.size ∧ tail.size + 1 ≤ s.size) ∨ ∃ (a b : ByteArray) (ea : Addr), e = .returned (.tuple #[.string a, .string b, .iface 101 (.pointer (some ea))]))
theorem below_draws {B : Nat} {w W : World} (h : Below B w W) (k : Nat) : Below B w (W.drewN k) := pw_below_drewN h k
theorem size_cut (s : ByteArray) (i j : Nat) : (s.extract i j).size = min j s.size - i := by simp
theorem indexByte_range (l : List UInt8) (c : UInt8) : -1 ≤ Lib.indexByte l c ∧ Lib.indexByte l c < l.length := by
 induction l with
 | nil => simp [Lib.indexByte]
 | cons b l ih =>
  simp only [Lib.indexByte, List.length_cons]
  split
  ·omega
  ·split <;> omega
set_option maxHeartbeats 4000000 in
set_option maxRecDepth 100000 in
theorem rawKey (s : ByteArray) (hs : s.size < 2 ^ 40) (w : World) (hraw : ∀ W, Calls Tryz.prog 47 #[.string s] W (RawP s W)) : Calls Tryz.prog 74 #[.string s] w (RawP s w) := by
 have HR := sd hraw
 clear hraw
 go_enter Tryz.func74, Tryz.ntmps74
 go_wp2
 go_loop [8] (fun i => ∃ k : Nat, k ≤ s.size ∧ i = .int .i64 k) (fun i => s.size - (intOf i).toNat)
 case atStart => exact ⟨0, Nat.zero_le _, rfl⟩
 case round =>
  obtain ⟨k, hk, rfl⟩ := hrel
  by_cases hlt : k < s.size
  ·have hx := bt_nat s k
   have t1 : decide ((k : Int) < (s.size : Int)) = true := decide_eq_true (by omega)
   have t2 : decide (k < s.size) = true := decide_eq_true hlt
   have q1 : (0 ≤ (k : Int)) = True := eq_true (by omega)
   have q2 : ((k : Int) < (s.size : Int)) = True := eq_true (by omega)
   have w1 : IntKind.i64.wrap ((k : Int) + 1) = (k : Int) + 1 := by rw [i64_w]; exact Go.IntWalk.wrap64_in _ (by omega)
   have w2 : wrap64 ((k : Int) + 1) = (k : Int) + 1 := Go.IntWalk.wrap64_in _ (by omega)
   by_cases c34 : bt s (k : Int) = 34
   ·have b34 : (bt s (k : Int) == 34) = true := beq_iff_eq.mpr c34
    have q3 : (0 ≤ (k : Int) + 1) = True := eq_true (by omega)
    have q4 : ((k : Int) + 1 ≤ (s.size : Int)) = True := eq_true (by omega)
    have q5 : ((k : Int) ≤ (s.size : Int)) = True := eq_true (by omega)
    have q6 : ((k : Int) + 1).toNat = k + 1 := by omega
    go_wp2
    go_quiet (fail)
    go_wp2
    go_ret3
    refine ⟨below_draws (Below.refl _ _) _, .inl ⟨_, _, rfl, ?_, ?_⟩⟩
    ·rw [size_cut]; omega
    ·rw [size_cut]; omega
   ·have b34 : (bt s (k : Int) == 34) = false := beq_eq_false_iff_ne.mpr c34
    by_cases c92 : bt s (k : Int) = 92
    ·have b92 : (bt s (k : Int) == 92) = true := beq_iff_eq.mpr c92
     go_wp2_with (first | (go_at_call 47; (with_reducible refine (HR.out _).mono ?_); rintro e0 W ⟨hb, hr⟩; have HB := sd hb; clear hb; rcases hr with ⟨ss, tail, rfl, h1, h2⟩ | ⟨a, b, ea, rfl⟩))
     ·go_ret3
      exact ⟨HB.out, .inl ⟨_, _, rfl, h1, h2⟩⟩
     ·go_ret3
      exact ⟨HB.out, .inr ⟨_, _, _, rfl⟩⟩
    ·have b92 : (bt s (k : Int) == 92) = false := beq_eq_false_iff_ne.mpr c92
     go_wp2
     go_round
     case rel => exact ⟨k + 1, by omega, by go_num⟩
     case measure => simp [intOf]; omega
  ·have t1 : decide ((k : Int) < (s.size : Int)) = false := decide_eq_false (by omega)
   have t2 : decide (k < s.size) = false := decide_eq_false hlt
   go_wp2_with (first | (go_at_call 32; (with_reducible refine (err_new _ _).mono ?_); rintro e0 W ⟨ea, rfl, hb⟩; have HB := sd hb; clear hb))
   go_ret3
   exact ⟨HB.out, .inr ⟨_, _, _, rfl⟩⟩
/-- What the walk is told of a quotation mark behind m + 1 bytes. -/
structure IxM (s : ByteArray) (m : Nat) : Prop where
 lt : m + 1 < s.size
theorem wrap_m {s : ByteArray} {m : Nat} (h : IxM s m) (hs : s.size < 2 ^ 40) : IntKind.i64.wrap (m : Int) = (m : Int) ∧ wrap64 (m : Int) = (m : Int) := by
 have h1 := h.lt
 have h2 : wrap64 (m : Int) = (m : Int) := Go.IntWalk.wrap64_in _ (by omega)
 exact ⟨by rw [i64_w]; exact h2, h2⟩
/-- strings.IndexByte: where it is, if it is there. -/
theorem ixb (s : ByteArray) (hs : s.size < 2 ^ 40) (w : World) : Calls Tryz.prog 75 #[.string s, .int .u8 34] w fun e w' => (e = .returned (.int .i64 (-1)) ∨ (e = .returned (.int .i64 0) ∧ Aside0 (0 < s.size)) ∨
  ∃ m : Nat, e = .returned (.int .i64 ((m : Int) + 1)) ∧ IxM s m ∧ (((m : Int) + 1 == 0) = false) ∧ IntKind.i64.wrap (m : Int) = (m : Int) ∧ wrap64 (m : Int) = (m : Int) ∧ (∀ h : m < s.size, ((s[m]'h).toNat : Int) = bt s (m : Int)) ∧ ((0 ≤ (m : Int)) = True) ∧ (((m : Int) < (s.size : Int)) = True) ∧
   (((bt s (m : Int) == 92) = true ∧ (bt s (m : Int) != 92) = false) ∨ ((bt s (m : Int) == 92) = false ∧ (bt s (m : Int) != 92) = true))) ∧ w = w' := by
 refine (Tryz.strings_IndexByte s 34 w).mono fun e w' ⟨h1, h2⟩ => ⟨?_, h2.symm⟩
 have h := indexByte_range s.data.toList (34 : Int).toNat.toUInt8
 have hz : s.data.toList.length = s.size := by simp
 rw [h1]
 generalize Lib.indexByte s.data.toList (34 : Int).toNat.toUInt8 = n at *
 rw [hz] at h
 by_cases a : n = -1
 ·subst a; exact .inl rfl
 ·by_cases b : n = 0
  ·subst b; exact .inr (.inl ⟨rfl, ⟨by omega⟩⟩)
  ·obtain ⟨m, rfl⟩ : ∃ m : Nat, n = (m : Int) + 1 := ⟨(n - 1).toNat, by omega⟩
   have hm : IxM s m := ⟨by omega⟩
   obtain ⟨w1, w2⟩ := wrap_m hm hs
   refine .inr (.inr ⟨m, rfl, hm, beq_eq_false_iff_ne.mpr (by omega), w1, w2, bt_nat s m, eq_true (by omega), eq_true (by omega), ?_⟩)
   by_cases c : bt s (m : Int) = 92
   ·exact .inl ⟨beq_iff_eq.mpr c, by simp [c]⟩
   ·exact .inr ⟨beq_eq_false_iff_ne.mpr c, bne_iff_ne.mpr c⟩
def strLen : Value → Nat
 | .string t => t.size
 | _ => 0
/-- Sums and cuts at a quotation mark behind m + 1 bytes. -/
theorem cut_facts {s : ByteArray} {m : Nat} (h : m + 1 < s.size) (hs : s.size < 2 ^ 40) : IntKind.i64.wrap ((m : Int) + 1 + 1) = (m : Int) + 1 + 1 ∧ wrap64 ((m : Int) + 1 + 1) = (m : Int) + 1 + 1 ∧ ((0 ≤ (m : Int) + 1 + 1) = True) ∧ (((m : Int) + 1 + 1 ≤ (s.size : Int)) = True) ∧ ((0 ≤ (m : Int) + 1) = True) ∧ (((m : Int) + 1 ≤ (s.size : Int)) = True) ∧ ((m : Int) + 1 + 1).toNat = m + 2 ∧ ((m : Int) + 1).toNat = m + 1 := by
 have h2 : wrap64 ((m : Int) + 1 + 1) = (m : Int) + 1 + 1 := Go.IntWalk.wrap64_in _ (by omega)
 exact ⟨by rw [i64_w]; exact h2, h2, eq_true (by omega), eq_true (by omega), eq_true (by omega), eq_true (by omega), by omega, by omega⟩
theorem wrap_both {x : Int} (h : -9223372036854775808 ≤ x ∧ x ≤ 9223372036854775807) : IntKind.i64.wrap x = x ∧ wrap64 x = x := by
 have h2 : wrap64 x = x := Go.IntWalk.wrap64_in _ h
 exact ⟨by rw [i64_w]; exact h2, h2⟩
/-- The cut of the whole text up to a quotation mark of its rest. -/
theorem ret_facts {s t : ByteArray} {m : Int} (h0 : 0 ≤ m) (h : m < t.size) (ht : t.size ≤ s.size) (hs : s.size < 2 ^ 40) : IntKind.i64.wrap ((s.size : Int) - (t.size : Int)) = (s.size : Int) - (t.size : Int) ∧ wrap64 ((s.size : Int) - (t.size : Int)) = (s.size : Int) - (t.size : Int) ∧
  IntKind.i64.wrap ((s.size : Int) - (t.size : Int) + m) = (s.size : Int) - (t.size : Int) + m ∧ wrap64 ((s.size : Int) - (t.size : Int) + m) = (s.size : Int) - (t.size : Int) + m ∧ ((0 ≤ (s.size : Int) - (t.size : Int) + m) = True) ∧ (((s.size : Int) - (t.size : Int) + m ≤ (s.size : Int)) = True) := by
 obtain ⟨a1, a2⟩ := wrap_both (x := (s.size : Int) - (t.size : Int)) (by omega)
 obtain ⟨a3, a4⟩ := wrap_both (x := (s.size : Int) - (t.size : Int) + m) (by omega)
 exact ⟨a1, a2, a3, a4, eq_true (by omega), eq_true (by omega)⟩
theorem ret_nat {s t : ByteArray} (ht : t.size ≤ s.size) : (((t.size : Int) ≤ (s.size : Int)) = True) ∧ ((t.size ≤ s.size) = True) := ⟨eq_true (by omega), eq_true ht⟩
theorem size_tail {t t2 : ByteArray} {m : Nat} (h : t.extract (m + 2) t.size = t2) (hm : m + 1 < t.size) : t2.size + (m + 2) = t.size := by
 rw [← h, size_cut]; omega
theorem lt40 {s t t2 : ByteArray} {m : Nat} (he : t2.size + (m + 2) = t.size) (ht : m + 1 < t.size ∧ t.size ≤ s.size) (hs : s.size < 2 ^ 40) : t2.size < 2 ^ 40 := by omega
theorem le_s {s t t2 : ByteArray} {m : Nat} (he : t2.size + (m + 2) = t.size) (ht : m + 1 < t.size ∧ t.size ≤ s.size) : t2.size ≤ s.size := by omega
theorem lt_t {t t2 : ByteArray} {m : Nat} (he : t2.size + (m + 2) = t.size) : t2.size < t.size := by omega
theorem int_lt {m : Nat} {t : ByteArray} (h : m + 1 < t.size) : (m : Int) + 1 < t.size := by omega
theorem int_lt0 {t : ByteArray} (h : 0 < t.size) : (0 : Int) < t.size := by omega
theorem int_le1 {t : ByteArray} (h : 0 < t.size) : (1 : Int) ≤ t.size := by omega
theorem int_pos (m : Nat) : (0 : Int) ≤ (m : Int) + 1 := by omega
theorem cut_le (s : ByteArray) (i j : Nat) : (s.extract i j).size ≤ s.size := by rw [size_cut]; omega
theorem cut_lt {s t : ByteArray} {i : Nat} (hi : 1 ≤ i) (h : i ≤ t.size) (ht : t.size ≤ s.size) : (t.extract i t.size).size + 1 ≤ s.size := by rw [size_cut]; omega
theorem two_le {m : Nat} {t : ByteArray} (h : m + 1 < t.size) : m + 2 ≤ t.size := h
theorem one_le2 (m : Nat) : 1 ≤ m + 2 := by omega
set_option maxHeartbeats 8000000 in
set_option maxRecDepth 100000 in
theorem rawStr (s : ByteArray) (hs : s.size < 2 ^ 40) (w : World) : Calls Tryz.prog 47 #[.string s] w (RawP s w) := by
 have HS := sd hs
 clear hs
 go_enter Tryz.func47, Tryz.ntmps47
 go_wp2_with (first | (go_at_call 75; (with_reducible refine (ixb _ HS.out _).mono ?_); rintro e0 W ⟨hcs, rfl⟩; rcases hcs with rfl | ⟨rfl, hp⟩ | ⟨m, rfl, hm, f1, f2, f3, f4, f5, f6, ⟨f7, f8⟩ | ⟨f7, f8⟩⟩) | (go_at_call 32; (with_reducible refine (err_new _ _).mono ?_); rintro e0 W ⟨ea, rfl, hb⟩; have HB := sd hb; clear hb))
 ·go_ret3
  exact ⟨HB.out, .inr ⟨_, _, _, rfl⟩⟩
 ·have g1 : ((0 : Int) ≤ (s.size : Int)) = True := eq_true (by omega)
  have g2 : ((1 : Int) ≤ (s.size : Int)) = True := eq_true (by have := hp.out; omega)
  go_quiet (fail)
  go_wp2
  go_ret3
  have hp := hp.out
  refine ⟨below_draws (Below.refl _ _) _, .inl ⟨_, _, rfl, Nat.zero_le _, ?_⟩⟩
  ·rw [size_cut]; omega
 ·have HM := sd hm
  clear hm f1 f2 f3 f4 f5 f6 f7 f8
  go_loop [0, 5] (fun v n => ∃ (t : ByteArray) (m : Nat), v = .string t ∧ n = .int .i64 ((m : Int) + 1) ∧ Aside0 (m + 1 < t.size ∧ t.size ≤ s.size)) (fun v _ => strLen v)
  case atStart => exact ⟨s, m, rfl, rfl, ⟨HM.out.lt, Nat.le_refl _⟩⟩
  case round =>
   obtain ⟨t, m, rfl, rfl, HT⟩ := hrel
   obtain ⟨a1, a2⟩ := wrap_m ⟨HT.out.1⟩ (Nat.lt_of_le_of_lt HT.out.2 HS.out)
   go_wp2
   go_loop [7] (fun i => ∃ j : Nat, i = .int .i64 j ∧ Aside0 (j ≤ m)) (fun i => (intOf i).toNat)
   case atStart => exact ⟨m, rfl, ⟨Nat.le_refl _⟩⟩
   case round =>
    obtain ⟨j, rfl, HJ⟩ := hrel
    clear a1 a2
    by_cases hj : j = 0
    ·subst hj
     obtain ⟨g1, g2, g3, g4, g5, g6, g7, g8⟩ := cut_facts HT.out.1 (Nat.lt_of_le_of_lt HT.out.2 HS.out)
     go_wp2_with (first | (go_at_call 75; generalize hte : t.extract (m + 2) t.size = t2; have HE := sd (size_tail hte HT.out.1); clear hte; (with_reducible refine (ixb t2 (lt40 HE.out HT.out HS.out) _).mono ?_); rintro e0 W ⟨hcs, rfl⟩; rcases hcs with rfl | ⟨rfl, hp⟩ | ⟨m', rfl, hm', f1, f2, f3, f4, f5, f6, ⟨f7, f8⟩ | ⟨f7, f8⟩⟩) | (go_at_call 32; (with_reducible refine (err_new _ _).mono ?_); rintro e0 W ⟨ea, rfl, hb⟩; have HB := sd hb; clear hb))
     ·obtain ⟨r1, r2, r3, r4, r5, r6⟩ := ret_facts (m := (m : Int) + 1) (int_pos m) (int_lt HT.out.1) HT.out.2 HS.out
      go_quiet (fail)
      go_wp2
      go_ret3
      exact ⟨below_draws (Below.refl _ _) _, .inl ⟨_, _, rfl, cut_le _ _ _, cut_lt (one_le2 m) HT.out.1 HT.out.2⟩⟩
     ·go_ret3
      exact ⟨HB.out, .inr ⟨_, _, _, rfl⟩⟩
     ·clear g1 g2 g3 g4 g5 g6 g7 g8
      obtain ⟨r1, r2, _, _, _, _⟩ := ret_facts (s := s) (t := t2) (m := 0) (Int.le_refl 0) (int_lt0 hp.out) (le_s HE.out HT.out) HS.out
      obtain ⟨n1, n2⟩ := ret_nat (s := s) (t := t2) (le_s HE.out HT.out)
      have h1 : ((1 : Int) ≤ (t2.size : Int)) = True := eq_true (int_le1 hp.out)
      go_quiet (fail)
      go_wp2
      go_ret3
      exact ⟨below_draws (Below.refl _ _) _, .inl ⟨_, _, rfl, cut_le _ _ _, cut_lt (Nat.le_refl 1) hp.out (le_s HE.out HT.out)⟩⟩
     ·go_round
      case rel => exact ⟨t2, m', rfl, rfl, ⟨hm'.lt, le_s HE.out HT.out⟩⟩
      case measure => exact lt_t HE.out
     ·have hm2 := hm'.lt
      clear g1 g2 g3 g4 g5 g6 g7 g8 f1 f2 f3 f4 f5 f6 f7 f8
      obtain ⟨r1, r2, r3, r4, r5, r6⟩ := ret_facts (s := s) (t := t2) (m := (m' : Int) + 1) (int_pos m') (int_lt hm'.lt) (le_s HE.out HT.out) HS.out
      obtain ⟨k1, k2, k3, k4, k5, k6, k7, k8⟩ := cut_facts hm2 (lt40 HE.out HT.out HS.out)
      go_quiet (fail)
      go_wp2
      go_ret3
      exact ⟨below_draws (Below.refl _ _) _, .inl ⟨_, _, rfl, cut_le _ _ _, cut_lt (one_le2 m') hm'.lt (le_s HE.out HT.out)⟩⟩
    ·obtain ⟨q, rfl⟩ : ∃ q, j = q + 1 := ⟨j - 1, by omega⟩
     have hq : q < t.size := by have := HJ.out; have := HT.out; omega
     have hx := bt_nat t q
     have q1 : (0 ≤ (q : Int)) = True := eq_true (by omega)
     have q2 : ((q : Int) < (t.size : Int)) = True := eq_true (by omega)
     have q3 : decide (0 < (q : Int) + 1) = true := decide_eq_true (by omega)
     have q4 : -9223372036854775808 ≤ (q : Int) ∧ (q : Int) ≤ 9223372036854775807 := by have := HT.out; have := HS.out; omega
     obtain ⟨c1, c2⟩ := wrap_both q4
     clear q4
     by_cases c92 : bt t (q : Int) = 92
     ·have d92 : (bt t (q : Int) == 92) = true := beq_iff_eq.mpr c92
      go_wp2
      go_round
      case rel => exact ⟨q, rfl, ⟨by have := HJ.out; omega⟩⟩
      case measure => simp [intOf]
     ·have d92 : (bt t (q : Int) == 92) = false := beq_eq_false_iff_ne.mpr c92
      obtain ⟨g1, g2, g3, g4, g5, g6, g7, g8⟩ := cut_facts HT.out.1 (Nat.lt_of_le_of_lt HT.out.2 HS.out)
      go_wp2_with (first | (go_at_call 75; generalize hte : t.extract (m + 2) t.size = t2; have HE := sd (size_tail hte HT.out.1); clear hte; (with_reducible refine (ixb t2 (lt40 HE.out HT.out HS.out) _).mono ?_); rintro e0 W ⟨hcs, rfl⟩; rcases hcs with rfl | ⟨rfl, hp⟩ | ⟨m', rfl, hm', f1, f2, f3, f4, f5, f6, ⟨f7, f8⟩ | ⟨f7, f8⟩⟩) | (go_at_call 32; (with_reducible refine (err_new _ _).mono ?_); rintro e0 W ⟨ea, rfl, hb⟩; have HB := sd hb; clear hb))
      ·obtain ⟨r1, r2, r3, r4, r5, r6⟩ := ret_facts (m := (m : Int) + 1) (int_pos m) (int_lt HT.out.1) HT.out.2 HS.out
       go_quiet (fail)
       go_wp2
       go_ret3
       exact ⟨below_draws (Below.refl _ _) _, .inl ⟨_, _, rfl, cut_le _ _ _, cut_lt (one_le2 m) HT.out.1 HT.out.2⟩⟩
      ·go_ret3
       exact ⟨HB.out, .inr ⟨_, _, _, rfl⟩⟩
      ·clear g1 g2 g3 g4 g5 g6 g7 g8
       obtain ⟨r1, r2, _, _, _, _⟩ := ret_facts (s := s) (t := t2) (m := 0) (Int.le_refl 0) (int_lt0 hp.out) (le_s HE.out HT.out) HS.out
       obtain ⟨n1, n2⟩ := ret_nat (s := s) (t := t2) (le_s HE.out HT.out)
       have h1 : ((1 : Int) ≤ (t2.size : Int)) = True := eq_true (int_le1 hp.out)
       go_quiet (fail)
       go_wp2
       go_ret3
       exact ⟨below_draws (Below.refl _ _) _, .inl ⟨_, _, rfl, cut_le _ _ _, cut_lt (Nat.le_refl 1) hp.out (le_s HE.out HT.out)⟩⟩
      ·go_round
       case rel => exact ⟨t2, m', rfl, rfl, ⟨hm'.lt, le_s HE.out HT.out⟩⟩
       case measure => exact lt_t HE.out
      ·have hm2 := hm'.lt
       clear g1 g2 g3 g4 g5 g6 g7 g8 f1 f2 f3 f4 f5 f6 f7 f8
       obtain ⟨r1, r2, r3, r4, r5, r6⟩ := ret_facts (s := s) (t := t2) (m := (m' : Int) + 1) (int_pos m') (int_lt hm'.lt) (le_s HE.out HT.out) HS.out
       obtain ⟨k1, k2, k3, k4, k5, k6, k7, k8⟩ := cut_facts hm2 (lt40 HE.out HT.out HS.out)
       go_quiet (fail)
       go_wp2
       go_ret3
       exact ⟨below_draws (Below.refl _ _) _, .inl ⟨_, _, rfl, cut_le _ _ _, cut_lt (one_le2 m') hm'.lt (le_s HE.out HT.out)⟩⟩
 ·have hm := hm.lt
  obtain ⟨g1, g2, g3, g4, g5, g6, g7, g8⟩ := cut_facts hm HS.out
  go_quiet (fail)
  go_wp2
  go_ret3
  refine ⟨below_draws (Below.refl _ _) _, .inl ⟨_, _, rfl, ?_, ?_⟩⟩
  ·rw [size_cut]; omega
  ·rw [size_cut]; omega
end Go.Proofs.YtaihmpdhaikfkaaGreatDoor.PFnFjFloat
