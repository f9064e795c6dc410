/- Part of the proof that laws.FnJrTypedMisses answers true for every input (the card: text ZF). -/
import Derived.Test.YthgpfljhmhkaiacGreatDoorZC
import Derived.WalkSpells
import Derived.Lib.BufferMore
import Derived.Lib.SliceRun
import Derived.Outline
set_option linter.all false
/- The search for keys of jsonparser, where it finds nothing. -/
namespace Go.Proofs.YthgpfljhmhkaiacGreatDoor.PFnJrTypedMisses
open Go.RowKit Go.Proofs.YthgpfljhmhkaiacGreatDoorW.PrintWords Go.Proofs.YthgpfljhmhkaiacGreatDoorW.PrintLast Go.Proofs.YthgpfljhmhkaiacGreatDoorW.PrintMore
/-- The memory of a search under way: its own three blocks, all elder ones as they were. -/
structure WI (w W : World) (v : Value) : Prop where
 cfg : W.heap[w.heap.size]? = some (.cells #[.bool false, .bool false, .int .i64 0] 85 (0, 0))
 box : W.heap[w.heap.size + 1]? = some (.cells #[v] 44 (0, 0))
 arr : ∃ a t, W.heap[w.heap.size + 1 + 1]? = some (.cells a t (0, 0)) ∧ a.size = 64
 bel : Below w.heap.size w W
structure SkB (keys : List ByteArray) (data : List Int) (i L : Nat) (K : Int) : Prop where
 k0 : -1 ≤ K
 k1 : K < keys.length
 l1 : L ≤ keys.length
 i1 : i ≤ data.length
theorem wi_start (w : World) (v : Value) (a : Array Value) (t : TypeId) (ha : a.size = 64) : WI w (((w.alloc (.cells #[.bool false, .bool false, .int .i64 0] 85)).alloc (.cells #[v] 44)).alloc (.cells a t)) v where
 cfg := blk_alloc (blk_alloc (heap_alloc_new w _) _) _
 box := by
  have := heap_alloc_new (w.alloc (.cells #[.bool false, .bool false, .int .i64 0] 85)) (.cells #[v] 44)
  rw [World.size_alloc] at this
  exact blk_alloc this _
 arr := ⟨a, t, by
  have := heap_alloc_new ((w.alloc (.cells #[.bool false, .bool false, .int .i64 0] 85)).alloc (.cells #[v] 44)) (.cells a t)
  rw [World.size_alloc, World.size_alloc] at this
  exact this, ha⟩
 bel := below_alloc (below_alloc (below_alloc (Below.refl _ _) _) _) _
theorem wi_below {w W W2 : World} {v : Value} (h : WI w W v) (hb : Below W.heap.size W W2) : WI w W2 v :=
 ⟨blk_below h.cfg hb, blk_below h.box hb, by obtain ⟨a, t, h1, h2⟩ := h.arr; exact ⟨a, t, blk_below h1 hb, h2⟩, below_step h.bel hb⟩
theorem wi_drew {w W : World} {v : Value} (h : WI w W v) : WI w W.drew v := ⟨h.cfg, h.box, h.arr, below_drew h.bel⟩
theorem wi_drewN {w W : World} {v : Value} (h : WI w W v) (m : Nat) : WI w (W.drewN m) v := ⟨h.cfg, h.box, h.arr, pw_below_drewN h.bel m⟩
theorem wi_alloc {w W : World} {v : Value} (h : WI w W v) (o : Obj) : WI w (W.alloc o) v := wi_below h (below_alloc (Below.refl _ _) o)
theorem wi_cells {w W : World} {v : Value} (h : WI w W v) : W.cell? ⟨w.heap.size, 0, none⟩ = some (.bool false) ∧ W.cell? ⟨w.heap.size, 1, none⟩ = some (.bool false) ∧ W.cell? ⟨w.heap.size, 2, none⟩ = some (.int .i64 0) ∧ W.cell? ⟨w.heap.size + 1, 0, none⟩ = some v :=
 ⟨(blk_cell h.cfg 0).trans rfl, (blk_cell h.cfg 1).trans rfl, (blk_cell h.cfg 2).trans rfl, (blk_cell h.box 0).trans rfl⟩
theorem cast1 {x : Option Int} {e : Nat} (h : x = some ((e + 1 : Nat) : Int)) : x = some ((e : Int) + 1) := h
theorem cellU {w W : World} {ad : Addr} {data : List Int} (h : Kd.C (Kd.int .u8) w (some ad) data.length data) (hb : Below w.heap.size w W) (j : Nat) (hj : j < data.length) : W.cell? (ad.add j) = some (.int .u8 (rd data (j : Int))) := by
 obtain ⟨ad', e0, hc⟩ := Kd.at_int (Kd.C_below h hb) (j : Int) (by omega) (by omega)
 cases e0
 rw [Int.toNat_natCast] at hc
 exact hc
theorem str_facts {keys : List ByteArray} {data : List Int} {c1 ck i se v : Nat} (h : data.length < 2 ^ 38 ∧ keys.length < 2 ^ 38 ∧ data.length ≤ c1 ∧ keys.length ≤ ck ∧ 0 < keys.length) (he : i + 1 + se + v ≤ data.length) :
  (IntKind.i64.wrap ((i : Int) + 1 + (se : Int)) = (i : Int) + 1 + (se : Int) ∧ wrap64 ((i : Int) + 1 + (se : Int)) = (i : Int) + 1 + (se : Int)) ∧
  (IntKind.i64.wrap ((i : Int) + 1 + (se : Int) + (v : Int)) = (i : Int) + 1 + (se : Int) + (v : Int) ∧ wrap64 ((i : Int) + 1 + (se : Int) + (v : Int)) = (i : Int) + 1 + (se : Int) + (v : Int)) ∧
  (IntKind.i64.wrap ((i : Int) + 1 + (se : Int) + (v : Int) - 1) = (i : Int) + 1 + (se : Int) + (v : Int) - 1 ∧ wrap64 ((i : Int) + 1 + (se : Int) + (v : Int) - 1) = (i : Int) + 1 + (se : Int) + (v : Int) - 1) ∧
  (IntKind.i64.wrap ((i : Int) + 1 + (se : Int) + (v : Int) - 1 + 1) = (i : Int) + 1 + (se : Int) + (v : Int) ∧ wrap64 ((i : Int) + 1 + (se : Int) + (v : Int) - 1 + 1) = (i : Int) + 1 + (se : Int) + (v : Int)) ∧
  (((se : Int) == -1) = false) ∧ (((v : Int) == -1) = false) ∧ ((i : Int) + 1 + (se : Int) + (v : Int)).toNat = i + 1 + se + v ∧
  (IntKind.i64.wrap ((i : Int) + 1 + (se : Int) - 1) = (i : Int) + 1 + (se : Int) - 1 ∧ wrap64 ((i : Int) + 1 + (se : Int) - 1) = (i : Int) + 1 + (se : Int) - 1) := by
 have e : (i : Int) + 1 + (se : Int) + (v : Int) - 1 + 1 = (i : Int) + 1 + (se : Int) + (v : Int) := by omega
 refine ⟨wrap_eq (by omega), wrap_eq (by omega), wrap_eq (by omega), ?_, beq_eq_false_iff_ne.mpr (by omega), beq_eq_false_iff_ne.mpr (by omega), by omega, wrap_eq (by omega)⟩
 rw [e]
 exact wrap_eq (by omega)
theorem rdOf_key {keys : List ByteArray} {L : Nat} {key : ByteArray} (h : keys[L]? = some key) : rdOf ByteArray.empty keys (L : Int) = key := by
 simp [rdOf, List.getD_eq_getElem?_getD, h]
theorem idxK_of {key : ByteArray} (h : bt key 0 = 91) (h0 : 0 < key.size) : IdxK key := by
 cases hb : bytesOf key with
 | nil =>
  have := bytesOf_length key
  rw [hb] at this
  have h3 : (0 : Nat) = key.size := this
  omega
 | cons c r =>
  have : rd (bytesOf key) 0 = bt key 0 := rd_bytesOf key 0
  rw [hb, h] at this
  have h2 : c = 91 := this
  exact ⟨r, by rw [hb, h2]⟩
theorem str_lt {data : List Int} {i se v : Nat} (he : i + 1 + se + v < data.length) : (0 ≤ (i : Int) + 1 + (se : Int) + (v : Int)) = True ∧ ((i : Int) + 1 + (se : Int) + (v : Int) < (data.length : Int)) = True := ⟨eq_true (by omega), eq_true (by omega)⟩
theorem cellV {w W : World} {ad : Addr} {data : List Int} {cc : Int} (h : Kd.C (Kd.int .u8) w (some ad) data.length data) (hb : Below w.heap.size w W) (j : Nat) (hj : j < data.length) (hc : rd data (j : Int) = cc) : W.cell? (ad.add j) = some (.int .u8 cc) := hc ▸ cellU h hb j hj
theorem str_next {keys : List ByteArray} {data : List Int} {c1 ck i se v : Nat} (h : data.length < 2 ^ 38 ∧ keys.length < 2 ^ 38 ∧ data.length ≤ c1 ∧ keys.length ≤ ck ∧ 0 < keys.length) (he : i + 1 + se + v < data.length) :
  IntKind.i64.wrap ((i : Int) + 1 + (se : Int) + (v : Int) + 1) = (i : Int) + 1 + (se : Int) + (v : Int) + 1 ∧ wrap64 ((i : Int) + 1 + (se : Int) + (v : Int) + 1) = (i : Int) + 1 + (se : Int) + (v : Int) + 1 := wrap_eq (by omega)
theorem C_far {w W : World} {A : Option Addr} {l : List Int} (h : Kd.C (Kd.int .u8) w A l.length l) (hc : ∀ k, k < w.heap.size → W.heap[k]? = w.heap[k]?) : Kd.C (Kd.int .u8) W A l.length l := by
 have hr := Kd.reads_of_C (enc := Value.int .u8) (d := (0 : Int)) (h1 := fun _ => rfl) h
 refine Kd.C_of_reads (d := (0 : Int)) (h1 := fun _ => rfl) ⟨hr.1, hr.2.1, fun hp => ?_⟩
 obtain ⟨ad, e, hcell⟩ := hr.2.2 hp
 exact ⟨ad, e, fun j hj => (World.cell?_of_block (hc _ (World.block_lt_of_cell? w _ (hcell j hj)))).trans (hcell j hj)⟩
/-- A call that wrote into the search's own buffer alone. -/
theorem wi_buf {w W W2 : World} {v : Value} (h : WI w W v) (hk : Kept W W2 (fun k => k = w.heap.size + 1 + 1)) (he : Env W W2) {a : Array Value} {t : TypeId} (ha : W2.heap[w.heap.size + 1 + 1]? = some (.cells a t (0, 0)) ∧ a.size = 64) : WI w W2 v :=
 ⟨blk_kept h.cfg hk (by show ¬ _ = _; omega), blk_kept h.box hk (by show ¬ _ = _; omega), ⟨a, t, ha⟩, ⟨he.1.trans h.bel.os, he.2.1.trans h.bel.tape, he.2.2.trans h.bel.output, Nat.le_trans h.bel.size hk.1, fun k hk' => (hk.2 k (Nat.lt_of_lt_of_le hk' h.bel.size) (by show ¬ _ = _; omega)).trans (h.bel.block k hk')⟩⟩
theorem tab_below {w W : World} (hT : TabW w) (hb : Below w.heap.size w W) : TabW W := by
 obtain ⟨t34, t92, t47, t98, t102, t110, t114, t116⟩ := hT
 have h15 : 15 < w.heap.size := World.block_lt_of_cell? w _ t34
 exact ⟨(hb.cell h15).trans t34, (hb.cell h15).trans t92, (hb.cell h15).trans t47, (hb.cell h15).trans t98, (hb.cell h15).trans t102, (hb.cell h15).trans t110, (hb.cell h15).trans t114, (hb.cell h15).trans t116⟩
/-- Elder blocks behind a call that wrote into the search's buffer alone. -/
theorem old_kept {w W W2 : World} (hb : Below w.heap.size w W) (hk : Kept W W2 (fun k => k = w.heap.size + 1 + 1)) (k : Nat) (h : k < w.heap.size) : W2.heap[k]? = w.heap[k]? :=
 (hk.2 k (Nat.lt_of_lt_of_le h hb.size) (by show ¬ _ = _; omega)).trans (hb.block k h)
theorem ne15 {w : World} (hT : TabW w) : w.heap.size + 1 + 1 ≠ 15 := by
 have h15 : 15 < w.heap.size := World.block_lt_of_cell? w _ hT.1
 omega
theorem body_bts {data : List Int} (hby : Bts data) (hl : data.length < 2 ^ 38) (i se : Nat) : Bts ((data.take (i + se)).drop (i + 1)) ∧ ((data.take (i + se)).drop (i + 1)).length < 2 ^ 38 :=
 ⟨fun c hc => hby c (List.mem_of_mem_take (List.mem_of_mem_drop hc)), by rw [List.length_drop, List.length_take]; omega⟩
theorem wi_set {w W : World} {v : Value} (h : WI w W v) {g : Nat} (hg : w.heap.size + 1 + 1 < g) (u : Value) : WI w (W.setCell ⟨g, 0, none⟩ u) v :=
 ⟨blk_far h.cfg (by show _ ≠ g; omega) u, blk_far h.box (by show _ ≠ g; omega) u, by obtain ⟨a, t, h1, h2⟩ := h.arr; exact ⟨a, t, blk_far h1 (by show _ ≠ g; omega) u, h2⟩, below_set h.bel (by omega)⟩
theorem wi_lt {w W : World} {v : Value} (h : WI w W v) : w.heap.size + 1 + 1 < W.heap.size := by obtain ⟨a, t, h1, _⟩ := h.arr; exact blk_lt h1
/-- The name's own block, behind a call that wrote into the search's buffer alone. -/
theorem own22 {w w3 w4 : World} {v x : Value} (h : WI w w3 v) (hk : Kept ((w3.alloc (.cells #[x] 44)).drew) w4 (fun k => k = w.heap.size + 1 + 1)) : w4.heap[w3.heap.size]? = some (.cells #[x] 44 (0, 0)) ∧ w4.cell? ⟨w3.heap.size, 0, none⟩ = some x ∧ w4.frozen? ⟨w3.heap.size, 0, none⟩ = false ∧ w3.heap.size < w4.heap.size := by
 have hb : w4.heap[w3.heap.size]? = some (.cells #[x] 44 (0, 0)) := blk_kept (blk_drew (blk_new w3 _)) hk (by show ¬ _ = _; have := wi_lt h; omega)
 exact ⟨hb, (blk_cell hb 0).trans rfl, blk_frozen hb 0, blk_lt hb⟩
theorem rd22 {w w3 w4 : World} {v x : Value} {A5 : Option Addr} {X5 : Nat} {u : List Int} (h : WI w w3 v) (hX : (X5 = w.heap.size + 1 + 1 ∨ ((w3.alloc (.cells #[x] 44)).drew).heap.size < X5) ∧ ∀ W' : World, W'.heap[X5]? = w4.heap[X5]? → Kd.C (Kd.int .u8) W' A5 u.length u) (y : Value) :
  Kd.C (Kd.int .u8) (w4.setCell ⟨w3.heap.size, 0, none⟩ y) A5 u.length u := by
 refine hX.2 _ (Below.heap_setCell w4 _ y X5 ?_)
 show X5 ≠ w3.heap.size
 have h1 := wi_lt h
 have h2 : ((w3.alloc (.cells #[x] 44)).drew).heap.size = w3.heap.size + 1 := World.size_alloc _ _
 rcases hX.1 with h3 | h3 <;> omega
theorem cell22 {w4 : World} {g : Nat} {x : Value} (h : w4.heap[g]? = some (.cells #[x] 44 (0, 0))) (y : Value) : (w4.setCell ⟨g, 0, none⟩ y).cell? ⟨g, 0, none⟩ = some y := (blk_cell (blk_set h 0 y) 0).trans rfl
theorem key_cell {w W : World} {Ak : Option Addr} {keys : List ByteArray} {L : Nat} {key : ByteArray} (h : Kd.C Kd.string w Ak keys.length keys) (hb : Below w.heap.size w W) (hk : keys[L]? = some key) : ∃ ak, Ak = some ak ∧ W.cell? (ak.add L) = some (.string key) := by
 have hl := (List.getElem?_eq_some_iff.mp hk).1
 obtain ⟨ak, ek, hc⟩ := Kd.at_string (Kd.C_below h hb) (L : Int) (by omega) (by omega)
 rw [Int.toNat_natCast, rdOf_key hk] at hc
 exact ⟨ak, ek, hc⟩
theorem neg1 (L : Nat) : (-1 : Int) ≤ (L : Int) + 1 := by omega
theorem cb_start {w w1 : World} {v : Value} (h : WI w w1 v) (a i : Int) : CB (((((w1.alloc (.cells #[.int .i64 a] 3)).alloc (.cells #[.int .i64 0] 3)).alloc (.cells #[.slice none 0 0] 44)).alloc (.cells #[.int .i64 0] 3)).alloc (.cells #[.int .i64 i] 3)) w1.heap.size (w.heap.size + 1) a 0 i (.slice none 0 0) v := by
 have hlt := wi_lt h
 have n0 := blk_new w1 (.cells #[.int .i64 a] 3)
 have n1 := blk_new (w1.alloc (.cells #[.int .i64 a] 3)) (.cells #[.int .i64 0] 3)
 have n2 := blk_new ((w1.alloc (.cells #[.int .i64 a] 3)).alloc (.cells #[.int .i64 0] 3)) (.cells #[.slice none 0 0] 44)
 have n3 := blk_new (((w1.alloc (.cells #[.int .i64 a] 3)).alloc (.cells #[.int .i64 0] 3)).alloc (.cells #[.slice none 0 0] 44)) (.cells #[.int .i64 0] 3)
 have n4 := blk_new ((((w1.alloc (.cells #[.int .i64 a] 3)).alloc (.cells #[.int .i64 0] 3)).alloc (.cells #[.slice none 0 0] 44)).alloc (.cells #[.int .i64 0] 3)) (.cells #[.int .i64 i] 3)
 simp only [World.size_alloc] at n1 n2 n3 n4
 exact ⟨blk_alloc (blk_alloc (blk_alloc (blk_alloc n0 _) _) _) _, blk_alloc (blk_alloc (blk_alloc n1 _) _) _, blk_alloc (blk_alloc n2 _) _, ⟨0, blk_alloc n3 _⟩, n4, blk_alloc (blk_alloc (blk_alloc (blk_alloc (blk_alloc h.box _) _) _) _) _, by omega⟩
theorem wi_alloc5 {w w1 : World} {v : Value} (h : WI w w1 v) (o1 o2 o3 o4 o5 : Obj) : WI w (((((w1.alloc o1).alloc o2).alloc o3).alloc o4).alloc o5) v := wi_alloc (wi_alloc (wi_alloc (wi_alloc (wi_alloc h _) _) _) _) _
theorem size_alloc5 (w1 : World) (o1 o2 o3 o4 o5 : Obj) : w1.heap.size + 4 < ((((((w1.alloc o1).alloc o2).alloc o3).alloc o4).alloc o5).drew).heap.size := by
 show _ < (((((w1.alloc o1).alloc o2).alloc o3).alloc o4).alloc o5).heap.size
 simp only [World.size_alloc]
 omega
theorem wi_cs {w W W2 : World} {v : Value} {g : Nat} (h : WI w W v) (hg : w.heap.size + 1 + 1 < g) (hk : Kept W W2 (CS g)) (he : Env W W2) : WI w W2 v :=
 ⟨blk_kept h.cfg hk (by show ¬ (_ ∧ _); omega), blk_kept h.box hk (by show ¬ (_ ∧ _); omega), by obtain ⟨a, t, h1, h2⟩ := h.arr; exact ⟨a, t, blk_kept h1 hk (by show ¬ (_ ∧ _); omega), h2⟩,
  ⟨he.1.trans h.bel.os, he.2.1.trans h.bel.tape, he.2.2.trans h.bel.output, Nat.le_trans h.bel.size hk.1, fun k hk' => (hk.2 k (Nat.lt_of_lt_of_le hk' h.bel.size) (by show ¬ (_ ∧ _); omega)).trans (h.bel.block k hk')⟩⟩
theorem old_cs {w W W2 : World} {g : Nat} (hb : Below w.heap.size w W) (hg : w.heap.size + 1 + 1 < g) (hk : Kept W W2 (CS g)) (k : Nat) (h : k < w.heap.size) : W2.heap[k]? = w.heap[k]? :=
 (hk.2 k (Nat.lt_of_lt_of_le h hb.size) (by show ¬ (_ ∧ _); omega)).trans (hb.block k h)
theorem cut_keys (Ak : Option Addr) (ck : Nat) (keys : List ByteArray) (i : Nat) (x : Int) (hx : x = (i : Int)) (hi : i ≤ keys.length) (hck : keys.length ≤ ck) :
  ∃ A2 : Option Addr, (∀ W : World, (Instr.slice 22 (.slice Ak keys.length ck) (some (.int .i64 x)) none none).run Tryz.prog W = .ok (.slice A2 (keys.drop i).length (ck - i)) W) ∧
   (∀ W : World, Kd.C Kd.string W Ak keys.length keys → Kd.C Kd.string W A2 (keys.drop i).length (keys.drop i)) ∧ (keys.drop i).length ≤ ck - i := by
 obtain ⟨i1, hi1, _, hsz1, _⟩ := info_parts info9
 subst hx
 obtain ⟨A2, hcut2, hA2, hC2⟩ := print_drop_of (P := Tryz.prog) Value.string ByteArray.empty 22 9 .i64 Tryz.underlying22 hi1 hsz1 Ak ck keys (i : Int) (by omega) (by omega) hck
 simp only [Int.toNat_natCast] at hcut2 hA2 hC2
 exact ⟨A2, hcut2, fun W h => Kd.C_of_reads (h1 := fun _ => rfl) (hA2 W (Kd.reads_of_C h)), hC2⟩
/-- What is shown of a search of n steps. -/
def SkC (n : Nat) : Prop := ∀ (keys : List ByteArray) (data : List Int) (A1 : Option Addr) (c1 : Nat) (Ak : Option Addr) (ck : Nat) (w : World), Sk keys data n 0 0 0 true → keys ≠ [] → data.length < 2 ^ 38 → keys.length < 2 ^ 38 → Kd.C (Kd.int .u8) w A1 data.length data → data.length ≤ c1 → Kd.C Kd.string w Ak keys.length keys → keys.length ≤ ck → TabW w → Bts data →
  Calls Tryz.prog 60 #[.agg #[.bool false, .bool false, .int .i64 0], .slice A1 data.length c1, .slice Ak keys.length ck] w fun e w' => e = .returned (.int .i64 (-1)) ∧ Below w.heap.size w w'
theorem skc_call {n : Nat} (h : SkC n) (keys : List ByteArray) (data : List Int) (A1 : Option Addr) (c1 : Nat) (Ak : Option Addr) (ck : Nat) (w : World) (h1 : Sk keys data n 0 0 0 true) (h2 : keys ≠ []) (h3 : data.length < 2 ^ 38) (h4 : keys.length < 2 ^ 38) (h5 : Kd.C (Kd.int .u8) w A1 data.length data) (h6 : data.length ≤ c1) (h7 : Kd.C Kd.string w Ak keys.length keys) (h8 : keys.length ≤ ck) (h9 : TabW w) (h10 : Bts data) :
  Calls Tryz.prog 60 #[.agg #[.bool false, .bool false, .int .i64 0], .slice A1 data.length c1, .slice Ak keys.length ck] w fun e w' => e = .returned (.int .i64 (-1)) ∧ Below w.heap.size w w' := h keys data A1 c1 Ak ck w h1 h2 h3 h4 h5 h6 h7 h8 h9 h10
theorem held81 {w W : World} {v V DV : Value} {g BD : Nat} {a c i : Int} (h : WI w W v) (hc : CB W g BD a c i V DV) : W.cell? ⟨w.heap.size, 0, none⟩ = some (.bool false) ∧ W.cell? ⟨w.heap.size, 1, none⟩ = some (.bool false) ∧ W.cell? ⟨w.heap.size, 2, none⟩ = some (.int .i64 0) ∧ W.cell? ⟨g + 1 + 1, 0, none⟩ = some V :=
 ⟨(wi_cells h).1, (wi_cells h).2.1, (wi_cells h).2.2.1, (cb_cells hc).2.2.2.1⟩
theorem drop_keys {keys : List ByteArray} {L : Nat} (h : L + 1 < keys.length) (hk : keys.length < 2 ^ 38) : keys.drop (L + 1) ≠ [] ∧ (keys.drop (L + 1)).length < 2 ^ 38 :=
 ⟨fun e => by have := List.drop_eq_nil_iff.mp e; omega, by rw [List.length_drop]; omega⟩
theorem bts_cut {data : List Int} (hby : Bts data) (hl : data.length < 2 ^ 38) (i j : Nat) : Bts ((data.take j).drop i) ∧ ((data.take j).drop i).length < 2 ^ 38 :=
 ⟨fun c hc => hby c (List.mem_of_mem_take (List.mem_of_mem_drop hc)), by rw [List.length_drop, List.length_take]; omega⟩
theorem get_lt {els : List (Nat × Nat × Int)} {a : Int} {x : Nat × Nat × Int} (h0 : 0 ≤ a) (h : els[a.toNat]? = some x) : a < els.length := by
 have := (List.getElem?_eq_some_iff.mp h).1
 omega
theorem blk_facts {keys : List ByteArray} {data : List Int} {c1 ck i e : Nat} (h : data.length < 2 ^ 38 ∧ keys.length < 2 ^ 38 ∧ data.length ≤ c1 ∧ keys.length ≤ ck ∧ 0 < keys.length) (he : i + (e + 1) ≤ data.length) :
  (IntKind.i64.wrap ((e : Int) + 1 - 1) = (e : Int) ∧ wrap64 ((e : Int) + 1 - 1) = (e : Int) ∧ IntKind.i64.wrap (e : Int) = (e : Int) ∧ wrap64 (e : Int) = (e : Int)) ∧
  (IntKind.i64.wrap ((i : Int) + (e : Int)) = (i : Int) + (e : Int) ∧ wrap64 ((i : Int) + (e : Int)) = (i : Int) + (e : Int)) ∧
  (IntKind.i64.wrap ((i : Int) + (e : Int) + 1) = (i : Int) + (e : Int) + 1 ∧ wrap64 ((i : Int) + (e : Int) + 1) = (i : Int) + (e : Int) + 1) ∧ (((e : Int) + 1 == -1) = false) := by
 obtain ⟨a1, a2, a3, a4, _, _⟩ := wrap_m1 (n := e) (by omega)
 exact ⟨⟨a1, a2, a3, a4⟩, wrap_eq (by omega), wrap_eq (by omega), beq_eq_false_iff_ne.mpr (by omega)⟩
/-- A byte that the search passes without a look. -/
def FastB (c : Int) : Prop := c ≤ 32 ∨ (92 < c ∧ c ≠ 123 ∧ c ≠ 125)
theorem sk_fast {keys : List ByteArray} {data : List Int} {n i L : Nat} {K : Int} {M : Bool} (h : Sk keys data n i L K M) (hi : i < data.length) (hf : FastB (rd data i)) : ∃ m, n = m + 1 ∧ Sk keys data m (i + 1) L K M := by
 unfold FastB at hf
 cases h with
 | done _ _ _ _ _ _ _ h => omega
 | fast _ _ n _ _ _ _ _ _ h => exact ⟨n, rfl, h⟩
 | other => omega
 | strEnd => omega
 | strVal => omega
 | keyNo _ _ _ _ _ _ _ _ _ _ _ hk => have := hk.q; omega
 | keyYes _ _ _ _ _ _ _ _ _ _ hk => have := hk.q; omega
 | openSkip => omega
 | openIn => omega
 | closeEq => omega
 | closeNe => omega
 | arrNe => omega
 | arrName => omega
 | arrFar => omega
 | arrDown => omega
theorem ae_calls' (A1 : Option Addr) (c1 : Nat) (data : List Int) (i : Nat) (dat : List Int) (hdat : data.drop i = dat) (A2 : Option Addr) (c2 : Nat) (els : List (Nat × Nat × Int)) (g BD : Nat) (a : Int) (w : World) (hels : AelT dat els) (hd : data.length < 2 ^ 38) (hc1 : data.length ≤ c1) (hi : i ≤ data.length) (hc2 : dat.length ≤ c2)
  (hA2 : ∀ W : World, Kd.C (Kd.int .u8) W A1 data.length data → Kd.C (Kd.int .u8) W A2 dat.length dat) (hread : ∀ W : World, Kept w W (CS g) → Kd.C (Kd.int .u8) W A1 data.length data)
  (ha : 0 ≤ a) (hcb : CB w g BD a 0 i (.slice none 0 0) (.slice A1 data.length c1)) (hg : g + 4 < w.heap.size) :
  Calls Tryz.prog 43 #[.agg #[.bool false, .bool false, .int .i64 0], .slice A2 dat.length c2, clV g BD, .slice none 0 0] w
   fun e w' => (∃ off : Int, e = .returned (.tuple #[.int .i64 off, .nilIface])) ∧ (∃ V, CB w' g BD a els.length i V (.slice A1 data.length c1) ∧ Found A1 data i els els.length a V) ∧ Kept w w' (CS g) ∧ Env w w' := by
 subst hdat
 exact ae_calls A1 c1 data i A2 c2 els g BD a w hels hd hc1 hi hc2 hA2 hread ha hcb hg
set_option maxHeartbeats 8000000 in
set_option maxRecDepth 1000000 in
theorem sk_loop (n : Nat) (IH : ∀ m, m < n → SkC m) (keys : List ByteArray) (data : List Int) (A1 : Option Addr) (c1 : Nat) (Ak : Option Addr) (ck : Nat) (w : World) (hsk : Sk keys data n 0 0 0 true) (hne : keys ≠ []) (hdl : data.length < 2 ^ 38) (hkl : keys.length < 2 ^ 38)
  (hr1 : Kd.C (Kd.int .u8) w A1 data.length data) (hc1 : data.length ≤ c1) (hrk : Kd.C (Kd.string) w Ak keys.length keys) (hck : keys.length ≤ ck) (hT : TabW w) (hby : Bts data) :
  Calls Tryz.prog 60 #[.agg #[.bool false, .bool false, .int .i64 0], .slice A1 data.length c1, .slice Ak keys.length ck] w fun e w' => e = .returned (.int .i64 (-1)) ∧ Below w.heap.size w w' := by
 have hu85 := Tryz.underlying85
 have hu44 := Tryz.underlying44
 have hu102 := Tryz.underlying102
 have hkl0 : 0 < keys.length := List.length_pos_iff.mpr hne
 have h0 : ((keys.length : Int) == 0) = false := by rw [beq_eq_false_iff_ne]; omega
 have H1 := sd hr1
 have H2 := sd hrk
 have HB := sd (⟨hdl, hkl, hc1, hck, hkl0⟩ : data.length < 2 ^ 38 ∧ keys.length < 2 ^ 38 ∧ data.length ≤ c1 ∧ keys.length ≤ ck ∧ 0 < keys.length)
 have HT := sd hT
 have HS := sd hsk
 have HN := sd hne
 have HBY := sd hby
 have HIH := sd IH
 clear IH hby hr1 hrk hdl hkl hc1 hck hkl0 hT hsk hne
 go_enter Tryz.func60, Tryz.ntmps60
 go_wp2
 (try simp only [Act.put, List.setIfInBounds_toArray, List.set_cons_zero, List.set_cons_succ])
 go_loopg [7, 8, 9, 12] n (fun kq v7 v8 v9 v12 w' => ∃ (i L : Nat) (K : Int) (M : Bool), v7 = .int .i64 K ∧ v8 = .int .i64 L ∧ v9 = .int .i64 i ∧ v12 = .bool M ∧ Aside0 (Sk keys data kq i L K M) ∧ Aside0 (kq ≤ n) ∧ Aside0 (SkB keys data i L K) ∧ Aside0 (WI w w' (.slice A1 data.length c1)))
 case atStart => exact ⟨0, 0, 0, true, rfl, rfl, rfl, rfl, HS, ⟨Nat.le_refl _⟩, ⟨⟨by omega, by have := HB.out; omega, by omega, by omega⟩⟩, ⟨wi_start _ _ _ _ rfl⟩⟩
 case round =>
  clear HS h0
  obtain ⟨i, L, K, M, rfl, rfl, rfl, rfl, HA, HK1, HI, HW⟩ := hrel
  by_cases hi : i < data.length
  rotate_left
  ·have d1 : decide ((i : Int) < (data.length : Int)) = false := decide_eq_false (by omega)
   have d1' : decide (i < data.length) = false := decide_eq_false (by omega)
   go_wp2
   go_ret
   exact ⟨rfl, HW.out.bel⟩
  ·have d1 : decide ((i : Int) < (data.length : Int)) = true := decide_eq_true (by omega)
   have d1' : decide (i < data.length) = true := decide_eq_true (by omega)
   go_upto_block 2 with (fail)
   go_cut [9] (fun v9 wc => ∃ (kq i' : Nat), v9 = .int .i64 i' ∧ Aside0 (Sk keys data kq i' L K M) ∧ Aside0 (kq ≤ gk) ∧ Aside0 (SkB keys data i' L K) ∧ Aside0 (WI w wc (.slice A1 data.length c1)) ∧ Aside0 (i' < data.length → ¬ FastB (rd data i')))
   case first =>
    go_wp2
    go_loopg [9] gk (fun kq v9 w' => ∃ (i' : Nat), v9 = .int .i64 i' ∧ Aside0 (Sk keys data kq i' L K M) ∧ Aside0 (kq ≤ gk) ∧ Aside0 (SkB keys data i' L K) ∧ Aside0 (WI w w' (.slice A1 data.length c1)))
    case atStart => exact ⟨i, rfl, HA, ⟨Nat.le_refl _⟩, HI, HW⟩
    case round =>
     clear HA HI HW d1 d1' hi
     obtain ⟨i', rfl, HA, HK2, HI, HW⟩ := hrel
     by_cases hi : i' < data.length
     rotate_left
     ·have d1 : decide ((i' : Int) < (data.length : Int)) = false := decide_eq_false (by omega)
      have d1' : decide (i' < data.length) = false := decide_eq_false (by omega)
      go_wp2
      go_meet
      case rel => exact ⟨_, i', rfl, HA, HK2, HI, HW, ⟨fun h => absurd h hi⟩⟩
     ·have d1 : decide ((i' : Int) < (data.length : Int)) = true := decide_eq_true (by omega)
      have d1' : decide (i' < data.length) = true := decide_eq_true (by omega)
      have hbox := blk_cell HW.out.box 0
      simp only [List.getElem?_toArray, List.getElem?_cons_zero] at hbox
      obtain ⟨ad, e0, hb⟩ := Kd.at_int (Kd.C_below H1.out HW.out.bel) (i' : Int) (by omega) (by omega)
      cases e0
      rw [Int.toNat_natCast] at hb
      have ⟨hw1, hw2⟩ := wrap_1 (n := i') (by have := HB.out; omega)
      have p1 : (0 ≤ (i' : Int)) = True := eq_true (by omega)
      have q1 : ((i' : Int) < (data.length : Int)) = True := eq_true (by omega)
      by_cases hf : FastB (rd data i')
      ·obtain ⟨m, rfl, hA⟩ := sk_fast HA.out hi hf
       have HA' := sd hA
       clear hA HA
       by_cases h32 : rd data i' ≤ 32
       ·have t1 : decide (rd data i' ≤ 32) = true := decide_eq_true h32
        clear hf h32
        go_wp2
        go_roundg m
        case measure => omega
        case rel => exact ⟨i' + 1, by go_num, HA', ⟨by have := HK2.out; omega⟩, ⟨⟨HI.out.k0, HI.out.k1, HI.out.l1, by omega⟩⟩, HW⟩
       ·have t1 : decide (rd data i' ≤ 32) = false := decide_eq_false h32
        have hf' := hf.resolve_left h32
        have t2 : decide (92 < rd data i') = true := decide_eq_true hf'.1
        have t3 : (rd data i' != 123) = true := bne_iff_ne.mpr hf'.2.1
        have t4 : (rd data i' != 125) = true := bne_iff_ne.mpr hf'.2.2
        have t5 : (rd data i' == 123) = false := beq_eq_false_iff_ne.mpr hf'.2.1
        have t6 : (rd data i' == 125) = false := beq_eq_false_iff_ne.mpr hf'.2.2
        clear hf h32 hf'
        go_wp2
        go_roundg m
        case measure => omega
        case rel => exact ⟨i' + 1, by go_num, HA', ⟨by have := HK2.out; omega⟩, ⟨⟨HI.out.k0, HI.out.k1, HI.out.l1, by omega⟩⟩, HW⟩
      ·have HF := sd (fun _ : i' < data.length => hf)
       have t1 : decide (rd data i' ≤ 32) = false := decide_eq_false (fun h => hf (.inl h))
       by_cases h92 : 92 < rd data i'
       ·have t2 : decide (92 < rd data i') = true := decide_eq_true h92
        by_cases h123 : rd data i' = 123
        ·rw [h123] at hb
         clear hf t1 t2 h92
         go_wp2
         go_meet
         case rel => exact ⟨_, i', rfl, HA, HK2, HI, HW, HF⟩
        ·have h125 : rd data i' = 125 := Decidable.not_not.mp fun h => hf (.inr ⟨h92, h123, h⟩)
         rw [h125] at hb
         clear hf t1 t2 h92 h123
         go_wp2
         go_meet
         case rel => exact ⟨_, i', rfl, HA, HK2, HI, HW, HF⟩
       ·have t2 : decide (92 < rd data i') = false := decide_eq_false h92
        clear hf h92
        go_wp2
        go_meet
        case rel => exact ⟨_, i', rfl, HA, HK2, HI, HW, HF⟩
   case rest =>
    clear HA HI HW d1 d1' hi
    obtain ⟨kq, i', rfl, HA, HK2, HI, HW, HF⟩ := hcut
    by_cases hi : i' < data.length
    rotate_left
    ·have t1 : decide ((data.length : Int) ≤ (i' : Int)) = true := decide_eq_true (by omega)
     have t1' : decide (data.length ≤ i') = true := decide_eq_true (by omega)
     go_wp2
     go_ret
     exact ⟨rfl, HW.out.bel⟩
    ·have t1 : decide ((data.length : Int) ≤ (i' : Int)) = false := decide_eq_false (by omega)
     have t1' : decide (data.length ≤ i') = false := decide_eq_false (by omega)
     have hf := HF.out hi
     clear HF
     have hbox := blk_cell HW.out.box 0
     simp only [List.getElem?_toArray, List.getElem?_cons_zero] at hbox
     obtain ⟨ad, e0, hb⟩ := Kd.at_int (Kd.C_below H1.out HW.out.bel) (i' : Int) (by omega) (by omega)
     cases e0
     rw [Int.toNat_natCast] at hb
     have ⟨hw1, hw2⟩ := wrap_1 (n := i') (by have := HB.out; omega)
     have p1 : (0 ≤ (i' : Int)) = True := eq_true (by omega)
     have q1 : ((i' : Int) < (data.length : Int)) = True := eq_true (by omega)
     have HS := HA.out
     clear HA
     cases HS with
     | done => omega
     | fast _ _ _ _ _ _ _ _ h => exact absurd h hf
     | other _ _ m _ _ _ _ _ h32 h92 h34 h39 h91 h58 hA =>
      as_aux_lemma =>
       have HA := sd hA
       clear hA
       have t2 : (rd data i' == 34) = false := beq_eq_false_iff_ne.mpr h34
       have t3 : (rd data i' == 39) = false := beq_eq_false_iff_ne.mpr h39
       have t4 : (rd data i' == 91) = false := beq_eq_false_iff_ne.mpr h91
       have t5 : (rd data i' == 58) = false := beq_eq_false_iff_ne.mpr h58
       have t6 : (rd data i' == 123) = false := beq_eq_false_iff_ne.mpr (by omega)
       have t7 : (rd data i' == 125) = false := beq_eq_false_iff_ne.mpr (by omega)
       clear h32 h92 h34 h39 h91 h58 hf
       go_wp2
       go_roundg m
       case measure => exact HK2.out
       case rel => exact ⟨i' + 1, L, K, M, rfl, rfl, by go_num, rfl, HA, ⟨Nat.le_trans (Nat.le_of_succ_le HK2.out) HK1.out⟩, ⟨⟨HI.out.k0, HI.out.k1, HI.out.l1, by omega⟩⟩, HW⟩
     | strEnd _ _ _ _ _ _ _ k k' se esc _ h34 hse hse1 hse2 hnx =>
      as_aux_lemma =>
       obtain ⟨A2, hcut2, hA2, hC2⟩ := cut_drop (some ad) c1 data (i' + 1) ((i' : Int) + 1) rfl (by omega) HB.out.2.2.1
       obtain ⟨A3, hcut3, hA3, hC3⟩ := cut_drop (some ad) c1 data (i' + 1 + se) ((i' : Int) + 1 + (se : Int)) (by omega) (by omega) HB.out.2.2.1
       have HA2 := sd hA2
       have HC2 := sd hC2
       have HA3 := sd hA3
       have HC3 := sd hC3
       have HH := sd hse
       have HX := sd hnx
       have HE := sd (show i' + 1 + se + 0 ≤ data.length by omega)
       have ⟨hc0, hc1', hc2, hc3⟩ := wi_cells HW.out
       obtain ⟨⟨w3, w4⟩, ⟨w5, w6⟩, ⟨w7, w8⟩, ⟨w9, w10⟩, t8, t9, hN, ⟨w11, w12⟩⟩ := str_facts HB.out HE.out
       clear hse hse1 hse2 hnx hf hA2 hC2 hA3 hC3
       rw [h34] at hb
       clear h34
       generalize hdq1 : data.drop (i' + 1) = dq1 at *
       generalize hdq2 : data.drop (i' + 1 + se) = dq2 at *
       go_wp2
       go_region_held3 (fun w' => w'.cell? ⟨w.heap.size, 0, none⟩ = some (.bool false) ∧ w'.cell? ⟨w.heap.size, 1, none⟩ = some (.bool false) ∧ w'.cell? ⟨w.heap.size, 2, none⟩ = some (.int .i64 0) ∧ w'.cell? ⟨w.heap.size + 1, 0, none⟩ = some (.slice (some ad) data.length c1))
        (first | go_keep | exact wi_cells (wi_below (wi_drew HW.out) HBL.out))
        ((go_at_call 62; (with_reducible refine (jsonparser_stringEndConfig.calls k false false 0 _ _ dq1 34 (se : Int) esc _ ?side1 ?side2 HH.out).mono ?_); (case side1 => exact HA2.out _ (Kd.C_drew (Kd.C_below H1.out HW.out.bel))); (case side2 => exact HC2.out); rintro e0 w2 ⟨rfl, hbel⟩; have HBL := sd hbel; have HW2 := sd (wi_below (wi_drew HW.out) hbel); clear hbel))
       have ⟨gc0, gc1', gc2, gc3⟩ := wi_cells HW2.out
       go_wp2
       go_region_held3 (fun w' => w'.cell? ⟨w.heap.size, 0, none⟩ = some (.bool false) ∧ w'.cell? ⟨w.heap.size, 1, none⟩ = some (.bool false) ∧ w'.cell? ⟨w.heap.size, 2, none⟩ = some (.int .i64 0) ∧ w'.cell? ⟨w.heap.size + 1, 0, none⟩ = some (.slice (some ad) data.length c1))
        (first | go_keep | exact wi_cells HW2.out | exact wi_cells (wi_below (wi_drew HW2.out) HBL2.out))
        ((go_at_call 59; (with_reducible refine (jsonparser_nextTokenConfig.calls k' false false 0 _ _ dq2 (-1) _ ?side3 ?side4 HX.out).mono ?_); (case side3 => exact HA3.out _ (Kd.C_drew (Kd.C_below H1.out HW2.out.bel))); (case side4 => exact HC3.out); rintro e0 w3 ⟨rfl, hbel⟩; have HBL2 := sd hbel; have HW3 := sd (wi_below (wi_drew HW2.out) hbel); clear hbel))
       go_wp2
       go_ret
       exact ⟨rfl, HW3.out.bel⟩
     | strVal _ _ m _ _ _ _ k k' se v esc _ h34 hse hse1 hse2 hnx h58 hA =>
      as_aux_lemma =>
       obtain ⟨A2, hcut2, hA2, hC2⟩ := cut_drop (some ad) c1 data (i' + 1) ((i' : Int) + 1) rfl (by omega) HB.out.2.2.1
       obtain ⟨A3, hcut3, hA3, hC3⟩ := cut_drop (some ad) c1 data (i' + 1 + se) ((i' : Int) + 1 + (se : Int)) (by omega) (by omega) HB.out.2.2.1
       have HA2 := sd hA2
       have HC2 := sd hC2
       have HA3 := sd hA3
       have HC3 := sd hC3
       have HH := sd hse
       have HX := sd hnx
       have HE := sd (show i' + 1 + se + v ≤ data.length by omega)
       have ⟨hc0, hc1', hc2, hc3⟩ := wi_cells HW.out
       obtain ⟨⟨w3, w4⟩, ⟨w5, w6⟩, ⟨w7, w8⟩, ⟨w9, w10⟩, t8, t9, hN, ⟨w11, w12⟩⟩ := str_facts HB.out HE.out
       have HA := sd hA
       have HE2 := sd hse2
       obtain ⟨p2, q2⟩ := str_lt hse2
       obtain ⟨cc, hcc, h58⟩ : ∃ cc, rd data ((i' + 1 + se + v : Nat) : Int) = cc ∧ cc ≠ 58 := ⟨_, rfl, h58⟩
       have t10 : (cc == 58) = false := beq_eq_false_iff_ne.mpr h58
       have HCC := sd hcc
       clear hcc
       clear hA hse hse1 hse2 hnx h58 hf hA2 hC2 hA3 hC3
       rw [h34] at hb
       clear h34
       generalize hdq1 : data.drop (i' + 1) = dq1 at *
       generalize hdq2 : data.drop (i' + 1 + se) = dq2 at *
       go_wp2
       go_region_held3 (fun w' => w'.cell? ⟨w.heap.size, 0, none⟩ = some (.bool false) ∧ w'.cell? ⟨w.heap.size, 1, none⟩ = some (.bool false) ∧ w'.cell? ⟨w.heap.size, 2, none⟩ = some (.int .i64 0) ∧ w'.cell? ⟨w.heap.size + 1, 0, none⟩ = some (.slice (some ad) data.length c1))
        (first | go_keep | exact wi_cells (wi_below (wi_drew HW.out) HBL.out))
        ((go_at_call 62; (with_reducible refine (jsonparser_stringEndConfig.calls k false false 0 _ _ dq1 34 (se : Int) esc _ ?side1 ?side2 HH.out).mono ?_); (case side1 => exact HA2.out _ (Kd.C_drew (Kd.C_below H1.out HW.out.bel))); (case side2 => exact HC2.out); rintro e0 w2 ⟨rfl, hbel⟩; have HBL := sd hbel; have HW2 := sd (wi_below (wi_drew HW.out) hbel); clear hbel))
       have ⟨gc0, gc1', gc2, gc3⟩ := wi_cells HW2.out
       go_wp2
       go_region_held3 (fun w' => w'.cell? ⟨w.heap.size, 0, none⟩ = some (.bool false) ∧ w'.cell? ⟨w.heap.size, 1, none⟩ = some (.bool false) ∧ w'.cell? ⟨w.heap.size, 2, none⟩ = some (.int .i64 0) ∧ w'.cell? ⟨w.heap.size + 1, 0, none⟩ = some (.slice (some ad) data.length c1))
        (first | go_keep | exact wi_cells HW2.out | exact wi_cells (wi_below (wi_drew HW2.out) HBL2.out))
        ((go_at_call 59; (with_reducible refine (jsonparser_nextTokenConfig.calls k' false false 0 _ _ dq2 (v : Int) _ ?side3 ?side4 HX.out).mono ?_); (case side3 => exact HA3.out _ (Kd.C_drew (Kd.C_below H1.out HW2.out.bel))); (case side4 => exact HC3.out); rintro e0 w3 ⟨rfl, hbel⟩; have HBL2 := sd hbel; have HW3 := sd (wi_below (wi_drew HW2.out) hbel); have hb3 := cellV H1.out HW3.out.bel (i' + 1 + se + v) HE2.out HCC.out; clear hbel))
       go_wp2
       go_roundg m
       case measure => exact HK2.out
       case rel => exact ⟨i' + 1 + se + v, L, K, M, rfl, rfl, by go_num, rfl, HA, ⟨Nat.le_trans (Nat.le_of_succ_le HK2.out) HK1.out⟩, ⟨⟨HI.out.k0, HI.out.k1, HI.out.l1, Nat.le_of_lt HE2.out⟩⟩, HW3⟩
     | keyNo _ _ m _ L _ _ se v u key hK h58 hkey hne hA =>
      as_aux_lemma =>
       obtain ⟨h34, hse2, hse1, ⟨k, esc, hse, hesc⟩, ⟨k', hnx⟩⟩ := hK
       obtain ⟨A2, hcut2, hA2, hC2⟩ := cut_drop (some ad) c1 data (i' + 1) ((i' : Int) + 1) rfl (by omega) HB.out.2.2.1
       obtain ⟨A3, hcut3, hA3, hC3⟩ := cut_drop (some ad) c1 data (i' + 1 + se) ((i' : Int) + 1 + (se : Int)) (by omega) (by omega) HB.out.2.2.1
       obtain ⟨A4, hcut4, hA4, hC4⟩ := cut_mid (some ad) c1 data (i' + 1) (i' + se) ((i' : Int) + 1) ((i' : Int) + 1 + (se : Int) - 1) rfl (by omega) (by omega) (by omega) HB.out.2.2.1
       have HA2 := sd hA2
       have HC2 := sd hC2
       have HA3 := sd hA3
       have HC3 := sd hC3
       have HA4 := sd hA4
       have HC4 := sd hC4
       have HH := sd hse
       have HX := sd hnx
       have HE2 := sd hse2
       have HEsc := sd hesc
       have HKey := sd hkey
       have HA := sd hA
       have HW0 := HW
       have ⟨hc0, hc1', hc2, hc3⟩ := wi_cells HW.out
       obtain ⟨⟨x3, x4⟩, ⟨x5, x6⟩, ⟨x7, x8⟩, ⟨x9, x10⟩, t8, t9, hN, ⟨x11, x12⟩⟩ := str_facts HB.out (Nat.le_of_lt hse2)
       obtain ⟨p2, q2⟩ := str_lt hse2
       obtain ⟨x13, x14⟩ := str_next HB.out hse2
       have HCC := sd h58
       have HL := sd (List.getElem?_eq_some_iff.mp hkey).1
       have t10 : decide ((L : Int) + 1 < 1) = false := decide_eq_false (by omega)
       have t11 : decide ((L : Int) + 1 ≤ (keys.length : Int)) = true := decide_eq_true (Int.ofNat_le.mpr HL.out)
       have t11' : decide (L + 1 ≤ keys.length) = true := decide_eq_true HL.out
       have t11'' : decide (L < keys.length) = true := decide_eq_true HL.out
       obtain ⟨x15, x16, x17, x18, x19, x20⟩ := wrap_m1 (n := L) (Nat.lt_trans HL.out HB.out.2.1)
       have p3 : (0 ≤ (L : Int)) = True := eq_true (Int.natCast_nonneg L)
       have q3 : ((L : Int) < (keys.length : Int)) = True := eq_true (Int.ofNat_lt.mpr HL.out)
       have q3' : (L < keys.length) = True := eq_true HL.out
       have HBB := sd (body_bts HBY.out HB.out.1 i' se)
       generalize hbody : (data.take (i' + se)).drop (i' + 1) = body at *
       clear hA hse hse1 hse2 hnx h58 hf hA2 hC2 hA3 hC3 hA4 hC4 hesc hkey hbody
       have t12 : decide (strOfNums u = key) = false := decide_eq_false hne
       clear hne
       rw [h34] at hb
       clear h34
       generalize hdq1 : data.drop (i' + 1) = dq1 at *
       generalize hdq2 : data.drop (i' + 1 + se) = dq2 at *
       go_wp2
       go_region_held3 (fun w' => w'.cell? ⟨w.heap.size, 0, none⟩ = some (.bool false) ∧ w'.cell? ⟨w.heap.size, 1, none⟩ = some (.bool false) ∧ w'.cell? ⟨w.heap.size, 2, none⟩ = some (.int .i64 0) ∧ w'.cell? ⟨w.heap.size + 1, 0, none⟩ = some (.slice (some ad) data.length c1))
        (first | go_keep | exact wi_cells (wi_below (wi_drew HW.out) HBL.out))
        ((go_at_call 62; (with_reducible refine (jsonparser_stringEndConfig.calls k false false 0 _ _ dq1 34 (se : Int) esc _ ?side1 ?side2 HH.out).mono ?_); (case side1 => exact HA2.out _ (Kd.C_drew (Kd.C_below H1.out HW.out.bel))); (case side2 => exact HC2.out); rintro e0 w2 ⟨rfl, hbel⟩; have HBL := sd hbel; have HW2 := sd (wi_below (wi_drew HW.out) hbel); clear hbel))
       have ⟨gc0, gc1', gc2, gc3⟩ := wi_cells HW2.out
       go_wp2
       go_region_held3 (fun w' => w'.cell? ⟨w.heap.size, 0, none⟩ = some (.bool false) ∧ w'.cell? ⟨w.heap.size, 1, none⟩ = some (.bool false) ∧ w'.cell? ⟨w.heap.size, 2, none⟩ = some (.int .i64 0) ∧ w'.cell? ⟨w.heap.size + 1, 0, none⟩ = some (.slice (some ad) data.length c1))
        (first | go_keep | exact wi_cells HW2.out | exact wi_cells (wi_below (wi_drew HW2.out) HBL2.out))
        ((go_at_call 59; (with_reducible refine (jsonparser_nextTokenConfig.calls k' false false 0 _ _ dq2 (v : Int) _ ?side3 ?side4 HX.out).mono ?_); (case side3 => exact HA3.out _ (Kd.C_drew (Kd.C_below H1.out HW2.out.bel))); (case side4 => exact HC3.out); rintro e0 w3 ⟨rfl, hbel⟩; have HBL2 := sd hbel; have HW3 := sd (wi_below (wi_drew HW2.out) hbel); have hb3 := cellV H1.out HW3.out.bel (i' + 1 + se + v) HE2.out HCC.out; clear hbel))
       have ⟨fc0, fc1', fc2, fc3⟩ := wi_cells HW3.out
       clear HBL HBL2 hb hc0 hc1' hc2 hc3 gc0 gc1' gc2 gc3 hbox
       go_upto_if 129 with (fail)
       go_cut [22] (fun v22 wc => ∃ (p : Addr) (A5 : Option Addr) (c5 : Nat), v22 = .pointer (some p) ∧ Aside0 (wc.cell? p = some (.slice A5 u.length c5)) ∧ Aside0 (Kd.C (Kd.int .u8) wc A5 u.length u) ∧ Aside0 (WI w wc (.slice (some ad) data.length c1)))
       case first =>
        clear hcut2 hcut3 hcut4 hb3 p1 q1 p2 q2 p3 q3 q3' t1 t1' t10 t11 t11' t11'' hN x15 x16 x17 x18 x19 x20 x3 x4 x5 x6 x7 x8 x9 x10 x11 x12 x13 x14 hw1 hw2 t8 t9 t12
        rcases HEsc.out with ⟨rfl, rfl⟩ | ⟨rfl, hue⟩
        ·go_wp2
         go_meet
         case rel => exact ⟨_, A4, _, rfl, ⟨by first | (rw [blk_cell (blk_new _ _)]; rfl) | rfl⟩, ⟨HA4.out _ (Kd.C_below H1.out (wi_alloc HW3.out _).bel)⟩, ⟨wi_alloc HW3.out _⟩⟩
        ·have HU := sd hue
         obtain ⟨a13, t13, hB13, hs13⟩ := HW3.out.arr
         have HB13 := sd (And.intro hB13 hs13)
         have HWA := sd (wi_drew (wi_alloc HW3.out (.cells #[.slice none 0 0] 44)))
         clear hue hB13 hs13
         go_wp2
         go_region_held3 (fun w' => w'.cell? ⟨w.heap.size, 0, none⟩ = some (.bool false) ∧ w'.cell? ⟨w.heap.size, 1, none⟩ = some (.bool false) ∧ w'.cell? ⟨w.heap.size, 2, none⟩ = some (.int .i64 0))
          (first | go_keep | exact ⟨(wi_cells HWA.out).1, (wi_cells HWA.out).2.1, (wi_cells HWA.out).2.2.1⟩ | exact ⟨(wi_cells HW4.out).1, (wi_cells HW4.out).2.1, (wi_cells HW4.out).2.2.1⟩)
          ((go_at_call 63; (with_reducible refine (unesc_ue body u A4 (c1 - (i' + 1)) (w.heap.size + 1 + 1) a13 t13 _ HU.out HBB.out.1 HBB.out.2 HC4.out ?r1 ?r2 HB13.out.2 (ne15 HT.out) ?r3).mono ?_); (case r1 => exact fun W' hk => HA4.out W' (C_far H1.out (fun k hk' => old_kept HWA.out.bel hk k hk'))); (case r2 => exact blk_drew (blk_alloc HB13.out.1 _)); (case r3 => exact tab_below HT.out HWA.out.bel); rintro e0 w4 ⟨⟨A5, c5, X5, rfl, hle, hX, hrd⟩, hk, he, arr5, hb5, hs5⟩; have HW4 := sd (wi_buf HWA.out hk he ⟨hb5, hs5⟩); have HK4 := sd hk; have HX5 := sd (And.intro hX hrd); clear hle hX hrd hk he hb5 hs5))
         have ⟨hb22, h22c, h22f, h22l⟩ := own22 HW3.out HK4.out
         have HB22 := sd hb22
         clear hb22
         go_wp2
         go_meet
         case rel => exact ⟨⟨w3.heap.size, 0, none⟩, A5, c5, rfl, ⟨cell22 HB22.out _⟩, ⟨rd22 HW3.out HX5.out _⟩, ⟨wi_set HW4.out (wi_lt HW3.out) _⟩⟩
       case rest =>
        obtain ⟨p, A5, c5, rfl, HP5, HR5, HW5⟩ := hcut
        obtain ⟨ak, ek, hk5⟩ := key_cell H2.out HW5.out.bel HKey.out
        cases ek
        clear hcut2 hcut3 hcut4 hb3 fc0 fc1' fc2 fc3 HEsc
        go_wp2_with (first | (go_at_call 80; (with_reducible refine (equalStr_calls p A5 c5 u key _ ?s5 ?s6).mono ?_); (case s5 => exact HP5.out); (case s6 => exact HR5.out); rintro e0 w6 ⟨rfl, rfl⟩))
        go_roundg m
        case measure => exact HK2.out
        case rel => exact ⟨i' + 1 + se + v + 1, L + 1, K, false, rfl, by go_num, by go_num, rfl, HA, ⟨Nat.le_trans (Nat.le_of_succ_le HK2.out) HK1.out⟩, ⟨⟨HI.out.k0, HI.out.k1, HI.out.l1, HE2.out⟩⟩, HW5⟩
     | keyYes _ _ m _ L _ se v u key hK h58 hkey heq hlt hA =>
      as_aux_lemma =>
       obtain ⟨h34, hse2, hse1, ⟨k, esc, hse, hesc⟩, ⟨k', hnx⟩⟩ := hK
       obtain ⟨A2, hcut2, hA2, hC2⟩ := cut_drop (some ad) c1 data (i' + 1) ((i' : Int) + 1) rfl (by omega) HB.out.2.2.1
       obtain ⟨A3, hcut3, hA3, hC3⟩ := cut_drop (some ad) c1 data (i' + 1 + se) ((i' : Int) + 1 + (se : Int)) (by omega) (by omega) HB.out.2.2.1
       obtain ⟨A4, hcut4, hA4, hC4⟩ := cut_mid (some ad) c1 data (i' + 1) (i' + se) ((i' : Int) + 1) ((i' : Int) + 1 + (se : Int) - 1) rfl (by omega) (by omega) (by omega) HB.out.2.2.1
       have HA2 := sd hA2
       have HC2 := sd hC2
       have HA3 := sd hA3
       have HC3 := sd hC3
       have HA4 := sd hA4
       have HC4 := sd hC4
       have HH := sd hse
       have HX := sd hnx
       have HE2 := sd hse2
       have HEsc := sd hesc
       have HKey := sd hkey
       have HA := sd hA
       have HW0 := HW
       have ⟨hc0, hc1', hc2, hc3⟩ := wi_cells HW.out
       obtain ⟨⟨x3, x4⟩, ⟨x5, x6⟩, ⟨x7, x8⟩, ⟨x9, x10⟩, t8, t9, hN, ⟨x11, x12⟩⟩ := str_facts HB.out (Nat.le_of_lt hse2)
       obtain ⟨p2, q2⟩ := str_lt hse2
       obtain ⟨x13, x14⟩ := str_next HB.out hse2
       have HCC := sd h58
       have HL := sd (List.getElem?_eq_some_iff.mp hkey).1
       have t10 : decide ((L : Int) + 1 < 1) = false := decide_eq_false (by omega)
       have t11 : decide ((L : Int) + 1 ≤ (keys.length : Int)) = true := decide_eq_true (Int.ofNat_le.mpr HL.out)
       have t11' : decide (L + 1 ≤ keys.length) = true := decide_eq_true HL.out
       have t11'' : decide (L < keys.length) = true := decide_eq_true HL.out
       obtain ⟨x15, x16, x17, x18, x19, x20⟩ := wrap_m1 (n := L) (Nat.lt_trans HL.out HB.out.2.1)
       have p3 : (0 ≤ (L : Int)) = True := eq_true (Int.natCast_nonneg L)
       have q3 : ((L : Int) < (keys.length : Int)) = True := eq_true (Int.ofNat_lt.mpr HL.out)
       have q3' : (L < keys.length) = True := eq_true HL.out
       have HBB := sd (body_bts HBY.out HB.out.1 i' se)
       generalize hbody : (data.take (i' + se)).drop (i' + 1) = body at *
       clear hA hse hse1 hse2 hnx h58 hf hA2 hC2 hA3 hC3 hA4 hC4 hesc hkey hbody
       have t12 : decide (strOfNums u = key) = true := decide_eq_true heq
       have ⟨x21, x22⟩ := wrap_1 (n := L) (Nat.lt_trans HL.out HB.out.2.1)
       have t13 : ((L : Int) + 1 == (keys.length : Int)) = false := beq_eq_false_iff_ne.mpr (fun h => absurd (Int.ofNat_inj.mp (h : ((L + 1 : Nat) : Int) = (keys.length : Int))) (Nat.ne_of_lt hlt))
       have HLT := sd hlt
       clear heq hlt
       rw [h34] at hb
       clear h34
       generalize hdq1 : data.drop (i' + 1) = dq1 at *
       generalize hdq2 : data.drop (i' + 1 + se) = dq2 at *
       go_wp2
       go_region_held3 (fun w' => w'.cell? ⟨w.heap.size, 0, none⟩ = some (.bool false) ∧ w'.cell? ⟨w.heap.size, 1, none⟩ = some (.bool false) ∧ w'.cell? ⟨w.heap.size, 2, none⟩ = some (.int .i64 0) ∧ w'.cell? ⟨w.heap.size + 1, 0, none⟩ = some (.slice (some ad) data.length c1))
        (first | go_keep | exact wi_cells (wi_below (wi_drew HW.out) HBL.out))
        ((go_at_call 62; (with_reducible refine (jsonparser_stringEndConfig.calls k false false 0 _ _ dq1 34 (se : Int) esc _ ?side1 ?side2 HH.out).mono ?_); (case side1 => exact HA2.out _ (Kd.C_drew (Kd.C_below H1.out HW.out.bel))); (case side2 => exact HC2.out); rintro e0 w2 ⟨rfl, hbel⟩; have HBL := sd hbel; have HW2 := sd (wi_below (wi_drew HW.out) hbel); clear hbel))
       have ⟨gc0, gc1', gc2, gc3⟩ := wi_cells HW2.out
       go_wp2
       go_region_held3 (fun w' => w'.cell? ⟨w.heap.size, 0, none⟩ = some (.bool false) ∧ w'.cell? ⟨w.heap.size, 1, none⟩ = some (.bool false) ∧ w'.cell? ⟨w.heap.size, 2, none⟩ = some (.int .i64 0) ∧ w'.cell? ⟨w.heap.size + 1, 0, none⟩ = some (.slice (some ad) data.length c1))
        (first | go_keep | exact wi_cells HW2.out | exact wi_cells (wi_below (wi_drew HW2.out) HBL2.out))
        ((go_at_call 59; (with_reducible refine (jsonparser_nextTokenConfig.calls k' false false 0 _ _ dq2 (v : Int) _ ?side3 ?side4 HX.out).mono ?_); (case side3 => exact HA3.out _ (Kd.C_drew (Kd.C_below H1.out HW2.out.bel))); (case side4 => exact HC3.out); rintro e0 w3 ⟨rfl, hbel⟩; have HBL2 := sd hbel; have HW3 := sd (wi_below (wi_drew HW2.out) hbel); have hb3 := cellV H1.out HW3.out.bel (i' + 1 + se + v) HE2.out HCC.out; clear hbel))
       have ⟨fc0, fc1', fc2, fc3⟩ := wi_cells HW3.out
       clear HBL HBL2 hb hc0 hc1' hc2 hc3 gc0 gc1' gc2 gc3 hbox
       go_upto_if 129 with (fail)
       go_cut [22] (fun v22 wc => ∃ (p : Addr) (A5 : Option Addr) (c5 : Nat), v22 = .pointer (some p) ∧ Aside0 (wc.cell? p = some (.slice A5 u.length c5)) ∧ Aside0 (Kd.C (Kd.int .u8) wc A5 u.length u) ∧ Aside0 (WI w wc (.slice (some ad) data.length c1)))
       case first =>
        clear hcut2 hcut3 hcut4 hb3 p1 q1 p2 q2 p3 q3 q3' t1 t1' t10 t11 t11' t11'' hN x15 x16 x17 x18 x19 x20 x21 x22 t13 x3 x4 x5 x6 x7 x8 x9 x10 x11 x12 x13 x14 hw1 hw2 t8 t9 t12
        rcases HEsc.out with ⟨rfl, rfl⟩ | ⟨rfl, hue⟩
        ·go_wp2
         go_meet
         case rel => exact ⟨_, A4, _, rfl, ⟨by first | (rw [blk_cell (blk_new _ _)]; rfl) | rfl⟩, ⟨HA4.out _ (Kd.C_below H1.out (wi_alloc HW3.out _).bel)⟩, ⟨wi_alloc HW3.out _⟩⟩
        ·have HU := sd hue
         obtain ⟨a13, t13, hB13, hs13⟩ := HW3.out.arr
         have HB13 := sd (And.intro hB13 hs13)
         have HWA := sd (wi_drew (wi_alloc HW3.out (.cells #[.slice none 0 0] 44)))
         clear hue hB13 hs13
         go_wp2
         go_region_held3 (fun w' => w'.cell? ⟨w.heap.size, 0, none⟩ = some (.bool false) ∧ w'.cell? ⟨w.heap.size, 1, none⟩ = some (.bool false) ∧ w'.cell? ⟨w.heap.size, 2, none⟩ = some (.int .i64 0))
          (first | go_keep | exact ⟨(wi_cells HWA.out).1, (wi_cells HWA.out).2.1, (wi_cells HWA.out).2.2.1⟩ | exact ⟨(wi_cells HW4.out).1, (wi_cells HW4.out).2.1, (wi_cells HW4.out).2.2.1⟩)
          ((go_at_call 63; (with_reducible refine (unesc_ue body u A4 (c1 - (i' + 1)) (w.heap.size + 1 + 1) a13 t13 _ HU.out HBB.out.1 HBB.out.2 HC4.out ?r1 ?r2 HB13.out.2 (ne15 HT.out) ?r3).mono ?_); (case r1 => exact fun W' hk => HA4.out W' (C_far H1.out (fun k hk' => old_kept HWA.out.bel hk k hk'))); (case r2 => exact blk_drew (blk_alloc HB13.out.1 _)); (case r3 => exact tab_below HT.out HWA.out.bel); rintro e0 w4 ⟨⟨A5, c5, X5, rfl, hle, hX, hrd⟩, hk, he, arr5, hb5, hs5⟩; have HW4 := sd (wi_buf HWA.out hk he ⟨hb5, hs5⟩); have HK4 := sd hk; have HX5 := sd (And.intro hX hrd); clear hle hX hrd hk he hb5 hs5))
         have ⟨hb22, h22c, h22f, h22l⟩ := own22 HW3.out HK4.out
         have HB22 := sd hb22
         clear hb22
         go_wp2
         go_meet
         case rel => exact ⟨⟨w3.heap.size, 0, none⟩, A5, c5, rfl, ⟨cell22 HB22.out _⟩, ⟨rd22 HW3.out HX5.out _⟩, ⟨wi_set HW4.out (wi_lt HW3.out) _⟩⟩
       case rest =>
        obtain ⟨p, A5, c5, rfl, HP5, HR5, HW5⟩ := hcut
        obtain ⟨ak, ek, hk5⟩ := key_cell H2.out HW5.out.bel HKey.out
        cases ek
        clear hcut2 hcut3 hcut4 hb3 fc0 fc1' fc2 fc3 HEsc
        go_wp2_with (first | (go_at_call 80; (with_reducible refine (equalStr_calls p A5 c5 u key _ ?s5 ?s6).mono ?_); (case s5 => exact HP5.out); (case s6 => exact HR5.out); rintro e0 w6 ⟨rfl, rfl⟩))
        go_roundg m
        case measure => exact HK2.out
        case rel => exact ⟨i' + 1 + se + v + 1, L + 1, (L : Int) + 1, true, by go_num, by go_num, by go_num, rfl, HA, ⟨Nat.le_trans (Nat.le_of_succ_le HK2.out) HK1.out⟩, ⟨⟨neg1 L, Int.ofNat_lt.mpr HLT.out, HI.out.l1, HE2.out⟩⟩, HW5⟩
     | openSkip _ _ m _ _ _ k e _ h123 hbe he1 he2 hA =>
      as_aux_lemma =>
       obtain ⟨e, rfl⟩ : ∃ e1, e = e1 + 1 := ⟨e - 1, by omega⟩
       obtain ⟨A2, hcut2, hA2, hC2⟩ := cut_drop (some ad) c1 data i' (i' : Int) rfl (by omega) HB.out.2.2.1
       have HR2 := sd (hA2 _ (Kd.C_below H1.out HW.out.bel))
       have HC2 := sd hC2
       have HH := sd (cast1 hbe)
       have HE := sd he2
       have ⟨hc0, hc1', hc2, hc3⟩ := wi_cells HW.out
       have HA := sd hA
       obtain ⟨⟨hw3, hw4, hw5, hw6⟩, ⟨hw9, hw10⟩, ⟨hw11, hw12⟩, t8⟩ := blk_facts HB.out he2
       clear hA hbe he1 he2 hf hA2 hC2
       rw [h123] at hb
       clear h123
       generalize hdq1 : data.drop i' = dq1 at *
       go_wp2
       go_region_held3 (fun w' => w'.cell? ⟨w.heap.size, 0, none⟩ = some (.bool false) ∧ w'.cell? ⟨w.heap.size, 1, none⟩ = some (.bool false) ∧ w'.cell? ⟨w.heap.size, 2, none⟩ = some (.int .i64 0) ∧ w'.cell? ⟨w.heap.size + 1, 0, none⟩ = some (.slice (some ad) data.length c1))
        (first | go_keep | exact wi_cells (wi_below (wi_drew HW.out) HBL.out))
        ((go_at_call 81; (with_reducible refine (jsonparser_blockEndConfig.calls k false false 0 _ _ dq1 123 125 ((e : Int) + 1) _ ?side1 ?side2 HH.out).mono ?_); (case side1 => exact Kd.C_drew HR2.out); (case side2 => exact HC2.out); rintro e0 w2 ⟨rfl, hbel⟩; have HBL := sd hbel; clear hbel))
       go_wp2
       go_roundg m
       case measure => exact HK2.out
       case rel => exact ⟨i' + (e + 1), L, K, false, rfl, rfl, by go_num, rfl, HA, ⟨Nat.le_trans (Nat.le_of_succ_le HK2.out) HK1.out⟩, ⟨⟨HI.out.k0, HI.out.k1, HI.out.l1, HE.out⟩⟩, ⟨wi_below (wi_drew HW.out) HBL.out⟩⟩
     | openIn _ _ m _ _ _ _ h123 hlk hA =>
      as_aux_lemma =>
 
       have HA := sd hA
       have ⟨hw3, hw4⟩ := wrap_1 (n := L) (by have := HB.out; omega)
       have HL := sd hlk
       clear hA hlk hf
       rw [h123] at hb
       clear h123
       go_wp2
       go_roundg m
       case measure => exact HK2.out
       case rel => exact ⟨i' + 1, L + 1, K, true, rfl, by go_num, by go_num, rfl, HA, ⟨Nat.le_trans (Nat.le_of_succ_le HK2.out) HK1.out⟩, ⟨⟨HI.out.k0, HI.out.k1, HL.out, by omega⟩⟩, HW⟩
     | closeEq _ _ m _ L _ _ h125 hA =>
      as_aux_lemma =>
       have HA := sd hA
       obtain ⟨hw3, hw4, hw5, hw6, hw7, hw8⟩ := wrap_m1 (n := L) (by have := HB.out; have := HI.out.l1; omega)
       clear hA hf
       rw [h125] at hb
       clear h125
       go_wp2
       go_roundg m
       case measure => exact HK2.out
       case rel => exact ⟨i' + 1, L, (L : Int) - 1, M, rfl, by go_num, by go_num, rfl, HA, ⟨Nat.le_trans (Nat.le_of_succ_le HK2.out) HK1.out⟩, ⟨⟨by omega, by have := HI.out.k1; omega, by have := HI.out.l1; omega, by omega⟩⟩, HW⟩
     | closeNe _ _ m _ L _ _ _ h125 hne hA =>
      as_aux_lemma =>
       have HA := sd hA
       obtain ⟨hw3, hw4, hw5, hw6, hw7, hw8⟩ := wrap_m1 (n := L) (by have := HB.out; have := HI.out.l1; omega)
       have t2 : ((L : Int) == K) = false := beq_eq_false_iff_ne.mpr hne
       clear hA hf hne
       rw [h125] at hb
       clear h125
       go_wp2
       go_roundg m
       case measure => exact HK2.out
       case rel => exact ⟨i' + 1, L, K, M, rfl, by go_num, by go_num, rfl, HA, ⟨Nat.le_trans (Nat.le_of_succ_le HK2.out) HK1.out⟩, ⟨⟨HI.out.k0, HI.out.k1, by have := HI.out.l1; omega, by omega⟩⟩, HW⟩
     | arrNe _ _ m _ _ _ _ k e _ h91 hne hbe he1 he2 hA =>
      as_aux_lemma =>
       obtain ⟨e, rfl⟩ : ∃ e1, e = e1 + 1 := ⟨e - 1, by omega⟩
       obtain ⟨A2, hcut2, hA2, hC2⟩ := cut_drop (some ad) c1 data i' (i' : Int) rfl (by omega) HB.out.2.2.1
       have HR2 := sd (hA2 _ (Kd.C_below H1.out HW.out.bel))
       have HC2 := sd hC2
       have HH := sd (cast1 hbe)
       have HE := sd he2
       have ⟨hc0, hc1', hc2, hc3⟩ := wi_cells HW.out
       have HA := sd hA
       obtain ⟨⟨hw3, hw4, hw5, hw6⟩, ⟨hw9, hw10⟩, ⟨hw11, hw12⟩, t8⟩ := blk_facts HB.out he2
       clear hA hbe he1 he2 hf hA2 hC2
       have t9 : (K == (L : Int)) = false := beq_eq_false_iff_ne.mpr hne
       rw [h91] at hb
       clear h91 hne
       generalize hdq1 : data.drop i' = dq1 at *
       go_wp2
       go_region_held3 (fun w' => w'.cell? ⟨w.heap.size, 0, none⟩ = some (.bool false) ∧ w'.cell? ⟨w.heap.size, 1, none⟩ = some (.bool false) ∧ w'.cell? ⟨w.heap.size, 2, none⟩ = some (.int .i64 0) ∧ w'.cell? ⟨w.heap.size + 1, 0, none⟩ = some (.slice (some ad) data.length c1))
        (first | go_keep | exact wi_cells (wi_below (wi_drew HW.out) HBL.out))
        ((go_at_call 81; (with_reducible refine (jsonparser_blockEndConfig.calls k false false 0 _ _ dq1 91 93 ((e : Int) + 1) _ ?side1 ?side2 HH.out).mono ?_); (case side1 => exact Kd.C_drew HR2.out); (case side2 => exact HC2.out); rintro e0 w2 ⟨rfl, hbel⟩; have HBL := sd hbel; clear hbel))
       go_wp2
       go_roundg m
       case measure => exact HK2.out
       case rel => exact ⟨i' + (e + 1), L, K, M, rfl, rfl, by go_num, rfl, HA, ⟨Nat.le_trans (Nat.le_of_succ_le HK2.out) HK1.out⟩, ⟨⟨HI.out.k0, HI.out.k1, HI.out.l1, HE.out⟩⟩, ⟨wi_below (wi_drew HW.out) HBL.out⟩⟩
     | arrName _ _ m _ _ _ k e key _ h91 hkey hidx hbe he1 he2 hA =>
      as_aux_lemma =>
       obtain ⟨e, rfl⟩ : ∃ e1, e = e1 + 1 := ⟨e - 1, by omega⟩
       obtain ⟨A2, hcut2, hA2, hC2⟩ := cut_drop (some ad) c1 data i' (i' : Int) rfl (by omega) HB.out.2.2.1
       have HR2 := sd (hA2 _ (Kd.C_below H1.out HW.out.bel))
       have HC2 := sd hC2
       have HH := sd (cast1 hbe)
       have HE := sd he2
       have ⟨hc0, hc1', hc2, hc3⟩ := wi_cells HW.out
       have HA := sd hA
       obtain ⟨⟨hw3, hw4, hw5, hw6⟩, ⟨hw9, hw10⟩, ⟨hw11, hw12⟩, t8⟩ := blk_facts HB.out he2
       obtain ⟨ak, ek, hk⟩ := Kd.at_string (Kd.C_below H2.out HW.out.bel) (L : Int) (by omega) (by have := (List.getElem?_eq_some_iff.mp hkey).1; omega)
       generalize hdq1 : data.drop i' = dq1 at *
       cases ek
       rw [Int.toNat_natCast, rdOf_key hkey] at hk
       have p2 : (0 ≤ (L : Int)) = True := eq_true (by omega)
       have q2 : ((L : Int) < (keys.length : Int)) = True := eq_true (by have := (List.getElem?_eq_some_iff.mp hkey).1; omega)
       rw [h91] at hb
       have HKey := sd hkey
       clear hA hbe he1 he2 hf hA2 hC2 h91 hkey
       by_cases hz : key.size = 0
       ·have t9 : decide (0 < key.size) = false := decide_eq_false (by omega)
        have t10 : decide ((0 : Int) < (key.size : Int)) = false := decide_eq_false (by omega)
        clear hz hidx
        go_wp2
        go_region_held3 (fun w' => w'.cell? ⟨w.heap.size, 0, none⟩ = some (.bool false) ∧ w'.cell? ⟨w.heap.size, 1, none⟩ = some (.bool false) ∧ w'.cell? ⟨w.heap.size, 2, none⟩ = some (.int .i64 0) ∧ w'.cell? ⟨w.heap.size + 1, 0, none⟩ = some (.slice (some ad) data.length c1))
         (first | go_keep | exact wi_cells (wi_below (wi_drew HW.out) HBL.out))
         ((go_at_call 81; (with_reducible refine (jsonparser_blockEndConfig.calls k false false 0 _ _ dq1 91 93 ((e : Int) + 1) _ ?side1 ?side2 HH.out).mono ?_); (case side1 => exact Kd.C_drew HR2.out); (case side2 => exact HC2.out); rintro e0 w2 ⟨rfl, hbel⟩; have HBL := sd hbel; clear hbel))
        go_wp2
        go_roundg m
        case measure => exact HK2.out
        case rel => exact ⟨i' + (e + 1), L, (L : Int), M, rfl, rfl, by go_num, rfl, HA, ⟨Nat.le_trans (Nat.le_of_succ_le HK2.out) HK1.out⟩, ⟨⟨HI.out.k0, HI.out.k1, HI.out.l1, HE.out⟩⟩, ⟨wi_below (wi_drew HW.out) HBL.out⟩⟩
       ·have hx : ∀ h : 0 < key.size, ((key[0]'h).toNat : Int) = bt key 0 := bt_at key 0
        have t9 : decide (0 < key.size) = true := decide_eq_true (by omega)
        have t10 : decide ((0 : Int) < (key.size : Int)) = true := decide_eq_true (by omega)
        have q9 : (0 < key.size) = True := eq_true (by omega)
        have q10 : ((0 : Int) < (key.size : Int)) = True := eq_true (by omega)
        have t11 : (bt key 0 == 91) = false := beq_eq_false_iff_ne.mpr (fun h => hidx (idxK_of h (by omega)))
        clear hz hidx
        go_wp2
        go_region_held3 (fun w' => w'.cell? ⟨w.heap.size, 0, none⟩ = some (.bool false) ∧ w'.cell? ⟨w.heap.size, 1, none⟩ = some (.bool false) ∧ w'.cell? ⟨w.heap.size, 2, none⟩ = some (.int .i64 0) ∧ w'.cell? ⟨w.heap.size + 1, 0, none⟩ = some (.slice (some ad) data.length c1))
         (first | go_keep | exact wi_cells (wi_below (wi_drew HW.out) HBL.out))
         ((go_at_call 81; (with_reducible refine (jsonparser_blockEndConfig.calls k false false 0 _ _ dq1 91 93 ((e : Int) + 1) _ ?side1 ?side2 HH.out).mono ?_); (case side1 => exact Kd.C_drew HR2.out); (case side2 => exact HC2.out); rintro e0 w2 ⟨rfl, hbel⟩; have HBL := sd hbel; clear hbel))
        go_wp2
        go_roundg m
        case measure => exact HK2.out
        case rel => exact ⟨i' + (e + 1), L, (L : Int), M, rfl, rfl, by go_num, rfl, HA, ⟨Nat.le_trans (Nat.le_of_succ_le HK2.out) HK1.out⟩, ⟨⟨HI.out.k0, HI.out.k1, HI.out.l1, HE.out⟩⟩, ⟨wi_below (wi_drew HW.out) HBL.out⟩⟩
     | arrFar _ _ _ _ _ _ key d els _ h91 hkey hbr hels hlen =>
      as_aux_lemma =>
       obtain ⟨ji, x3, x4, p2, p3, p4, p5, p6, hx0, hx1, hs18, hat, q2, q3, t2, t3, t4, t5⟩ := key_facts hbr
       have HAT := sd (And.intro hs18 hat)
       obtain ⟨ak, ek, hk⟩ := key_cell H2.out HW.out.bel hkey
       cases ek
       have hLk := (List.getElem?_eq_some_iff.mp hkey).1
       have HL := sd hLk
       have p7 : (0 ≤ (L : Int)) = True := eq_true (Int.natCast_nonneg L)
       have q7 : ((L : Int) < (keys.length : Int)) = True := eq_true (Int.ofNat_lt.mpr hLk)
       have q7' : (L < keys.length) = True := eq_true hLk
       obtain ⟨A2, hcut2, hA2, hC2⟩ := cut_drop (some ad) c1 data i' (i' : Int) rfl (Nat.le_of_lt hi) HB.out.2.2.1
       have HA2 := sd hA2
       have HC2 := sd hC2
       have HBR := sd hbr
       have HELS := sd hels
       have ⟨hc0, hc1', hc2, hc3⟩ := wi_cells HW.out
       have hmf : ∀ (fn : Fn) (first cap : Array Value) (w : World), (Instr.makeFunc fn first cap).run Tryz.prog w = .ok (.func fn first cap) w := fun _ _ _ _ => rfl
       obtain ⟨aV, haV⟩ : ∃ aV, decV d = aV := ⟨_, rfl⟩
       have HAV := sd haV
       have haVlen := haV
       have HA0 := sd (haV ▸ (dec_range hbr).1)
       have HII := sd (Nat.le_of_lt hi)
       rw [haV] at hat
       have HAT2 := sd hat
       rw [h91] at hb
       clear hs18 hat hA2 hC2 hbr hels hf haV h91 hLk
       have HLEN := sd (haVlen ▸ hlen : (els.length : Int) ≤ aV)
       clear hlen hkey haVlen
       generalize hdq1 : data.drop i' = dq1 at *
       go_wp2_with (first | (go_at_call 82; (with_reducible refine (atoi_calls (key.extract 1 ji.toNat) aV HAT.out.1 HAT2.out _).mono ?_); rintro e0 w1 ⟨rfl, hb1⟩; have HW1 := sd (wi_below HW.out hb1); have ⟨gc0, gc1', gc2, gc3⟩ := wi_cells HW1.out; clear hb1))
       have HW5 := sd (wi_drew (wi_alloc5 HW1.out (.cells #[.int .i64 aV] 3) (.cells #[.int .i64 0] 3) (.cells #[.slice none 0 0] 44) (.cells #[.int .i64 0] 3) (.cells #[.int .i64 (i' : Int)] 3)))
       go_region_held3 (fun w' => w'.cell? ⟨w.heap.size, 0, none⟩ = some (.bool false) ∧ w'.cell? ⟨w.heap.size, 1, none⟩ = some (.bool false) ∧ w'.cell? ⟨w.heap.size, 2, none⟩ = some (.int .i64 0) ∧ w'.cell? ⟨w.heap.size + 1, 0, none⟩ = some (.slice (some ad) data.length c1))
        (first | exact wi_cells HW5.out | exact wi_cells HW6.out | go_keep)
        ((go_at_call 43; (with_reducible refine (ae_calls' (some ad) c1 data i' dq1 hdq1 A2 (c1 - i') els w1.heap.size (w.heap.size + 1) aV _ HELS.out HB.out.1 HB.out.2.2.1 HII.out HC2.out HA2.out ?a2 HA0.out ?a3 ?a4).mono ?_); (case a2 => exact fun W hk => C_far H1.out (fun k hk' => old_cs HW5.out.bel (wi_lt HW1.out) hk k hk')); (case a3 => exact cb_drew (cb_start HW1.out aV i')); (case a4 => exact size_alloc5 _ _ _ _ _ _); rintro e0 w6 ⟨⟨off, rfl⟩, ⟨V, hcb, hF⟩, hk, he⟩; have HW6 := sd (wi_cs HW5.out (wi_lt HW1.out) hk he); have HCB6 := sd hcb; have HF6 := sd hF; clear hcb hF hk he))
       have hV := HF6.out.2 HLEN.out
       subst hV
       have h6v : w6.cell? ⟨w1.heap.size + 1 + 1, 0, none⟩ = some (.slice none 0 0) := (cb_cells HCB6.out).2.2.2.1
       have hnil : ∀ W : World, (binOp .eql 44 (.slice none 0 0) (.slice none 0 0)).run Tryz.prog W = .ok (.bool true) W := fun W => Lib.run_eql_slice_nil_nil W _ _ Tryz.underlying44
       clear hcut2 gc0 gc1' gc2 gc3
       go_wp2
       go_ret
       exact ⟨rfl, HW6.out.bel⟩
     | arrDown _ _ m _ _ _ key d els b e ty _ h91 hkey hbr hels hget hlt hA =>
      as_aux_lemma =>
       obtain ⟨ji, x3, x4, p2, p3, p4, p5, p6, hx0, hx1, hs18, hat, q2, q3, t2, t3, t4, t5⟩ := key_facts hbr
       have HAT := sd (And.intro hs18 hat)
       obtain ⟨ak, ek, hk⟩ := key_cell H2.out HW.out.bel hkey
       cases ek
       have hLk := (List.getElem?_eq_some_iff.mp hkey).1
       have HL := sd hLk
       have p7 : (0 ≤ (L : Int)) = True := eq_true (Int.natCast_nonneg L)
       have q7 : ((L : Int) < (keys.length : Int)) = True := eq_true (Int.ofNat_lt.mpr hLk)
       have q7' : (L < keys.length) = True := eq_true hLk
       obtain ⟨A2, hcut2, hA2, hC2⟩ := cut_drop (some ad) c1 data i' (i' : Int) rfl (Nat.le_of_lt hi) HB.out.2.2.1
       have HA2 := sd hA2
       have HC2 := sd hC2
       have HBR := sd hbr
       have HELS := sd hels
       have ⟨hc0, hc1', hc2, hc3⟩ := wi_cells HW.out
       have hmf : ∀ (fn : Fn) (first cap : Array Value) (w : World), (Instr.makeFunc fn first cap).run Tryz.prog w = .ok (.func fn first cap) w := fun _ _ _ _ => rfl
       obtain ⟨aV, haV⟩ : ∃ aV, decV d = aV := ⟨_, rfl⟩
       have HAV := sd haV
       have haVlen := haV
       have HA0 := sd (haV ▸ (dec_range hbr).1)
       have HII := sd (Nat.le_of_lt hi)
       rw [haV] at hat
       have HAT2 := sd hat
       rw [h91] at hb
       clear hs18 hat hA2 hC2 hbr hels hf haV h91 hLk
       have HGET := sd (haVlen ▸ hget : els[aV.toNat]? = some (b, e, ty))
       have HSK := sd hA
       obtain ⟨A9, hcut9, hA9, hC9⟩ := cut_keys (some ak) ck keys (L + 1) ((L : Int) + 1) rfl (Nat.le_of_lt hlt) HB.out.2.2.2.1
       have HA9 := sd hA9
       have HC9 := sd hC9
       have HK9 := sd (drop_keys hlt HB.out.2.1)
       have HBT := sd (bts_cut HBY.out HB.out.1 (i' + b) (i' + e))
       have ⟨x5, x6⟩ := wrap_1 (n := L) (Nat.lt_trans HL.out HB.out.2.1)
       generalize hdata2 : (data.take (i' + e)).drop (i' + b) = data2 at *
       clear hget hA hlt hkey haVlen hA9 hC9
       generalize hdq1 : data.drop i' = dq1 at *
       generalize hdq2 : keys.drop (L + 1) = dq2 at *
       go_wp2_with (first | (go_at_call 82; (with_reducible refine (atoi_calls (key.extract 1 ji.toNat) aV HAT.out.1 HAT2.out _).mono ?_); rintro e0 w1 ⟨rfl, hb1⟩; have HW1 := sd (wi_below HW.out hb1); have ⟨gc0, gc1', gc2, gc3⟩ := wi_cells HW1.out; clear hb1))
       have HW5 := sd (wi_drew (wi_alloc5 HW1.out (.cells #[.int .i64 aV] 3) (.cells #[.int .i64 0] 3) (.cells #[.slice none 0 0] 44) (.cells #[.int .i64 0] 3) (.cells #[.int .i64 (i' : Int)] 3)))
       go_region_held3 (fun w' => w'.cell? ⟨w.heap.size, 0, none⟩ = some (.bool false) ∧ w'.cell? ⟨w.heap.size, 1, none⟩ = some (.bool false) ∧ w'.cell? ⟨w.heap.size, 2, none⟩ = some (.int .i64 0) ∧ w'.cell? ⟨w.heap.size + 1, 0, none⟩ = some (.slice (some ad) data.length c1))
        (first | exact wi_cells HW5.out | exact wi_cells HW6.out | go_keep)
        ((go_at_call 43; (with_reducible refine (ae_calls' (some ad) c1 data i' dq1 hdq1 A2 (c1 - i') els w1.heap.size (w.heap.size + 1) aV _ HELS.out HB.out.1 HB.out.2.2.1 HII.out HC2.out HA2.out ?a2 HA0.out ?a3 ?a4).mono ?_); (case a2 => exact fun W hk => C_far H1.out (fun k hk' => old_cs HW5.out.bel (wi_lt HW1.out) hk k hk')); (case a3 => exact cb_drew (cb_start HW1.out aV i')); (case a4 => exact size_alloc5 _ _ _ _ _ _); rintro e0 w6 ⟨⟨off, rfl⟩, ⟨V, hcb, hF⟩, hk, he⟩; have HW6 := sd (wi_cs HW5.out (wi_lt HW1.out) hk he); have HCB6 := sd hcb; have HF6 := sd hF; clear hcb hF hk he))
       obtain ⟨B2, n2, c2, hV, hn2, hpos, hlen2, hrd⟩ := HF6.out.1 b e ty (get_lt HA0.out HGET.out) HGET.out
       rw [hdata2] at hlen2 hrd
       subst hlen2
       obtain ⟨ad2, hB2, _⟩ := Kd.at_int (hrd w H1.out) 0 (Int.le_refl _) (Int.ofNat_lt.mpr hpos)
       subst hB2
       subst hV
       have HN2 := sd hn2
       have HRD := sd hrd
       have h6v : w6.cell? ⟨w1.heap.size + 1 + 1, 0, none⟩ = some (.slice (some ad2) data2.length c2) := (cb_cells HCB6.out).2.2.2.1
       have hne : ∀ W : World, (binOp .eql 44 (.slice (some ad2) data2.length c2) (.slice none 0 0)).run Tryz.prog W = .ok (.bool false) W := fun W => Lib.run_eql_slice_nil W _ _ _ _ _ _ _ Tryz.underlying44
       have ⟨fc0, fc1', fc2, fc3⟩ := wi_cells HW6.out
       clear hcut2 gc0 gc1' gc2 gc3 hn2 hpos hrd hdata2 hmf
       go_wp2
       go_region_held3 (fun w' => w'.cell? ⟨w.heap.size, 0, none⟩ = some (.bool false) ∧ w'.cell? ⟨w.heap.size, 1, none⟩ = some (.bool false) ∧ w'.cell? ⟨w.heap.size, 2, none⟩ = some (.int .i64 0) ∧ w'.cell? ⟨w1.heap.size + 1 + 1, 0, none⟩ = some (.slice (some ad2) data2.length c2))
        (first | exact held81 (wi_drew HW6.out) (cb_drew HCB6.out) | exact held81 HW8.out HCB8.out | go_keep)
        ((go_at_call 60; (with_reducible refine (skc_call (HIH.out m (Nat.lt_of_lt_of_le HK2.out HK1.out)) dq2 data2 (some ad2) c2 A9 (ck - (L + 1)) _ HSK.out HK9.out.1 HBT.out.2 HK9.out.2 ?b4 HN2.out ?b5 HC9.out ?b7 HBT.out.1).mono ?_); (case b4 => exact HRD.out _ (Kd.C_below H1.out (wi_drew HW6.out).bel)); (case b5 => exact HA9.out _ (Kd.C_below H2.out (wi_drew HW6.out).bel)); (case b7 => exact tab_below HT.out (wi_drew HW6.out).bel); rintro e0 w8 ⟨rfl, hb8⟩; have HW8 := sd (wi_below (wi_drew HW6.out) hb8); have HCB8 := sd (cb_kept (cb_drew HCB6.out) hb8); clear hb8))
       go_wp2
       go_ret
       exact ⟨rfl, HW8.out.bel⟩
end Go.Proofs.YthgpfljhmhkaiacGreatDoor.PFnJrTypedMisses
