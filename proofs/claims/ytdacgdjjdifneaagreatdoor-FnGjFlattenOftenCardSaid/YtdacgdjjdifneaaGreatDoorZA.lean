/- Part of the proof of the card in text ZF. -/
import Derived.Test.YtdacgdjjdifneaaGreatDoorV0
import Derived.Laws.Bits64b
import Derived.Outline
import GoSem.PinnedTables
set_option linter.all false
set_option maxHeartbeats 16000000
set_option maxRecDepth 100000
namespace Go.Proofs.YtdacgdjjdifneaaGreatDoor.PFnGjFlattenOften
open Go.RowKit Go.Proofs.YtdacgdjjdifneaaGreatDoorW.PrintWords Go.Proofs.YtdacgdjjdifneaaGreatDoorW.PrintLast Go.Proofs.YtdacgdjjdifneaaGreatDoorW.PrintMore
def Env (a b : World) : Prop := b.os = a.os ∧ b.tape = a.tape ∧ b.output = a.output
theorem Env.refl (a : World) : Env a a := ⟨rfl, rfl, rfl⟩
theorem Env.then_ {a b c : World} (h : Env a b) (k : Env b c) : Env a c := ⟨k.1.trans h.1, k.2.1.trans h.2.1, k.2.2.trans h.2.2⟩
theorem Env.of_below {B : Nat} {a b : World} (h : Below B a b) : Env a b := ⟨h.os, h.tape, h.output⟩
structure Kq (w w' : World) (vb : Nat) : Prop where
 env : Env w w'
 size : w.heap.size ≤ w'.heap.size
 blk : ∀ k, k < w.heap.size → k ≠ vb → w'.heap[k]? = w.heap[k]?
theorem Kq.refl (w : World) (vb : Nat) : Kq w w vb := ⟨Env.refl w, Nat.le_refl _, fun _ _ _ => rfl⟩
theorem Kq.then_ {a b c : World} {vb : Nat} (h : Kq a b vb) (k : Kq b c vb) : Kq a c vb :=
 ⟨h.env.then_ k.env, Nat.le_trans h.size k.size, fun i hi hn => (k.blk i (Nat.lt_of_lt_of_le hi h.size) hn).trans (h.blk i hi hn)⟩
theorem Kq.of_below {w w' : World} (vb : Nat) (h : Below w.heap.size w w') : Kq w w' vb := ⟨Env.of_below h, h.size, fun k hk _ => h.block k hk⟩
theorem Kq.set {w w' : World} {vb : Nat} (h : Kq w w' vb) (o : Nat) (u : Value) : Kq w (w'.setCell ⟨vb, o, none⟩ u) vb :=
 ⟨h.env, by rw [World.size_setCell]; exact h.size, fun k hk hn => by
  rw [← h.blk k hk hn]; exact Below.heap_setCell w' _ u k hn⟩
theorem Kq.drewN {w w' : World} {vb : Nat} (h : Kq w w' vb) (k : Nat) : Kq w (w'.drewN k) vb := ⟨h.env, h.size, h.blk⟩
theorem Kq.drew {w w' : World} {vb : Nat} (h : Kq w w' vb) : Kq w w'.drew vb := ⟨h.env, h.size, h.blk⟩
theorem Kq.below {B : Nat} {w w1 w2 : World} {vb : Nat} (h : Below B w w1) (k : Kq w1 w2 vb) (hB : B ≤ w1.heap.size) (hv : B ≤ vb) : Below B w w2 :=
 ⟨k.env.1.trans h.os, k.env.2.1.trans h.tape, k.env.2.2.trans h.output, Nat.le_trans h.size k.size, fun i hi => (k.blk i (Nat.lt_of_lt_of_le hi hB) (by omega)).trans (h.block i hi)⟩
structure Dw (W : World) (b : Nat) (D : Nat → Int) (nd : Nat) (dp : Int) (neg tr : Bool) : Prop where
 ex : ∃ cur : Array Value, W.heap[b]? = some (.cells cur 133 (0, 0)) ∧ cur.size = 804 ∧ (∀ i, i < 800 → cur[i]? = some (.int .u8 (D i))) ∧ cur[800]? = some (.int .i64 (nd : Int)) ∧ cur[801]? = some (.int .i64 dp) ∧ cur[802]? = some (.bool neg) ∧ cur[803]? = some (.bool tr)
section
variable {W : World} {b nd : Nat} {D : Nat → Int} {dp : Int} {neg tr : Bool}
theorem Dw.cd (h : Dw W b D nd dp neg tr) (i : Nat) (hi : i < 800) : W.cell? ⟨b, i, none⟩ = some (.int .u8 (D i)) := by
 obtain ⟨cur, h1, h2, h3, _⟩ := h.ex; rw [blk_cell h1]; exact h3 i hi
theorem Dw.cnd (h : Dw W b D nd dp neg tr) : W.cell? ⟨b, 800, none⟩ = some (.int .i64 (nd : Int)) := by
 obtain ⟨cur, h1, h2, h3, h4, _⟩ := h.ex; rw [blk_cell h1]; exact h4
theorem Dw.cdp (h : Dw W b D nd dp neg tr) : W.cell? ⟨b, 801, none⟩ = some (.int .i64 dp) := by
 obtain ⟨cur, h1, h2, h3, h4, h5, _⟩ := h.ex; rw [blk_cell h1]; exact h5
theorem Dw.cneg (h : Dw W b D nd dp neg tr) : W.cell? ⟨b, 802, none⟩ = some (.bool neg) := by
 obtain ⟨cur, h1, h2, h3, h4, h5, h6, h7⟩ := h.ex; rw [blk_cell h1]; exact h6
theorem Dw.ctr (h : Dw W b D nd dp neg tr) : W.cell? ⟨b, 803, none⟩ = some (.bool tr) := by
 obtain ⟨cur, h1, h2, h3, h4, h5, h6, h7⟩ := h.ex; rw [blk_cell h1]; exact h7
theorem Dw.fz (h : Dw W b D nd dp neg tr) (i : Nat) : W.frozen? ⟨b, i, none⟩ = false := by
 obtain ⟨cur, h1, _⟩ := h.ex; exact blk_frozen h1 i
theorem Dw.drewN (h : Dw W b D nd dp neg tr) (k : Nat) : Dw (W.drewN k) b D nd dp neg tr := ⟨h.ex⟩
theorem Dw.drew (h : Dw W b D nd dp neg tr) : Dw W.drew b D nd dp neg tr := ⟨h.ex⟩
theorem Dw.keep {W2 : World} (h : Dw W b D nd dp neg tr) (hb : Below W.heap.size W W2) : Dw W2 b D nd dp neg tr := by
 obtain ⟨cur, h1, hr⟩ := h.ex; exact ⟨cur, blk_below h1 hb, hr⟩
theorem Dw.setD (h : Dw W b D nd dp neg tr) (i : Nat) (hi : i < 800) (x : Int) : Dw (W.setCell ⟨b, i, none⟩ (.int .u8 x)) b (fun j => if j = i then x else D j) nd dp neg tr := by
 obtain ⟨cur, h1, h2, h3, h4, h5, h6, h7⟩ := h.ex; refine ⟨_, blk_set h1 i _, by rw [Array.size_setIfInBounds]; exact h2, fun j hj => ?_, ?_, ?_, ?_, ?_⟩
 ·by_cases e : j = i
  ·subst e; rw [Array.getElem?_setIfInBounds_self_of_lt (by omega)]; simp
  ·rw [Array.getElem?_setIfInBounds_ne (by omega), h3 j hj]; simp [e]
 ·rw [Array.getElem?_setIfInBounds_ne (by omega)]; exact h4
 ·rw [Array.getElem?_setIfInBounds_ne (by omega)]; exact h5
 ·rw [Array.getElem?_setIfInBounds_ne (by omega)]; exact h6
 ·rw [Array.getElem?_setIfInBounds_ne (by omega)]; exact h7
theorem Dw.setNd (h : Dw W b D nd dp neg tr) (n : Nat) : Dw (W.setCell ⟨b, 800, none⟩ (.int .i64 (n : Int))) b D n dp neg tr := by
 obtain ⟨cur, h1, h2, h3, h4, h5, h6, h7⟩ := h.ex; refine ⟨_, blk_set h1 800 _, by rw [Array.size_setIfInBounds]; exact h2, fun j hj => ?_, ?_, ?_, ?_, ?_⟩
 ·rw [Array.getElem?_setIfInBounds_ne (by omega)]; exact h3 j hj
 ·rw [Array.getElem?_setIfInBounds_self_of_lt (by omega)]
 ·rw [Array.getElem?_setIfInBounds_ne (by omega)]; exact h5
 ·rw [Array.getElem?_setIfInBounds_ne (by omega)]; exact h6
 ·rw [Array.getElem?_setIfInBounds_ne (by omega)]; exact h7
theorem Dw.setDp (h : Dw W b D nd dp neg tr) (n : Int) : Dw (W.setCell ⟨b, 801, none⟩ (.int .i64 n)) b D nd n neg tr := by
 obtain ⟨cur, h1, h2, h3, h4, h5, h6, h7⟩ := h.ex; refine ⟨_, blk_set h1 801 _, by rw [Array.size_setIfInBounds]; exact h2, fun j hj => ?_, ?_, ?_, ?_, ?_⟩
 ·rw [Array.getElem?_setIfInBounds_ne (by omega)]; exact h3 j hj
 ·rw [Array.getElem?_setIfInBounds_ne (by omega)]; exact h4
 ·rw [Array.getElem?_setIfInBounds_self_of_lt (by omega)]
 ·rw [Array.getElem?_setIfInBounds_ne (by omega)]; exact h6
 ·rw [Array.getElem?_setIfInBounds_ne (by omega)]; exact h7
theorem Dw.setNeg (h : Dw W b D nd dp neg tr) (n : Bool) : Dw (W.setCell ⟨b, 802, none⟩ (.bool n)) b D nd dp n tr := by
 obtain ⟨cur, h1, h2, h3, h4, h5, h6, h7⟩ := h.ex; refine ⟨_, blk_set h1 802 _, by rw [Array.size_setIfInBounds]; exact h2, fun j hj => ?_, ?_, ?_, ?_, ?_⟩
 ·rw [Array.getElem?_setIfInBounds_ne (by omega)]; exact h3 j hj
 ·rw [Array.getElem?_setIfInBounds_ne (by omega)]; exact h4
 ·rw [Array.getElem?_setIfInBounds_ne (by omega)]; exact h5
 ·rw [Array.getElem?_setIfInBounds_self_of_lt (by omega)]
 ·rw [Array.getElem?_setIfInBounds_ne (by omega)]; exact h7
theorem Dw.setTr (h : Dw W b D nd dp neg tr) (n : Bool) : Dw (W.setCell ⟨b, 803, none⟩ (.bool n)) b D nd dp neg n := by
 obtain ⟨cur, h1, h2, h3, h4, h5, h6, h7⟩ := h.ex; refine ⟨_, blk_set h1 803 _, by rw [Array.size_setIfInBounds]; exact h2, fun j hj => ?_, ?_, ?_, ?_, ?_⟩
 ·rw [Array.getElem?_setIfInBounds_ne (by omega)]; exact h3 j hj
 ·rw [Array.getElem?_setIfInBounds_ne (by omega)]; exact h4
 ·rw [Array.getElem?_setIfInBounds_ne (by omega)]; exact h5
 ·rw [Array.getElem?_setIfInBounds_ne (by omega)]; exact h6
 ·rw [Array.getElem?_setIfInBounds_self_of_lt (by omega)]
end
def TrimP (D : Nat → Int) (nd n : Nat) : Prop := n ≤ nd ∧ (∀ i, n ≤ i → i < nd → D i = 48) ∧ (n = 0 ∨ D (n - 1) ≠ 48)
def ndOf (b : Nat) (W : World) : Nat := match W.cell? ⟨b, 800, none⟩ with
 | some (.int .i64 n) => n.toNat
 | _ => 0
theorem ndOf_is {W : World} {b nd : Nat} {D : Nat → Int} {dp : Int} {neg tr : Bool} (h : Dw W b D nd dp neg tr) : ndOf b W = nd := by
 unfold ndOf; rw [h.cnd]; simp
theorem w64p {n : Nat} (h : n ≤ 800) (h0 : 0 < n) : wrap64 ((n : Int) - 1) = ((n - 1 : Nat) : Int) ∧ ((0 ≤ ((n - 1 : Nat) : Int)) = True) ∧ ((((n - 1 : Nat) : Int) < 800) = True) ∧ decide ((0 : Int) < (n : Int)) = true ∧ decide (0 < n) = true := by
 refine ⟨by rw [Go.IntWalk.wrap64_in _ (by omega)]; omega, eq_true (by omega), eq_true (by omega), decide_eq_true (by omega), decide_eq_true h0⟩
theorem trim_calls (b : Nat) (D : Nat → Int) (nd : Nat) (dp : Int) (neg tr : Bool) (hnd : nd ≤ 800) (w : World) (h : Dw w b D nd dp neg tr) :
  Calls Tryz.prog 122 #[.pointer (some ⟨b, 0, none⟩)] w fun e w' => e = .returned (.tuple #[]) ∧ Kq w w' b ∧ ∃ n, TrimP D nd n ∧ Dw w' b D n (if n = 0 then 0 else dp) neg tr := by
 have HN := sd hnd; have HD := sd h; clear h hnd; go_enter Tryz.func122, Tryz.ntmps122; go_wp2; go_loopw [] (fun wr => ∃ n : Nat, Aside0 (n ≤ nd ∧ (∀ i, n ≤ i → i < nd → D i = 48)) ∧ Aside0 (Kq w wr b ∧ Dw wr b D n dp neg tr)) (fun wr => ndOf b wr)
 case atStart => exact ⟨nd, ⟨Nat.le_refl _, fun i h1 h2 => absurd h2 (by omega)⟩, ⟨Kq.refl w b, HD.out⟩⟩
 case round =>
  obtain ⟨n, H1, H2⟩ := hrel; have c0 := H2.out.2.cnd; have c1 := H2.out.2.cdp; have f0 := H2.out.2.fz 800; have f1 := H2.out.2.fz 801
  by_cases hn : n = 0
  ·subst hn; have z0 : ((0 : Nat) : Int) = 0 := rfl; rw [z0] at c0; go_wp2; go_quiet (fail); go_wp2; go_end0; exact ⟨rfl, (H2.out.1.drewN _).set _ _, 0, ⟨Nat.zero_le _, H1.out.2, .inl rfl⟩, (H2.out.2.drewN _).setDp 0⟩
  ·obtain ⟨x1, x2, x3, x4, x5⟩ := w64p (Nat.le_trans H1.out.1 HN.out) (Nat.pos_of_ne_zero hn); have cd := H2.out.2.cd (n - 1) (by have := H1.out.1; have := HN.out; omega)
   by_cases h48 : D (n - 1) = 48
   ·have e48 : (D (n - 1) == 48) = true := beq_iff_eq.mpr h48; go_wp2; go_quiet (fail); go_wp2; go_roundw
    case rel => exact ⟨n - 1, ⟨by have := H1.out.1; omega, fun i h1 h2 => by
     by_cases e : i = n - 1
     ·rw [e]; exact h48
     ·exact H1.out.2 i (by omega) h2⟩, ⟨(H2.out.1.drewN _).set _ _, (H2.out.2.drewN _).setNd _⟩⟩
    case measure =>
     rw [ndOf_is ((H2.out.2.drewN _).setNd _), ndOf_is H2.out.2]; omega
   ·have e48 : (D (n - 1) == 48) = false := beq_eq_false_iff_ne.mpr h48; go_wp2; go_quiet (fail); go_wp2; go_end0; exact ⟨rfl, H2.out.1.drewN _, n, ⟨H1.out.1, H1.out.2, .inr h48⟩, by rw [if_neg hn]; exact H2.out.2.drewN _⟩
def Q (D : Nat → Int) : Nat → Nat
 | 0 => 0
 | r + 1 => Q D r * 10 + (D r - 48).toNat
def P (D : Nat → Int) (nd r : Nat) : Nat := Q D (min r nd) * 10 ^ (r - nd)
def Dgs8 (D : Nat → Int) (nd : Nat) : Prop := ∀ i, i < nd → 48 ≤ D i ∧ D i ≤ 57
theorem Q_cong {D E : Nat → Int} : ∀ {r : Nat}, (∀ i, i < r → D i = E i) → Q D r = Q E r
 | 0, _ => rfl
 | r + 1, h => by rw [Q, Q, Q_cong (fun i hi => h i (by omega)), h r (by omega)]
theorem Q_lt {D : Nat → Int} : ∀ {r : Nat}, Dgs8 D r → Q D r < 10 ^ r
 | 0, _ => by simp [Q]
 | r + 1, h => by
  have h1 := Q_lt (r := r) (fun i hi => h i (by omega)); have h2 := h r (by omega); rw [Q, Nat.pow_succ]; omega
theorem Q_pos {D : Nat → Int} (h0 : 49 ≤ D 0) : ∀ {r : Nat}, 10 ^ r ≤ Q D (r + 1)
 | 0 => by simp [Q]; omega
 | r + 1 => by
  have h1 := Q_pos h0 (r := r); rw [Q, Nat.pow_succ]; omega
theorem Q_zeros {D : Nat → Int} {n : Nat} : ∀ {m : Nat}, (∀ i, n ≤ i → i < n + m → D i = 48) → Q D (n + m) = Q D n * 10 ^ m
 | 0, _ => by simp
 | m + 1, h => by
  have h1 := Q_zeros (m := m) (fun i h1 h2 => h i h1 (by omega)); have h2 := h (n + m) (by omega) (by omega); rw [← Nat.add_assoc, Q, h1, h2, Nat.pow_succ]; simp [Nat.mul_assoc]
theorem P_le {D : Nat → Int} {nd r : Nat} (h : r ≤ nd) : P D nd r = Q D r := by unfold P; rw [Nat.min_eq_left h, show r - nd = 0 by omega]; simp
theorem P_ge {D : Nat → Int} {nd r : Nat} (h : nd ≤ r) : P D nd r = Q D nd * 10 ^ (r - nd) := by unfold P; rw [Nat.min_eq_right h]
theorem P_next {D : Nat → Int} {nd r : Nat} (h : r < nd) : P D nd (r + 1) = P D nd r * 10 + (D r - 48).toNat := by rw [P_le (by omega), P_le (by omega), Q]
theorem P_pad {D : Nat → Int} {nd r : Nat} (h : nd ≤ r) : P D nd (r + 1) = P D nd r * 10 := by
 rw [P_ge (by omega), P_ge h, show r + 1 - nd = (r - nd) + 1 by omega, Nat.pow_succ, Nat.mul_assoc]
theorem Q_scale {D : Nat → Int} : ∀ {r m : Nat}, Q D r * 10 ^ m ≤ Q D (r + m)
 | r, 0 => by simp
 | r, m + 1 => by
  have h := Q_scale (D := D) (r := r) (m := m); rw [← Nat.add_assoc, Q, Nat.pow_succ, ← Nat.mul_assoc]; omega
def Sz (D : Nat → Int) (nd : Nat) (dp : Int) : Nat := Q D nd * 10 ^ (dp + 2000 - nd).toNat
theorem P_scale {D : Nat → Int} {nd r : Nat} {dp : Int} (h1 : (r : Int) ≤ dp + 2000) (h2 : (nd : Int) ≤ dp + 2000) : P D nd r * 10 ^ (dp + 2000 - r).toNat ≤ Sz D nd dp := by
 unfold Sz
 by_cases h : r ≤ nd
 ·rw [P_le h, show (dp + 2000 - r).toNat = (nd - r) + (dp + 2000 - nd).toNat by omega, Nat.pow_add, ← Nat.mul_assoc]; refine Nat.mul_le_mul_right _ ?_; have := Q_scale (D := D) (r := r) (m := nd - r)
  rwa [show r + (nd - r) = nd by omega] at this
 ·rw [P_ge (by omega), Nat.mul_assoc, ← Nat.pow_add, show r - nd + (dp + 2000 - r).toNat = (dp + 2000 - nd).toNat by omega]; exact Nat.le_refl _
theorem Sz_trim {D : Nat → Int} {nd n : Nat} {dp : Int} (h : TrimP D nd n) (h2 : (nd : Int) ≤ dp + 2000) : Sz D n dp = Sz D nd dp := by
 obtain ⟨m, rfl⟩ : ∃ m, nd = n + m := ⟨nd - n, by have := h.1; omega⟩
 unfold Sz; rw [Q_zeros (m := m) h.2.1, Nat.mul_assoc, ← Nat.pow_add, show m + (dp + 2000 - ((n + m : Nat) : Int)).toNat = (dp + 2000 - n).toNat by omega]
def it (k : Nat) : Nat → Nat → Nat
 | 0, n => n
 | f + 1, n => it k f (10 * (n % 2 ^ k))
def steps (k : Nat) : Nat → Nat → Nat
 | 0, _ => 0
 | f + 1, n => if n = 0 then 0 else steps k f (10 * (n % 2 ^ k)) + 1
theorem it_zero (k : Nat) : ∀ (f j n : Nat), 2 ^ j ∣ n → k + 1 ≤ f + j → 1 ≤ f → it k f n = 0
 | 0, _, _, _, _, h => by omega
 | f + 1, j, n, hd, hk, _ => by
  rw [it]
  by_cases hj : k ≤ j
  ·have h0 : n % 2 ^ k = 0 := Nat.mod_eq_zero_of_dvd (Nat.dvd_trans (Nat.pow_dvd_pow 2 hj) hd); rw [h0]; have z : ∀ f, it k f (10 * 0) = 0 := fun f => by
    induction f with
    | zero => rfl
    | succ f ih => rw [it]; simpa using ih
   exact z f
  ·have h1 : 2 ^ j ∣ n % 2 ^ k := (Nat.dvd_mod_iff (Nat.pow_dvd_pow 2 (by omega))).mpr hd; have h2 : 2 ^ (j + 1) ∣ 10 * (n % 2 ^ k) := by
    rw [Nat.pow_succ, Nat.mul_comm (2 ^ j) 2]; obtain ⟨c, hc⟩ := h1; exact ⟨5 * c, by rw [hc]; rw [show (10 : Nat) = 2 * 5 by rfl, Nat.mul_assoc, Nat.mul_assoc, Nat.mul_left_comm 5]⟩
   exact it_zero k f (j + 1) _ h2 (by omega) (by omega)
def Dies (k f n : Nat) : Prop := it k f n = 0
theorem dies_all (k n : Nat) : Dies k (k + 1) n := it_zero k (k + 1) 0 n ⟨n, by simp⟩ (by omega) (by omega)
theorem steps_stable (k : Nat) : ∀ (f n : Nat), it k f n = 0 → steps k (f + 1) n = steps k f n
 | 0, n, h => by
  have h : n = 0 := h; simp [steps, h]
 | f + 1, n, h => by
  rw [it] at h; rw [steps, steps_stable k f _ h]
  conv => rhs; rw [steps]
theorem steps_less (k n : Nat) (hn : n ≠ 0) : steps k (k + 2) (10 * (n % 2 ^ k)) < steps k (k + 2) n := by
 have h1 : it k k (10 * (n % 2 ^ k)) = 0 := by have := dies_all k n; unfold Dies at this; rwa [it] at this
 have h2 : it k (k + 1) (10 * (n % 2 ^ k)) = 0 := dies_all k _; rw [steps_stable k (k + 1) _ h2]
 conv => rhs; rw [steps]
 rw [if_neg hn]; omega
def upd (E : Nat → Int) (w : Nat) (x : Int) : Nat → Int := fun j => if j = w then x else E j
theorem upd_at (E : Nat → Int) (w : Nat) (x : Int) : upd E w x w = x := by simp [upd]
theorem upd_ne {E : Nat → Int} {w : Nat} {x : Int} {j : Nat} (h : j ≠ w) : upd E w x j = E j := by simp [upd, h]
theorem Q_upd {E : Nat → Int} {w q : Nat} : Q (upd E w ((q : Int) + 48)) (w + 1) = Q E w * 10 + q := by
 rw [Q, Q_cong (E := E) (fun i hi => upd_ne (by omega)), upd_at]; congr 1; omega
structure Run (D E : Nat → Int) (nd k r0 r w n : Nat) : Prop where
 rw : r = r0 + w
 one : 1 ≤ r0
 val : Q E w * (10 * 2 ^ k) + n = P D nd r
 lt : n < 10 * 2 ^ k
 dig : Dgs8 E w
 lead0 : w = 0 → 2 ^ k ≤ n
 lead1 : 0 < w → 49 ≤ E 0
 rest : ∀ i, r ≤ i → i < nd → E i = D i
theorem run_val {A x p q m c n : Nat} (h : A * (10 * p) + n = x) (hn : p * q + m = n) : (A * 10 + q) * (10 * p) + (m * 10 + c) = x * 10 + c := by
 subst h hn; rw [Nat.add_mul (A * 10) q, Nat.add_mul (A * (10 * p)) (p * q + m), Nat.add_mul (p * q) m]; have e1 : A * 10 * (10 * p) = A * (10 * p) * 10 := Nat.mul_right_comm A 10 (10 * p); have e2 : q * (10 * p) = p * q * 10 := by rw [Nat.mul_left_comm, Nat.mul_comm q p, Nat.mul_comm 10]
 rw [e1, e2]; omega
theorem run_dig {n k : Nat} (h : n < 10 * 2 ^ k) : n / 2 ^ k ≤ 9 ∧ n % 2 ^ k < 2 ^ k := by
 have hp := Nat.two_pow_pos k; have : n / 2 ^ k < 10 := (Nat.div_lt_iff_lt_mul hp).2 (by omega); exact ⟨by omega, Nat.mod_lt _ hp⟩
theorem upd_digs {E : Nat → Int} {w q : Nat} (h : Dgs8 E w) (hq : q ≤ 9) : Dgs8 (upd E w ((q : Int) + 48)) (w + 1) := fun i hi => by
 by_cases e : i = w
 ·subst e; rw [upd_at]; omega
 ·rw [upd_ne e]; exact h i (by omega)
theorem run_lead {E : Nat → Int} {w n k : Nat} (h0 : w = 0 → 2 ^ k ≤ n) (h1 : 0 < w → 49 ≤ E 0) : 49 ≤ upd E w (((n / 2 ^ k : Nat) : Int) + 48) 0 := by
 by_cases e : w = 0
 ·subst e; have := Nat.div_pos (h0 rfl) (Nat.two_pow_pos k); rw [upd_at]; omega
 ·rw [upd_ne (by omega)]; exact h1 (by omega)
theorem run_step {D E : Nat → Int} {nd k r0 r w n : Nat} (h : Run D E nd k r0 r w n) (hr : r < nd) (hd : Dgs8 D nd) : Run D (upd E w (((n / 2 ^ k : Nat) : Int) + 48)) nd k r0 (r + 1) (w + 1) (n % 2 ^ k * 10 + (D r - 48).toNat) := by
 obtain ⟨hq, hm⟩ := run_dig h.lt; have hc := hd r hr; refine ⟨by have := h.rw; omega, h.one, ?_, by omega, upd_digs h.dig hq, fun e => by omega, fun _ => run_lead h.lead0 h.lead1, fun i h1 h2 => ?_⟩
 ·rw [Q_upd, P_next hr]; exact run_val h.val (Nat.div_add_mod n (2 ^ k))
 ·rw [upd_ne (by have := h.rw; have := h.one; omega)]; exact h.rest i (by omega) h2
structure Run3 (D E : Nat → Int) (nd k r0 w n : Nat) : Prop where
 le : w ≤ 800
 val : w < 800 → Q E w * (10 * 2 ^ k) + n = P D nd (r0 + w)
 vle : Q E w * (10 * 2 ^ k) ≤ P D nd (r0 + w)
 past : nd ≤ r0 + w
 lt : n < 10 * 2 ^ k
 dig : Dgs8 E w
 lead0 : w = 0 → 2 ^ k ≤ n
 lead1 : 0 < w → 49 ≤ E 0
theorem run_3 {D E : Nat → Int} {nd k r0 r w n : Nat} (h : Run D E nd k r0 r w n) (hr : nd ≤ r) (hw : w ≤ 800) : Run3 D E nd k r0 w n := by
 have e := h.rw; subst e; exact ⟨hw, fun _ => h.val, by have := h.val; omega, hr, h.lt, h.dig, h.lead0, h.lead1⟩
theorem run3_step {D E : Nat → Int} {nd k r0 w n : Nat} (h : Run3 D E nd k r0 w n) (hw : w < 800) : Run3 D (upd E w (((n / 2 ^ k : Nat) : Int) + 48)) nd k r0 (w + 1) (n % 2 ^ k * 10) := by
 obtain ⟨hq, hm⟩ := run_dig h.lt; have hv : Q (upd E w (((n / 2 ^ k : Nat) : Int) + 48)) (w + 1) * (10 * 2 ^ k) + n % 2 ^ k * 10 = P D nd (r0 + (w + 1)) := by
  rw [Q_upd, ← Nat.add_assoc, P_pad h.past]; exact run_val (c := 0) (h.val hw) (Nat.div_add_mod n (2 ^ k))
 exact ⟨by omega, fun _ => hv, by omega, by have := h.past; omega, by omega, upd_digs h.dig hq, fun e => by omega, fun _ => run_lead h.lead0 h.lead1⟩
theorem run3_cut {D E : Nat → Int} {nd k r0 w n : Nat} (h : Run3 D E nd k r0 w n) (hw : w = 800) : Run3 D E nd k r0 w (n % 2 ^ k * 10) := by
 obtain ⟨hq, hm⟩ := run_dig h.lt; exact ⟨h.le, fun e => by omega, h.vle, h.past, by omega, h.dig, fun e => by omega, h.lead1⟩
structure Nrm (D : Nat → Int) (nd : Nat) : Prop where
 pos : 1 ≤ nd
 le : nd ≤ 800
 dig : Dgs8 D nd
 lead : 49 ≤ D 0
theorem run_end {D E : Nat → Int} {nd k r0 w m : Nat} {dp : Int} (h : Run3 D E nd k r0 w 0) (ht : TrimP E w m) (hr : r0 ≤ nd + 20) (hnd : nd ≤ 800) :
  Nrm E m ∧ (-300 ≤ dp → Sz E m (dp - (r0 - 1)) * 2 ^ k ≤ Sz D nd dp) := by
 have hw : 0 < w := by
  by_cases e : w = 0
  ·have := h.lead0 e; have := Nat.two_pow_pos k; omega
  ·omega
 have hl := h.lead1 hw; have hm : 0 < m := by
  by_cases e : m = 0
  ·have := ht.2.1 0 (by omega) hw; omega
  ·omega
 have hle := h.le; refine ⟨⟨hm, by have := ht.1; omega, fun i hi => h.dig i (by have := ht.1; omega), hl⟩, fun hdp => ?_⟩; rw [Sz_trim ht (by omega)]; have h1 := P_scale (D := D) (nd := nd) (r := r0 + w) (dp := dp) (by omega) (by omega); refine Nat.le_trans ?_ h1; have h2 := Nat.mul_le_mul_right (10 ^ (dp + 2000 - ((r0 + w : Nat) : Int)).toNat) h.vle; refine Nat.le_trans (Nat.le_of_eq ?_) h2; unfold Sz; rw [show (dp - ((r0 : Int) - 1) + 2000 - (w : Int)).toNat = (dp + 2000 - ((r0 + w : Nat) : Int)).toNat + 1 by omega, Nat.pow_succ]; generalize (10 : Nat) ^ (dp + 2000 - ((r0 + w : Nat) : Int)).toNat = z; generalize (2 : Nat) ^ k = y; rw [Nat.mul_comm z 10, ← Nat.mul_assoc (Q E w) 10 z, ← Nat.mul_assoc (Q E w) 10 y, Nat.mul_right_comm]
theorem Q_up {D : Nat → Int} : ∀ {r m : Nat}, (∀ i, r ≤ i → i < r + m → 48 ≤ D i ∧ D i ≤ 57) → Q D (r + m) < (Q D r + 1) * 10 ^ m
 | r, 0, _ => by simp
 | r, m + 1, h => by
  have h1 := Q_up (r := r) (m := m) (fun i h1 h2 => h i h1 (by omega)); have h2 := h (r + m) (by omega) (by omega); rw [← Nat.add_assoc, Q, Nat.pow_succ, ← Nat.mul_assoc]; omega
theorem lex_lt {D C : Nat → Int} {nd L i : Nat} (hi : i < nd) (hL : i < L) (hd : Dgs8 D nd) (hc : Dgs8 C L) (he : ∀ j, j < i → D j = C j) (hlt : D i < C i) : Q D nd * 10 ^ L < Q C L * 10 ^ nd := by
 obtain ⟨m, rfl⟩ : ∃ m, nd = i + 1 + m := ⟨nd - (i + 1), by omega⟩
 obtain ⟨l, rfl⟩ : ∃ l, L = i + 1 + l := ⟨L - (i + 1), by omega⟩
 have h1 := Q_up (D := D) (r := i + 1) (m := m) (fun j h1 h2 => hd j h2); have h2 := Q_scale (D := C) (r := i + 1) (m := l); have h3 : Q D (i + 1) + 1 ≤ Q C (i + 1) := by
  rw [Q, Q, Q_cong he]; have := hd i hi; have := hc i hL; omega
 have h4 := Nat.mul_lt_mul_of_pos_right h1 (Nat.pow_pos (n := i + 1 + l) (show 0 < 10 by decide)); refine Nat.lt_of_lt_of_le h4 ?_; have h5 := Nat.mul_le_mul_right (10 ^ m * 10 ^ (i + 1 + l)) h3; have h6 := Nat.mul_le_mul_right (10 ^ (i + 1 + m)) h2; rw [Nat.mul_assoc]; refine Nat.le_trans h5 (Nat.le_trans (Nat.le_of_eq ?_) h6); rw [Nat.mul_assoc, ← Nat.pow_add, ← Nat.pow_add]; congr 2; omega
theorem lex_short {D C : Nat → Int} {nd L : Nat} (hL : nd < L) (hd : Dgs8 D nd) (hc : Dgs8 C L) (he : ∀ j, j < nd → D j = C j) (hlast : 49 ≤ C (L - 1)) : Q D nd * 10 ^ L < Q C L * 10 ^ nd := by
 obtain ⟨l, rfl⟩ : ∃ l, L = nd + l + 1 := ⟨L - nd - 1, by omega⟩
 rw [show nd + l + 1 - 1 = nd + l by omega] at hlast; have h2 := Q_scale (D := C) (r := nd) (m := l); rw [Q_cong he]; have h3 : Q C nd * 10 ^ (l + 1) < Q C (nd + l + 1) := by
  rw [Q, Nat.pow_succ, ← Nat.mul_assoc]; omega
 have h4 := Nat.mul_lt_mul_of_pos_right h3 (Nat.pow_pos (n := nd) (show 0 < 10 by decide))
 rwa [Nat.mul_assoc, ← Nat.pow_add, show l + 1 + nd = nd + l + 1 by omega] at h4
theorem lex_ge {D C : Nat → Int} {nd L : Nat} (hL : L ≤ nd) (he : ∀ j, j < L → D j = C j) : Q C L * 10 ^ nd ≤ Q D nd * 10 ^ L := by
 obtain ⟨m, rfl⟩ : ∃ m, nd = L + m := ⟨nd - L, by omega⟩
 have h := Q_scale (D := D) (r := L) (m := m); rw [Q_cong he] at h; have h2 := Nat.mul_le_mul_right (10 ^ L) h
 rwa [Nat.mul_assoc, ← Nat.pow_add, Nat.add_comm m L] at h2
theorem pl_facts {j L : Nat} (h : j < L) (hL : L ≤ 100) : decide ((j : Int) < (L : Int)) = true ∧ decide (j < L) = true ∧ ((0 ≤ (j : Int)) = True) ∧ (((j : Int) < (L : Int)) = True) ∧ wrap64 ((j : Int) + 1) = ((j + 1 : Nat) : Int) :=
 ⟨decide_eq_true (by omega), decide_eq_true h, eq_true (by omega), eq_true (by omega), by rw [Go.IntWalk.wrap64_in _ (by omega)]; omega⟩
theorem rs_meas8 {nd r : Nat} (h : r < nd) : nd - (intOf (.int .i64 ((r + 1 : Nat) : Int))).toNat < nd - (intOf (.int .i64 (r : Int))).toNat := by
 show nd - (((r + 1 : Nat) : Int)).toNat < nd - ((r : Int)).toNat
 omega
theorem pl_ne {D : Nat → Int} {s : ByteArray} {nd j : Nat} (hi : j < nd) (hL : j < s.size) (hd : Dgs8 D nd) (hc : Dgs8 (fun i => bt s (i : Int)) s.size) (he : ∀ q, q < j → D q = bt s (q : Int)) (hne : D j ≠ bt s (j : Int)) :
  decide (Q D nd * 10 ^ s.size < Q (fun i => bt s (i : Int)) s.size * 10 ^ nd) = decide (D j < bt s (j : Int)) := by
 by_cases h : D j < bt s (j : Int)
 ·rw [decide_eq_true h, decide_eq_true (lex_lt hi hL hd hc he h)]
 ·rw [decide_eq_false h]; have h2 := lex_lt (D := fun i => bt s (i : Int)) (C := D) hL hi hc hd (fun q hq => (he q hq).symm) (show bt s (j : Int) < D j by omega); exact decide_eq_false (by omega)
theorem cell_in {w W : World} {a : Addr} {v : Value} (h : w.cell? a = some v) (hb : Below w.heap.size w W) : W.cell? a = some v := (hb.cell (World.block_lt_of_cell? _ _ h)).trans h
theorem bt_c (s : ByteArray) (i : Nat) : ∀ h : i < s.size, ((s[i]'h).toNat : Int) = bt s (i : Int) := fun h => by
 have := bt_at s (i : Int)
 simpa using this h
theorem pl_calls (b : Nat) (D : Nat → Int) (nd c : Nat) (s : ByteArray) (hnd : nd ≤ 800) (hs : s.size ≤ 100) (hd : Dgs8 D nd) (hc : Dgs8 (fun i => bt s (i : Int)) s.size) (hlast : 0 < s.size → 49 ≤ bt s ((s.size - 1 : Nat) : Int)) (w : World) (hD : ∀ i, i < nd → w.cell? ⟨b, i, none⟩ = some (.int .u8 (D i))) :
  Calls Tryz.prog 146 #[.slice (some ⟨b, 0, none⟩) nd c, .string s] w fun e w' => e = .returned (.bool (decide (Q D nd * 10 ^ s.size < Q (fun i => bt s (i : Int)) s.size * 10 ^ nd))) ∧ Below w.heap.size w w' := by
 have HN := sd hnd; have HS := sd hs; have HG := sd hd; have HC := sd hc; have HL := sd hlast; have HD := sd hD; clear hnd hs hd hc hlast hD; go_enter Tryz.func146, Tryz.ntmps146; go_wp2; go_loopw [5] (fun i wr => ∃ j : Nat, i = .int .i64 (j : Int) ∧ Aside0 (j ≤ s.size ∧ j ≤ nd ∧ ∀ q, q < j → D q = bt s (q : Int)) ∧ Aside0 (Below w.heap.size w wr)) (fun i _ => s.size - (intOf i).toNat)
 case atStart => exact ⟨0, rfl, ⟨Nat.zero_le _, Nat.zero_le _, fun q hq => absurd hq (Nat.not_lt_zero _)⟩, ⟨Below.refl _ _⟩⟩
 case round =>
  obtain ⟨j, rfl, H1, HB⟩ := hrel
  by_cases hj : j < s.size
  ·obtain ⟨x1, x2, x3, x4, x5⟩ := pl_facts hj HS.out; have bx := bt_c s j; have x6 : (j < s.size) = True := eq_true hj; have x7 : ((j : Int).toNat) = j := Int.toNat_natCast j
   by_cases hn : j < nd
   ·have y1 : decide ((nd : Int) ≤ (j : Int)) = false := decide_eq_false (by omega); have y2 : decide (nd ≤ j) = false := decide_eq_false (by omega); have y3 : ((j : Int) < (nd : Int)) = True := eq_true (by omega); have y4 : (j < nd) = True := eq_true hn; have cd := cell_in (HD.out j hn) HB.out
    by_cases he : D j = bt s (j : Int)
    ·have e1 : (D j != bt s (j : Int)) = false := bne_eq_false_iff_eq.mpr he; have HX := sd (show ∀ q, q < j + 1 → D q = bt s (q : Int) from fun q hq => by
      by_cases e : q = j
      ·rw [e]; exact he
      ·exact H1.out.2.2 q (by omega))
     have HJ := sd (And.intro hj hn); clear hj hn he; go_wp2; go_quiet (fail); go_wp2; go_roundw
     case rel => exact ⟨j + 1, (by first | (rw [x5]; done) | rfl), ⟨HJ.out.1, HJ.out.2, HX.out⟩, ⟨pw_below_drewN HB.out _⟩⟩
     case measure => first | (rw [x5]; exact rs_meas8 HJ.out.1) | exact rs_meas8 HJ.out.1
    ·have e1 : (D j != bt s (j : Int)) = true := bne_iff_ne.mpr he; have HR := sd (pl_ne hn hj HG.out HC.out H1.out.2.2 he); clear hj hn he; go_wp2; go_quiet (fail); go_wp2; go_quiet (fail); go_wp2; go_ret; exact ⟨by rw [HR.out]; rfl, pw_below_drewN (pw_below_drewN HB.out _) _⟩
   ·have y1 : decide ((nd : Int) ≤ (j : Int)) = true := decide_eq_true (by omega); have y2 : decide (nd ≤ j) = true := decide_eq_true (by omega); have e : j = nd := by have := H1.out.2.1; omega
    have HR := sd (lex_short (D := D) (C := fun i => bt s (i : Int)) (by omega : nd < s.size) HG.out HC.out (by rw [← e]; exact H1.out.2.2) (HL.out (by omega))); clear hj hn e; go_wp2; go_ret; exact ⟨by rw [decide_eq_true HR.out]; rfl, HB.out⟩
  ·have x1 : decide ((j : Int) < (s.size : Int)) = false := decide_eq_false (by omega); have x2 : decide (j < s.size) = false := decide_eq_false hj; have e : j = s.size := by have := H1.out.1; omega
   have HR := sd (lex_ge (D := D) (C := fun i => bt s (i : Int)) (L := s.size) (nd := nd) (by have := H1.out.2.1; omega) (by rw [← e]; exact H1.out.2.2)); clear hj e; go_wp2; go_ret; exact ⟨by rw [decide_eq_false (Nat.not_lt.mpr HR.out)]; rfl, HB.out⟩
def cD (k : Nat) : Nat := ((Go.Pinned.cheatRows)[k]?.getD (0, [])).1
def cS (k : Nat) : ByteArray := ⟨((Go.Pinned.cheatRows)[k]?.getD (0, [])).2.toArray⟩
structure CheatOk (k : Nat) : Prop where
 dig : Dgs8 (fun i => bt (cS k) (i : Int)) (cS k).size
 pos : 1 ≤ (cS k).size
 le : (cS k).size ≤ 100
 last : 49 ≤ bt (cS k) (((cS k).size - 1 : Nat) : Int)
 val : Q (fun i => bt (cS k) (i : Int)) (cS k).size = 5 ^ k
 len : cD k + (cS k).size = k + 1
 one : 1 ≤ cD k
 lo : 10 ^ (cD k - 1) ≤ 2 ^ k
 hi : 2 ^ k ≤ 10 ^ cD k
def cheatB (k : Nat) : Bool := (List.range (cS k).size).all (fun i => decide (48 ≤ bt (cS k) (i : Int)) && decide (bt (cS k) (i : Int) ≤ 57)) && decide (1 ≤ (cS k).size) && decide ((cS k).size ≤ 100) && decide (49 ≤ bt (cS k) (((cS k).size - 1 : Nat) : Int)) &&
 decide (Q (fun i => bt (cS k) (i : Int)) (cS k).size = 5 ^ k) && decide (cD k + (cS k).size = k + 1) && decide (1 ≤ cD k) && decide (10 ^ (cD k - 1) ≤ 2 ^ k) && decide (2 ^ k ≤ 10 ^ cD k)
theorem cheat_of {k : Nat} (h : cheatB k = true) : CheatOk k := by
 unfold cheatB at h; simp only [Bool.and_eq_true, decide_eq_true_eq, List.all_eq_true, List.mem_range] at h; obtain ⟨⟨⟨⟨⟨⟨⟨⟨h1, h2⟩, h3⟩, h4⟩, h5⟩, h6⟩, h7⟩, h8⟩, h9⟩ := h; exact ⟨fun i hi => h1 i hi, h2, h3, h4, h5, h6, h7, h8, h9⟩
theorem cheats (k : Nat) (h1 : 1 ≤ k) (h2 : k ≤ 60) : CheatOk k := by
 have : ∀ k, k < 61 → 1 ≤ k → cheatB k = true := by decide +kernel
 exact cheat_of (this k (by omega) h1)
def dlt (N nd k : Nat) : Nat := if N * 10 ^ (cS k).size < 5 ^ k * 10 ^ nd then cD k - 1 else cD k
theorem dlt_ok {D : Nat → Int} {nd k : Nat} (hD : Nrm D nd) (h : CheatOk k) : (nd = 1 ∨ 1 ≤ nd) ∧ 10 ^ (nd + dlt (Q D nd) nd k - 1) ≤ Q D nd * 2 ^ k ∧ Q D nd * 2 ^ k < 10 ^ (nd + dlt (Q D nd) nd k) ∧ dlt (Q D nd) nd k ≤ cD k := by
 have hp := hD.pos; obtain ⟨m, rfl⟩ : ∃ m, nd = m + 1 := ⟨nd - 1, by omega⟩
 have hlo := Q_pos hD.lead (r := m); have hhi := Q_lt hD.dig; have hone := h.one; have hlen := h.len; have e1 : (10 : Nat) ^ k = 5 ^ k * 2 ^ k := by rw [← Nat.mul_pow]
 refine ⟨.inr (by omega), ?_⟩; generalize hL : (cS k).size = L at *; unfold dlt; rw [hL]; generalize hN : Q D (m + 1) = N at *
 by_cases hc : N * 10 ^ L < 5 ^ k * 10 ^ (m + 1)
 ·rw [if_pos hc]; refine ⟨?_, ?_, by omega⟩
  ·have h1 := Nat.mul_le_mul hlo h.lo; rw [← Nat.pow_add] at h1
   rwa [show m + 1 + (cD k - 1) - 1 = m + (cD k - 1) by omega]
  ·have h1 := Nat.mul_lt_mul_of_pos_right hc (Nat.two_pow_pos k); have e2 : 5 ^ k * 10 ^ (m + 1) * 2 ^ k = 10 ^ (m + 1 + (cD k - 1)) * 10 ^ L := by
    rw [Nat.mul_right_comm, ← e1, ← Nat.pow_add, ← Nat.pow_add]; congr 1; omega
   rw [e2, Nat.mul_right_comm] at h1; exact Nat.lt_of_mul_lt_mul_right h1
 ·rw [if_neg hc]; refine ⟨?_, ?_, by omega⟩
  ·have h1 := Nat.mul_le_mul_right (2 ^ k) (Nat.le_of_not_lt hc); have e2 : 5 ^ k * 10 ^ (m + 1) * 2 ^ k = 10 ^ (m + 1 + cD k - 1) * 10 ^ L := by
    rw [Nat.mul_right_comm, ← e1, ← Nat.pow_add, ← Nat.pow_add]; congr 1; omega
   rw [e2, Nat.mul_right_comm] at h1; exact Nat.le_of_mul_le_mul_right h1 (Nat.pow_pos (by decide))
  ·refine Nat.lt_of_lt_of_le (Nat.mul_lt_mul_of_pos_right hhi (Nat.two_pow_pos k)) ?_; rw [Nat.pow_add 10 (m + 1) (cD k)]; exact Nat.mul_le_mul_left _ h.hi
def Td (X Ln i : Nat) : Nat := X / 10 ^ (Ln - 1 - i) % 10
def Put (E : Nat → Int) (X Ln w : Nat) : Prop := ∀ i, w ≤ i → i < Ln → i < 800 → E i = ((Td X Ln i : Nat) : Int) + 48
structure LR (D E : Nat → Int) (nd dl k X r w n : Nat) : Prop where
 rw : w = r + dl
 le : r ≤ nd
 val : Q D r * 2 ^ k + n = X / 10 ^ (nd - r)
 lt : n < 2 ^ k
 un : ∀ i, i < r → E i = D i
 put : Put E X (nd + dl) w
structure LT (E : Nat → Int) (nd dl X w n : Nat) : Prop where
 le : w ≤ dl
 val : n = X / 10 ^ (nd + dl - w)
 put : Put E X (nd + dl) w
theorem put_set {E : Nat → Int} {X Ln w m : Nat} (h : Put E X Ln (w + 1)) (hm : m = Td X Ln w) : Put (upd E w ((m : Int) + 48)) X Ln w := fun i h1 h2 h3 => by
 by_cases e : i = w
 ·subst e; rw [upd_at, hm]
 ·rw [upd_ne e]; exact h i (by omega) h2 h3
theorem put_out {E : Nat → Int} {X Ln w : Nat} (h : Put E X Ln (w + 1)) (hw : 800 ≤ w) : Put E X Ln w := fun i h1 h2 h3 => absurd h3 (by omega)
theorem lr_start {D : Nat → Int} {nd dl k : Nat} : LR D D nd dl k (Q D nd * 2 ^ k) nd (nd + dl) 0 :=
 ⟨rfl, Nat.le_refl _, by simp, Nat.two_pow_pos k, fun _ _ => rfl, fun i h1 h2 h3 => absurd h2 (by omega)⟩
theorem lr_round {D E : Nat → Int} {nd dl k X r w n s q m : Nat} (h : LR D E nd dl k X (r + 1) (w + 1) n) (hd : Dgs8 D nd) (hs : s = n + (D r - 48).toNat * 2 ^ k) (hq : q = s / 10) (hm : m = s - 10 * q) :
  s < 10 * 2 ^ k ∧ 10 * q ≤ s ∧ m ≤ 9 ∧ m = Td X (nd + dl) w ∧ Q D r * 2 ^ k + q = X / 10 ^ (nd - r) ∧ q < 2 ^ k ∧ w = r + dl := by
 have hle := h.le; have hrw := h.rw; have hdr := hd r (by omega); have hlt := h.lt; have hv := h.val; obtain ⟨d, hd9⟩ : ∃ d : Nat, d = (D r - 48).toNat := ⟨_, rfl⟩
 have hd10 : d ≤ 9 := by omega
 rw [← hd9] at hs; rw [Q, ← hd9] at hv; have hs10 : s < 10 * 2 ^ k := by
  have : d * 2 ^ k ≤ 9 * 2 ^ k := Nat.mul_le_mul_right _ hd10; omega
 have e1 : nd - r = nd - (r + 1) + 1 := by omega
 have e2 : nd + dl - 1 - w = nd - (r + 1) := by omega
 unfold Td; rw [e1, e2, Nat.pow_succ, ← Nat.div_div_eq_div_mul, ← hv]; have e3 : (Q D r * 10 + d) * 2 ^ k + n = 10 * (Q D r * 2 ^ k) + s := by
  rw [hs, Nat.add_mul, Nat.mul_comm (Q D r) 10, Nat.mul_assoc]; omega
 rw [e3]; generalize Q D r * 2 ^ k = z at *; generalize 2 ^ k = y at *; omega
theorem lr_next {D E E2 : Nat → Int} {nd dl k X r w n q : Nat} (h : LR D E nd dl k X (r + 1) (w + 1) n) (hv : Q D r * 2 ^ k + q = X / 10 ^ (nd - r)) (hq : q < 2 ^ k) (hu : ∀ i, i < r → E2 i = E i) (hp : Put E2 X (nd + dl) w) : LR D E2 nd dl k X r w q :=
 ⟨by have := h.rw; omega, by have := h.le; omega, hv, hq, fun i hi => (hu i hi).trans (h.un i (by omega)), hp⟩
theorem lr_end {D E : Nat → Int} {nd dl k X w n : Nat} (h : LR D E nd dl k X 0 w n) : LT E nd dl X w n := by
 have e := h.rw; refine ⟨by omega, ?_, h.put⟩; have hv := h.val; rw [show nd + dl - w = nd - 0 by omega, ← hv, show Q D 0 = 0 from rfl]; simp
theorem lt_pos {E : Nat → Int} {nd dl X w n : Nat} (h : LT E nd dl X w n) (hX : X < 10 ^ (nd + dl)) (hn : 0 < n) : 1 ≤ w := by
 by_cases e : w = 0
 ·subst e; have hv := h.val; rw [Nat.sub_zero, Nat.div_eq_of_lt hX] at hv; omega
 ·omega
theorem lt_round {E : Nat → Int} {nd dl X w n q m : Nat} (h : LT E nd dl X (w + 1) n) (hq : q = n / 10) (hm : m = n - 10 * q) : 10 * q ≤ n ∧ m ≤ 9 ∧ m = Td X (nd + dl) w ∧ q = X / 10 ^ (nd + dl - w) := by
 have hle := h.le; have hv := h.val; have e1 : nd + dl - w = nd + dl - (w + 1) + 1 := by omega
 have e2 : nd + dl - 1 - w = nd + dl - (w + 1) := by omega
 unfold Td; rw [e1, e2, Nat.pow_succ, ← Nat.div_div_eq_div_mul, ← hv]; omega
theorem lt_next {E E2 : Nat → Int} {nd dl X w n q : Nat} (h : LT E nd dl X (w + 1) n) (hq : q = X / 10 ^ (nd + dl - w)) (hp : Put E2 X (nd + dl) w) : LT E2 nd dl X w q :=
 ⟨by have := h.le; omega, hq, hp⟩
theorem lt_end {D E : Nat → Int} {nd dl k w m : Nat} (h : LT E nd dl (Q D nd * 2 ^ k) w 0) (hN : Nrm D nd) (hk : 1 ≤ k) (hlo : 10 ^ (nd + dl - 1) ≤ Q D nd * 2 ^ k) (hhi : Q D nd * 2 ^ k < 10 ^ (nd + dl)) (ht : TrimP E (min (nd + dl) 800) m) :
  Nrm E m ∧ (1 ≤ dl ∨ D 0 < E 0) := by
 have hp := hN.pos; have hw : w = 0 := by
  by_cases e : w = 0
  ·exact e
  ·have hle := h.le; have hv := h.val; have h1 : 10 ^ (nd + dl - w) ≤ 10 ^ (nd + dl - 1) := Nat.pow_le_pow_right (by decide) (by omega); have h2 : 0 < Q D nd * 2 ^ k / 10 ^ (nd + dl - w) := Nat.div_pos (Nat.le_trans h1 hlo) (Nat.pow_pos (by decide)); omega
 subst hw; have h0 := h.put 0 (Nat.le_refl _) (by omega) (by omega); have hX9 : Q D nd * 2 ^ k / 10 ^ (nd + dl - 1) < 10 := by
  rw [Nat.div_lt_iff_lt_mul (Nat.pow_pos (by decide)), Nat.mul_comm 10, ← Nat.pow_succ, show (nd + dl - 1).succ = nd + dl by omega]; exact hhi
 have hX1 : 1 ≤ Q D nd * 2 ^ k / 10 ^ (nd + dl - 1) := Nat.div_pos hlo (Nat.pow_pos (by decide)); have e0 : Td (Q D nd * 2 ^ k) (nd + dl) 0 = Q D nd * 2 ^ k / 10 ^ (nd + dl - 1) := by
  unfold Td; rw [Nat.sub_zero, Nat.mod_eq_of_lt hX9]
 rw [e0] at h0; obtain ⟨t1, t2, t3⟩ := ht; have hm : 0 < m := by
  by_cases e : m = 0
  ·have := t2 0 (by omega) (by omega); omega
  ·omega
 refine ⟨⟨hm, by omega, fun i hi => ?_, by omega⟩, ?_⟩
 ·have := h.put i (Nat.zero_le _) (by omega) (by omega); have h9 : Td (Q D nd * 2 ^ k) (nd + dl) i < 10 := Nat.mod_lt _ (by decide); omega
 ·by_cases hd : 1 ≤ dl
  ·exact .inl hd
  ·refine .inr ?_; obtain ⟨c, rfl⟩ : ∃ c, nd = 1 + c := ⟨nd - 1, by omega⟩
   have hs := Q_scale (D := D) (r := 1) (m := c); have hq1 : Q D 1 = (D 0 - 48).toNat := by rw [Q, show Q D 0 = 0 from rfl]; omega
   have hl := hN.lead; have h2 : 2 ≤ 2 ^ k := Nat.pow_le_pow_right (n := 2) (by decide) hk; have h3 : (D 0 - 48).toNat * 2 ≤ Q D (1 + c) * 2 ^ k / 10 ^ (1 + c + dl - 1) := by
    rw [Nat.le_div_iff_mul_le (Nat.pow_pos (by decide)), show 1 + c + dl - 1 = c by omega, Nat.mul_right_comm]; rw [hq1] at hs; exact Nat.mul_le_mul hs h2
   omega
end Go.Proofs.YtdacgdjjdifneaaGreatDoor.PFnGjFlattenOften
