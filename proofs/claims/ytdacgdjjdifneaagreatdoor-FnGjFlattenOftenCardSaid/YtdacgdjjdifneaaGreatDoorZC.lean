/- Part of the proof of the card in text ZF. -/
import Derived.Test.YtdacgdjjdifneaaGreatDoorZB
import Derived.WalkMore
set_option linter.all false
set_option maxHeartbeats 16000000
set_option maxRecDepth 100000
namespace Go.Proofs.YtdacgdjjdifneaaGreatDoor.PFnGjFlattenOften
open Go.RowKit Go.Proofs.YtdacgdjjdifneaaGreatDoorW.PrintWords Go.Proofs.YtdacgdjjdifneaaGreatDoorW.PrintLast Go.Proofs.YtdacgdjjdifneaaGreatDoorW.PrintMore
theorem ru_facts {i nd : Nat} (h : i < nd) (h2 : nd ≤ 800) : decide ((i : Int) < 0) = false ∧ decide ((nd : Int) ≤ (i : Int)) = false ∧ decide (nd ≤ i) = false ∧ ((0 ≤ (i : Int)) = True) ∧ (((i : Int) < 800) = True) ∧ wrap64 ((i : Int) + 1) = ((i + 1 : Nat) : Int) := by
 refine ⟨decide_eq_false (by omega), decide_eq_false (by omega), decide_eq_false (by omega), eq_true (by omega), eq_true (by omega), ?_⟩; rw [Go.IntWalk.wrap64_in _ (by omega)]; omega
theorem ru_calls (b : Nat) (D : Nat → Int) (nd : Nat) (dp : Int) (neg tr : Bool) (hN : Nrm D nd) (x : Int) (w : World) (h : Dw w b D nd dp neg tr) :
  Calls Tryz.prog 125 #[.pointer (some ⟨b, 0, none⟩), .int .i64 x] w fun e w' => (∃ t : Bool, e = .returned (.bool t)) ∧ Below w.heap.size w w' := by
 have HN := sd hN; have c0 := h.cnd; have c1 := h.ctr
 by_cases h0 : x < 0
 ·have y1 : decide (x < 0) = true := decide_eq_true h0; clear h h0 hN; go_enter Tryz.func125, Tryz.ntmps125; go_wp2; go_ret; exact ⟨⟨_, rfl⟩, Below.refl _ _⟩
 ·obtain ⟨i, rfl⟩ : ∃ i : Nat, x = (i : Int) := ⟨x.toNat, by omega⟩
  by_cases h1 : nd ≤ i
  ·have y1 : decide ((i : Int) < 0) = false := decide_eq_false h0; have y2 : decide ((nd : Int) ≤ (i : Int)) = true := decide_eq_true (by omega); have y3 : decide (nd ≤ i) = true := decide_eq_true h1; clear h h0 h1 hN; go_enter Tryz.func125, Tryz.ntmps125; go_wp2; go_ret; exact ⟨⟨_, rfl⟩, Below.refl _ _⟩
  ·obtain ⟨y1, y2, y3, y4, y5, y6⟩ := ru_facts (Nat.lt_of_not_le h1) hN.le; have cd := h.cd i (by have := hN.le; omega)
   by_cases h5 : D i = 53
   ·have z1 : (D i == 53) = true := beq_iff_eq.mpr h5
    by_cases h6 : i + 1 = nd
    ·have z2 : (((i + 1 : Nat) : Int) == (nd : Int)) = true := beq_iff_eq.mpr (by omega); have z3 : (i + 1 == nd) = true := beq_iff_eq.mpr h6
     cases tr with
     | true =>
      clear h h0 h1 hN h5 h6; go_enter Tryz.func125, Tryz.ntmps125; go_wp2; go_ret; exact ⟨⟨_, rfl⟩, Below.refl _ _⟩
     | false =>
      by_cases h7 : i = 0
      ·have y8 : decide ((0 : Int) < (i : Int)) = false := decide_eq_false (by omega); have y9 : decide (0 < i) = false := decide_eq_false (by omega); clear h h0 h1 hN h5 h6 h7; go_enter Tryz.func125, Tryz.ntmps125; go_wp2; go_ret; exact ⟨⟨_, rfl⟩, Below.refl _ _⟩
      ·obtain ⟨j, hj⟩ : ∃ j : Nat, j = i - 1 := ⟨_, rfl⟩
       have ce := h.cd j (by have := hN.le; omega); have y7 : wrap64 ((i : Int) - 1) = (j : Int) := by rw [Go.IntWalk.wrap64_in _ (by have := hN.le; omega)]; omega
       have y8 : decide ((0 : Int) < (i : Int)) = true := decide_eq_true (by omega); have y9 : decide (0 < i) = true := decide_eq_true (by omega); have y10 : ((0 ≤ (j : Int)) = True) := eq_true (by omega); have y11 : (((j : Int) < 800) = True) := eq_true (by have := hN.le; omega); clear h h0 h1 hN h5 h6 h7 hj; go_enter Tryz.func125, Tryz.ntmps125; go_wp2; go_ret; exact ⟨⟨_, rfl⟩, Below.refl _ _⟩
    ·have z2 : (((i + 1 : Nat) : Int) == (nd : Int)) = false := beq_eq_false_iff_ne.mpr (by omega); have z3 : (i + 1 == nd) = false := beq_eq_false_iff_ne.mpr h6; clear h h0 h1 hN h6 h5; go_enter Tryz.func125, Tryz.ntmps125; go_wp2; go_ret; exact ⟨⟨_, rfl⟩, Below.refl _ _⟩
   ·have z1 : (D i == 53) = false := beq_eq_false_iff_ne.mpr h5; clear h h0 h1 hN h5; go_enter Tryz.func125, Tryz.ntmps125; go_wp2; go_ret; exact ⟨⟨_, rfl⟩, Below.refl _ _⟩
theorem ri_nat {i nd : Nat} {dp : Int} (hi : (i : Int) < dp ∧ i < nd) (h2 : nd ≤ 800) (hdp : dp ≤ 20) : decide ((i : Int) < dp) = true ∧ decide ((i : Int) < (nd : Int)) = true ∧ decide (i < nd) = true ∧ ((0 ≤ (i : Int)) = True) ∧ (((i : Int) < 800) = True) ∧ wrap64 ((i : Int) + 1) = ((i + 1 : Nat) : Int) := by
 refine ⟨decide_eq_true hi.1, decide_eq_true (by omega), decide_eq_true hi.2, eq_true (by omega), eq_true (by omega), ?_⟩; rw [Go.IntWalk.wrap64_in _ (by omega)]; omega
theorem ri_meas {i : Nat} {dp : Int} (h : (i : Int) < dp) : (dp - intOf (.int .i64 ((i + 1 : Nat) : Int))).toNat < (dp - intOf (.int .i64 (i : Int))).toNat := by
 show (dp - ((i + 1 : Nat) : Int)).toNat < (dp - ((i : Nat) : Int)).toNat
 omega
theorem ri_calls (b : Nat) (D : Nat → Int) (nd : Nat) (dp : Int) (neg tr : Bool) (hN : Nrm D nd) (w : World) (h : Dw w b D nd dp neg tr) :
  Calls Tryz.prog 152 #[.pointer (some ⟨b, 0, none⟩)] w fun e w' => (∃ t : Int, e = .returned (.int .u64 t)) ∧ Below w.heap.size w w' := by
 have HN := sd hN; have HD := sd h; have c1 := h.cdp; have c0 := h.cnd
 by_cases hd : 20 < dp
 ·have y1 : decide (20 < dp) = true := decide_eq_true hd; clear h hN hd; go_enter Tryz.func152, Tryz.ntmps152; go_wp2; go_ret; exact ⟨⟨_, rfl⟩, Below.refl _ _⟩
 ·have y1 : decide (20 < dp) = false := decide_eq_false hd; have HP := sd (Int.not_lt.mp hd); clear h hN hd; go_enter Tryz.func152, Tryz.ntmps152; go_wp2; clear c0 c1 y1; go_loopw [3, 4] (fun v n wr => ∃ (i : Nat) (z : Int), v = .int .i64 (i : Int) ∧ n = .int .u64 z ∧ w = wr) (fun v _ _ => (dp - intOf v).toNat)
  case atStart => exact ⟨0, 0, rfl, rfl, rfl⟩
  case round =>
   obtain ⟨i, z, rfl, rfl, rfl⟩ := hrel; have c0 := HD.out.cnd; have c1 := HD.out.cdp
   by_cases hi : (i : Int) < dp ∧ i < nd
   ·have cd := HD.out.cd i (by have := HN.out.le; omega); have HI := sd hi.1; obtain ⟨x1, x2, x3, x4, x5, x6⟩ := ri_nat hi HN.out.le HP.out; clear hi; go_wp2; go_roundw
    case rel => exact ⟨i + 1, _, (by first | rfl | (rw [x6]; done)), rfl, (by first | rfl | trivial)⟩
    case measure => first | exact ri_meas HI.out | (rw [x6]; exact ri_meas HI.out)
   ·have x1 : (decide ((i : Int) < dp) && decide ((i : Int) < (nd : Int))) = false := by
     rw [← Bool.decide_and]; exact decide_eq_false (fun h => hi ⟨h.1, by omega⟩)
    have x2 : (decide ((i : Int) < dp) && decide (i < nd)) = false := by
     rw [← Bool.decide_and]; exact decide_eq_false hi
    have x3 : (decide (i < nd) && decide ((i : Int) < dp)) = false := by rw [Bool.and_comm]; exact x2
    clear hi
    by_cases h1 : (i : Int) < dp
    ·have x4 : decide ((i : Int) < dp) = true := decide_eq_true h1; have x5 : decide ((i : Int) < (nd : Int)) = false := by rw [x4] at x1; exact x1
     have x6 : decide (i < nd) = false := by rw [x4] at x2; exact x2
     clear x1 x2 x3 h1; go_wp2; clear x4 x5 x6 c0 c1; go_loopw [3, 4] (fun v n wr => ∃ (i : Nat) (z : Int), v = .int .i64 (i : Int) ∧ n = .int .u64 z ∧ w = wr) (fun v _ _ => (dp - intOf v).toNat)
     case atStart => exact ⟨i, z, rfl, rfl, (by first | rfl | trivial)⟩
     case round =>
      obtain ⟨i, z, rfl, rfl, rfl⟩ := hrel; have c0 := HD.out.cnd; have c1 := HD.out.cdp
      by_cases hi : (i : Int) < dp
      ·have HI := sd hi; have x1 : decide ((i : Int) < dp) = true := decide_eq_true hi; have x6 : wrap64 ((i : Int) + 1) = ((i + 1 : Nat) : Int) := by rw [Go.IntWalk.wrap64_in _ (by have := HP.out; omega)]; omega
       clear hi; go_wp2; go_roundw
       case rel => exact ⟨i + 1, _, (by first | rfl | (rw [x6]; done)), rfl, (by first | rfl | trivial)⟩
       case measure => first | exact ri_meas HI.out | (rw [x6]; exact ri_meas HI.out)
      ·have x1 : decide ((i : Int) < dp) = false := decide_eq_false hi; clear hi; go_wp2_with (first | (go_at_call 125; (with_reducible refine (ru_calls b D nd dp neg tr HN.out dp _ HD.out).mono ?_); rintro e0 W2 ⟨⟨t, rfl⟩, hb⟩; have HB := sd hb; clear hb; cases t))
       all_goals (go_ret; exact ⟨⟨_, rfl⟩, HB.out⟩)
    ·have x4 : decide ((i : Int) < dp) = false := decide_eq_false h1; clear x1 x2 x3 h1; go_wp2; clear x4 c0 c1; go_loopw [3, 4] (fun v n wr => ∃ (i : Nat) (z : Int), v = .int .i64 (i : Int) ∧ n = .int .u64 z ∧ w = wr) (fun v _ _ => (dp - intOf v).toNat)
     case atStart => exact ⟨i, z, rfl, rfl, (by first | rfl | trivial)⟩
     case round =>
      obtain ⟨i, z, rfl, rfl, rfl⟩ := hrel; have c0 := HD.out.cnd; have c1 := HD.out.cdp
      by_cases hi : (i : Int) < dp
      ·have HI := sd hi; have x1 : decide ((i : Int) < dp) = true := decide_eq_true hi; have x6 : wrap64 ((i : Int) + 1) = ((i + 1 : Nat) : Int) := by rw [Go.IntWalk.wrap64_in _ (by have := HP.out; omega)]; omega
       clear hi; go_wp2; go_roundw
       case rel => exact ⟨i + 1, _, (by first | rfl | (rw [x6]; done)), rfl, (by first | rfl | trivial)⟩
       case measure => first | exact ri_meas HI.out | (rw [x6]; exact ri_meas HI.out)
      ·have x1 : decide ((i : Int) < dp) = false := decide_eq_false hi; clear hi; go_wp2_with (first | (go_at_call 125; (with_reducible refine (ru_calls b D nd dp neg tr HN.out dp _ HD.out).mono ?_); rintro e0 W2 ⟨⟨t, rfl⟩, hb⟩; have HB := sd hb; clear hb; cases t))
       all_goals (go_ret; exact ⟨⟨_, rfl⟩, HB.out⟩)
def in2 (P : Program) (r0 r1 : Code) (Q : Exit → Act → World → Prop) : Exit → Act → World → Prop
 | .goto 0, a, w => r0.wp P (Exit.noGoto Q) a w
 | .goto 1, a, w => r1.wp P (Exit.noGoto Q) a w
 | .goto _, _, _ => False
 | e, a, w => Q e a w
theorem wp_scope_in2 {P : Program} {a : Act} {w : World} {Q : Exit → Act → World → Prop} {c r0 r1 : Code} (h0 : findLabel c 0 = some r0) (h1 : findLabel c 1 = some r1)
  (first : c.wp P (in2 P r0 r1 Q) a w) : (Code.scope c).wp P Q a w := by
 intro b k cs; have key : ∀ (r : Code) (a1 : Act) (w1 : World), r.wp P (Exit.noGoto Q) a1 w1 → ∃ e a' w', Q e a' w' ∧ Arrives P (lone (b.at a1 (.code r :: .inScope c :: k)) cs w1) b k cs e a' w' := by
  intro r a1 w1 h; obtain ⟨e, a₁, w₁, hq, harr⟩ := h b (.inScope c :: k) cs
  cases e with
  | normal => exact ⟨.normal, a₁, w₁, hq, Steps.trans harr (.one step_inScope)⟩
  | exit id => exact ⟨.exit id, a₁, w₁, hq, fun k' hk => harr k' (by simp [exitTo, hk])⟩
  | goto l => exact hq.elim
  | ret => exact ⟨_, a₁, w₁, hq, harr⟩
  | panic ch => exact ⟨_, a₁, w₁, hq, harr⟩
  | outgrown => exact ⟨_, a₁, w₁, hq, harr⟩
 have go : ∀ (l : Nat) (r : Code) (a1 : Act) (w1 : World), findLabel c l = some r → r.wp P (Exit.noGoto Q) a1 w1 → Arrives P (lone (b.at a (.code c :: .inScope c :: k)) cs w) b (.inScope c :: k) cs (.goto l) a1 w1 → ∃ e a' w', Q e a' w' ∧ Arrives P (lone (b.at a (.code (.scope c) :: k)) cs w) b k cs e a' w' := by
  intro l r a1 w1 hf h harr; have hg : gotoIn l (.inScope c :: k) = some (.code r :: .inScope c :: k) := by simp [gotoIn, hf]
  obtain ⟨e₂, a₂, w₂, hq₂, harr₂⟩ := key r a1 w1 h; exact ⟨e₂, a₂, w₂, hq₂, .of_steps (.head step_scope (harr _ hg)) harr₂⟩
 obtain ⟨e, a₁, w₁, hq, harr⟩ := first b (.inScope c :: k) cs
 cases e with
 | normal => exact ⟨.normal, a₁, w₁, hq, .head step_scope (Steps.trans harr (.one step_inScope))⟩
 | exit id => exact ⟨.exit id, a₁, w₁, hq, fun k' hk => .head step_scope (harr k' (by simp [exitTo, hk]))⟩
 | goto l =>
  match l, hq, harr with
  | 0, hq, harr => exact go 0 r0 a₁ w₁ h0 hq harr
  | 1, hq, harr => exact go 1 r1 a₁ w₁ h1 hq harr
 | ret => exact ⟨_, a₁, w₁, hq, .of_steps (.one step_scope) harr⟩
 | panic ch => exact ⟨_, a₁, w₁, hq, .of_steps (.one step_scope) harr⟩
 | outgrown => exact ⟨_, a₁, w₁, hq, .of_steps (.one step_scope) harr⟩
structure Fi (W : World) (f : Nat) : Prop where
 m : W.cell? ⟨f, 0, none⟩ = some (.int .u64 52)
 e : W.cell? ⟨f, 1, none⟩ = some (.int .u64 11)
 b : W.cell? ⟨f, 2, none⟩ = some (.int .i64 (-1023))
 lt : f < W.heap.size
def pT (k : Nat) : Nat := [1, 3, 6, 9, 13, 16, 19, 23, 26].getD k 1
theorem pT_ok (k : Nat) : 1 ≤ pT k ∧ pT k ≤ 27 := by
 match k with
 | 0 | 1 | 2 | 3 | 4 | 5 | 6 | 7 | 8 => decide
 | k + 9 => simp [pT]
theorem cD_small : ∀ k, k < 28 → cD k ≤ 1 → k ≤ 3 := by decide +kernel
structure Pt (W : World) (b : Nat) : Prop where
 ex : ∃ (pb po c : Nat), (12 < W.heap.size ∧ 12 ≠ b ∧ pb < W.heap.size ∧ pb ≠ b) ∧ W.cell? ⟨12, 0, none⟩ = some (.slice (some ⟨pb, po, none⟩) 9 c) ∧ ∀ k, k < 9 → W.cell? ⟨pb, po + k, none⟩ = some (.int .i64 (pT k : Int))
theorem Pt.keep {w w' : World} {b : Nat} (h : Pt w b) (k : Kq w w' b) : Pt w' b := by
 obtain ⟨pb, po, c, ⟨z1, z2, z3, z4⟩, h1, h2⟩ := h.ex; have hs := k.size; exact ⟨pb, po, c, ⟨by omega, z2, by omega, z4⟩, by rw [k.cell z1 z2]; exact h1, fun i hi => by rw [k.cell z3 z4]; exact h2 i hi⟩
theorem Fi.keep {w w' : World} {b f : Nat} (h : Fi w f) (hf : f ≠ b) (k : Kq w w' b) : Fi w' f := by
 have hs := k.size; exact ⟨by rw [k.cell (show f < _ from h.lt) hf]; exact h.m, by rw [k.cell (show f < _ from h.lt) hf]; exact h.e, by rw [k.cell (show f < _ from h.lt) hf]; exact h.b, by have := h.lt; omega⟩
structure Fw (w W : World) (b f : Nat) (D : Nat → Int) (nd : Nat) (dp : Int) (neg tr : Bool) : Prop where
 k : Kq w W b
 d : Dw W b D nd dp neg tr
 l : Lb W b
 p : Pt W b
 i : Fi W f
 ne : f ≠ b
theorem Fw.drewN {w W : World} {b f : Nat} {D : Nat → Int} {nd : Nat} {dp : Int} {neg tr : Bool} (h : Fw w W b f D nd dp neg tr) (n : Nat) : Fw w (W.drewN n) b f D nd dp neg tr :=
 ⟨h.k.drewN n, h.d.drewN n, ⟨h.l.ex⟩, ⟨h.p.ex⟩, ⟨h.i.m, h.i.e, h.i.b, h.i.lt⟩, h.ne⟩
theorem Fw.then_ {w W W' : World} {b f : Nat} {D : Nat → Int} {nd : Nat} {dp : Int} {neg tr : Bool} (h : Fw w W b f D nd dp neg tr) (k : Kq W W' b) {D' : Nat → Int} {nd' : Nat} {dp' : Int} {tr' : Bool} (hd : Dw W' b D' nd' dp' neg tr') : Fw w W' b f D' nd' dp' neg tr' :=
 ⟨h.k.then_ k, hd, h.l.keep k, h.p.keep k, h.i.keep h.ne k, h.ne⟩
theorem Fw.below {w W W' : World} {b f : Nat} {D : Nat → Int} {nd : Nat} {dp : Int} {neg tr : Bool} (h : Fw w W b f D nd dp neg tr) (k : Below W.heap.size W W') : Fw w W' b f D nd dp neg tr :=
 h.then_ (Kq.of_below b k) (h.d.keep k)
def dOf (b : Nat) (W : World) : Nat → Int := fun i => match W.cell? ⟨b, i, none⟩ with
 | some (.int .u8 n) => n
 | _ => 0
def dpOf (b : Nat) (W : World) : Int := match W.cell? ⟨b, 801, none⟩ with
 | some (.int .i64 n) => n
 | _ => 0
theorem dOf_is {W : World} {b nd : Nat} {D : Nat → Int} {dp : Int} {neg tr : Bool} (h : Dw W b D nd dp neg tr) {i : Nat} (hi : i < 800) : dOf b W i = D i := by
 unfold dOf; rw [h.cd i hi]
theorem dpOf_is {W : World} {b nd : Nat} {D : Nat → Int} {dp : Int} {neg tr : Bool} (h : Dw W b D nd dp neg tr) : dpOf b W = dp := by
 unfold dpOf; rw [h.cdp]
def szOf (b : Nat) (W : World) : Nat := Sz (dOf b W) (ndOf b W) (dpOf b W)
theorem szOf_is {W : World} {b nd : Nat} {D : Nat → Int} {dp : Int} {neg tr : Bool} (h : Dw W b D nd dp neg tr) (hn : nd ≤ 800) : szOf b W = Sz D nd dp := by
 unfold szOf Sz; rw [ndOf_is h, dpOf_is h, Q_cong (fun i hi => dOf_is h (by omega))]
theorem Sz_pos {D : Nat → Int} {nd : Nat} {dp : Int} (h : Nrm D nd) : 1 ≤ Sz D nd dp :=
 Nat.mul_pos (Q_one h.lead h.pos) (Nat.pow_pos (by decide))
theorem Sz_less {D D' : Nat → Int} {nd nd' m : Nat} {dp dp' : Int} (h : Nrm D' nd') (hm : 1 ≤ m) (hs : Sz D' nd' dp' * 2 ^ m ≤ Sz D nd dp) : Sz D' nd' dp' < Sz D nd dp := by
 have h1 := Sz_pos (dp := dp') h; obtain ⟨k, rfl⟩ : ∃ k, m = k + 1 := ⟨m - 1, by omega⟩
 have h2 := Nat.two_pow_pos k; rw [Nat.pow_succ] at hs; have h3 := Nat.mul_le_mul_left (Sz D' nd' dp') (show 2 ≤ 2 ^ k * 2 by omega); omega
theorem pow_bd {e n : Nat} (h : 2 ^ e ≤ 10 ^ n) : e ≤ 4 * n := by
 have h1 : 10 ^ n ≤ 16 ^ n := Nat.pow_le_pow_left (by decide) n; rw [show (16 : Nat) = 2 ^ 4 by rfl, ← Nat.pow_mul] at h1; exact (Nat.pow_le_pow_iff_right (by decide)).mp (Nat.le_trans h h1)
theorem Sz_bd {D D' : Nat → Int} {nd nd' e : Nat} {dp dp' : Int} (h : Nrm D nd) (h' : Nrm D' nd') (h1 : -330 ≤ dp) (h2 : dp ≤ 310) (hs : Sz D' nd' dp' * 2 ^ e ≤ Sz D nd dp) : e ≤ 9240 := by
 have h3 := Sz_pos (dp := dp') h'; have h4 : Sz D nd dp ≤ 10 ^ (nd + (dp + 2000 - nd).toNat) := by
  rw [Nat.pow_add]; exact Nat.mul_le_mul_right _ (Nat.le_of_lt (Q_lt h.dig))
 have h5 : 2 ^ e ≤ Sz D' nd' dp' * 2 ^ e := Nat.le_mul_of_pos_left _ h3; have := pow_bd (Nat.le_trans h5 (Nat.le_trans hs h4)); have := h.le; omega
theorem Sz_step {S S' T m e : Nat} (h1 : S' * 2 ^ m ≤ S) (h2 : S * 2 ^ e ≤ T) : S' * 2 ^ (e + m) ≤ T := by
 rw [Nat.pow_add, Nat.mul_comm (2 ^ e), ← Nat.mul_assoc]; exact Nat.le_trans (Nat.mul_le_mul_right _ h1) h2
def Phi (dp D0 : Int) : Int := 60 * (100 - dp) - 3 * D0
def phOf (b : Nat) (W : World) : Nat := (Phi (dpOf b W) (dOf b W 0)).toNat
theorem phOf_is {W : World} {b nd : Nat} {D : Nat → Int} {dp : Int} {neg tr : Bool} (h : Dw W b D nd dp neg tr) : phOf b W = (Phi dp (D 0)).toNat := by
 unfold phOf; rw [dpOf_is h, dOf_is h (by omega)]
theorem Phi_step {D D' : Nat → Int} {nd nd' k dl : Nat} {dp : Int} (h : Nrm D nd) (h' : Nrm D' nd') (hk : k ≤ 27) (hg : 1 ≤ dl ∨ (D 0 < D' 0 ∧ cD k ≤ 1)) : Phi (dp + (dl : Int)) (D' 0) + k ≤ Phi dp (D 0) := by
 have a1 := h.dig 0 h.pos; have a2 := h'.dig 0 h'.pos; have a3 := h.lead; have a4 := h'.lead; unfold Phi
 rcases hg with hg | ⟨hg, hc⟩
 ·omega
 ·have := cD_small k (by omega) hc; omega
theorem shr27 (b : Nat) (D : Nat → Int) (nd : Nat) (dp : Int) (neg tr : Bool) (hN : Nrm D nd) (hdp : -100000 ≤ dp ∧ dp ≤ 100000) (w : World) (h : Dw w b D nd dp neg tr) :
  Calls Tryz.prog 98 #[.pointer (some ⟨b, 0, none⟩), .int .i64 (-27)] w fun e w' => e = .returned (.tuple #[]) ∧ Kq w w' b ∧ ∃ (D' : Nat → Int) (n' : Nat) (dp' : Int) (tr' : Bool), Dw w' b D' n' dp' neg tr' ∧ Nrm D' n' ∧ (dp - 20 * (27 : Nat) - 20 ≤ dp' ∧ dp' ≤ dp) ∧ (27 ≤ 60 → dp - 20 ≤ dp' ∧ (-300 ≤ dp → Sz D' n' dp' * 2 ^ 27 ≤ Sz D nd dp)) :=
 shr_calls b D nd 27 dp neg tr hN (by decide) (by decide) hdp w h
theorem fl_phi {D : Nat → Int} {nd e : Nat} {dp : Int} (h : Nrm D nd) (h1 : -330 ≤ dp) : Phi dp (D 0) - 27000 ≤ (e : Int) := by
 have := h.lead; unfold Phi; omega
theorem fl_r2 {dp : Int} (h : dp < 0) (h2 : -350 ≤ dp) : ∃ q : Nat, dp = -(q : Int) ∧ 1 ≤ q ∧ q ≤ 350 := ⟨(-dp).toNat, by omega, by omega, by omega⟩
theorem fl_neg {q : Nat} (h : 1 ≤ q) (h2 : q ≤ 350) : decide (-(q : Int) < 0) = true ∧ decide ((0 : Int) < (q : Int)) = true ∧ decide (0 < q) = true ∧ (-(q : Int) == 0) = false ∧ wrap64 (- -(q : Int)) = (q : Int) ∧ wrap64 (q : Int) = (q : Int) ∧ ((q : Int) == 0) = false := by
 refine ⟨decide_eq_true (by omega), decide_eq_true (by omega), decide_eq_true (by omega), beq_eq_false_iff_ne.mpr (by omega), ?_, Go.IntWalk.wrap64_in _ (by omega), beq_eq_false_iff_ne.mpr (by omega)⟩; rw [Int.neg_neg]; exact Go.IntWalk.wrap64_in _ (by omega)
theorem fl_sub {D : Nat → Int} {nd m : Nat} {e dp : Int} (h : Nrm D nd) (h1 : -350 ≤ dp ∧ dp ≤ 61 ∧ Phi dp (D 0) - 27000 ≤ e ∧ e ≤ 9240) (h2 : m ≤ 27) : wrap64 (e - (m : Int)) = e - (m : Int) := by
 have := h.dig 0 h.pos; have h3 := h1.2.2.1; unfold Phi at h3; exact Go.IntWalk.wrap64_in _ (by omega)
theorem fl_out {D : Nat → Int} {nd : Nat} {e dp : Int} (h : Nrm D nd) (h1 : -350 ≤ dp ∧ dp ≤ 61 ∧ Phi dp (D 0) - 27000 ≤ e ∧ e ≤ 9240) : -350 ≤ dp ∧ dp ≤ 61 ∧ -27000 ≤ e ∧ e ≤ 9240 := by
 have := h.dig 0 h.pos; have h3 := h1.2.2.1; unfold Phi at h3; omega
theorem fl_nx {D D' : Nat → Int} {m dl : Nat} {e dp : Int} (h1 : -350 ≤ dp ∧ dp ≤ 61 ∧ Phi dp (D 0) - 27000 ≤ e ∧ e ≤ 9240) (h2 : dl ≤ 61) (hd : dp ≤ 0) (h3 : Phi (dp + (dl : Int)) (D' 0) + m ≤ Phi dp (D 0)) :
  -350 ≤ dp + (dl : Int) ∧ dp + (dl : Int) ≤ 61 ∧ Phi (dp + (dl : Int)) (D' 0) - 27000 ≤ e - (m : Int) ∧ e - (m : Int) ≤ 9240 := by omega
theorem fl_me {D D' : Nat → Int} {nd m : Nat} {dp dp' : Int} (h : Nrm D nd) (h1 : dp ≤ 61) (h3 : Phi dp' (D' 0) + m ≤ Phi dp (D 0)) (hm : 1 ≤ m) : (Phi dp' (D' 0)).toNat < (Phi dp (D 0)).toNat := by
 have := h.dig 0 h.pos; have h4 : 0 < Phi dp (D 0) := by unfold Phi; omega
 omega
theorem shl27 (b : Nat) (D : Nat → Int) (nd : Nat) (dp : Int) (neg tr : Bool) (hN : Nrm D nd) (w : World) (h : Dw w b D nd dp neg tr) (hL : Lc w) (hdp : -1000000000 ≤ dp ∧ dp ≤ 1000000000) :
  Calls Tryz.prog 98 #[.pointer (some ⟨b, 0, none⟩), .int .i64 27] w fun e w' => e = .returned (.tuple #[]) ∧ Kq w w' b ∧ ∃ (D' : Nat → Int) (n' : Nat) (dl : Nat) (tr' : Bool), Dw w' b D' n' (dp + (dl : Int)) neg tr' ∧ Nrm D' n' ∧ dl ≤ 61 ∧ (1 ≤ dl ∨ (D 0 < D' 0 ∧ cD 27 ≤ 1)) :=
 shl_calls b D nd 27 dp neg tr hN (by decide) (by decide) w h hL hdp
theorem shl1 (b : Nat) (D : Nat → Int) (nd : Nat) (dp : Int) (neg tr : Bool) (hN : Nrm D nd) (w : World) (h : Dw w b D nd dp neg tr) (hL : Lc w) (hdp : -1000000000 ≤ dp ∧ dp ≤ 1000000000) :
  Calls Tryz.prog 98 #[.pointer (some ⟨b, 0, none⟩), .int .i64 1] w fun e w' => e = .returned (.tuple #[]) ∧ Kq w w' b ∧ ∃ (D' : Nat → Int) (n' : Nat) (dl : Nat) (tr' : Bool), Dw w' b D' n' (dp + (dl : Int)) neg tr' ∧ Nrm D' n' ∧ dl ≤ 61 ∧ (1 ≤ dl ∨ (D 0 < D' 0 ∧ cD 1 ≤ 1)) :=
 shl_calls b D nd 1 dp neg tr hN (by decide) (by decide) w h hL hdp
theorem shl53 (b : Nat) (D : Nat → Int) (nd : Nat) (dp : Int) (neg tr : Bool) (hN : Nrm D nd) (w : World) (h : Dw w b D nd dp neg tr) (hL : Lc w) (hdp : -1000000000 ≤ dp ∧ dp ≤ 1000000000) :
  Calls Tryz.prog 98 #[.pointer (some ⟨b, 0, none⟩), .int .i64 53] w fun e w' => e = .returned (.tuple #[]) ∧ Kq w w' b ∧ ∃ (D' : Nat → Int) (n' : Nat) (dl : Nat) (tr' : Bool), Dw w' b D' n' (dp + (dl : Int)) neg tr' ∧ Nrm D' n' ∧ dl ≤ 61 ∧ (1 ≤ dl ∨ (D 0 < D' 0 ∧ cD 53 ≤ 1)) :=
 shl_calls b D nd 53 dp neg tr hN (by decide) (by decide) w h hL hdp
theorem fl_r1 {dp : Int} (h : 0 < dp) (h2 : dp ≤ 310) : ∃ q : Nat, dp = (q : Int) ∧ 1 ≤ q ∧ q ≤ 310 := ⟨dp.toNat, by omega, by omega, by omega⟩
theorem fl_idx {q : Nat} (h : q < 9) : decide ((9 : Int) ≤ (q : Int)) = false ∧ decide (9 ≤ q) = false ∧ ((0 ≤ (q : Int)) = True) ∧ (((q : Int) < 9) = True) ∧ ((q < 9) = True) := ⟨decide_eq_false (by omega), decide_eq_false (by omega), eq_true (by omega), eq_true (by omega), eq_true h⟩
theorem fl_add {e m : Nat} (h : e ≤ 9240) (h2 : m ≤ 27) : wrap64 ((e : Int) + (m : Int)) = ((e + m : Nat) : Int) ∧ wrap64 (-(m : Int)) = -(m : Int) := by
 refine ⟨by rw [Go.IntWalk.wrap64_in _ (by omega)]; omega, Go.IntWalk.wrap64_in _ (by omega)⟩
theorem fb_main (b f : Nat) (D : Nat → Int) (nd : Nat) (dp : Int) (neg tr : Bool) (hN : Nrm D nd) (w : World) (h : Fw w w b f D nd dp neg tr) (h1 : -330 ≤ dp) (h2 : dp ≤ 310) :
  Calls Tryz.prog 137 #[.pointer (some ⟨b, 0, none⟩), .pointer (some ⟨f, 0, none⟩)] w fun e w' => (∃ (t : Int) (o : Bool), e = .returned (.tuple #[.int .u64 t, .bool o])) ∧ Kq w w' b := by
 have HD := sd h; have HN := sd hN; have HB := sd (And.intro h1 h2); have c1 := h.d.cdp; have c0 := h.d.cnd; have x0 : ((nd : Int) == 0) = false := beq_eq_false_iff_ne.mpr (by have := hN.pos; omega); have x0' : (nd == 0) = false := beq_eq_false_iff_ne.mpr (by have := hN.pos; omega); have x1 : decide (310 < dp) = false := decide_eq_false (by omega); have x2 : decide (dp < -330) = false := decide_eq_false (by omega); clear hN h h1 h2; go_enter Tryz.func137, Tryz.ntmps137; go_wp2; refine @wp_scope_in2 _ _ _ _ _ ?r0 ?r1 ?h0 ?h1 ?_
 case h0 => rfl
 case h1 => rfl
 go_wp2; clear c0 c1 x0 x0' x1 x2; go_loopw [6] (fun x wr => ∃ (e : Nat) (D1 : Nat → Int) (nd1 : Nat) (dp1 : Int) (tr1 : Bool), x = .int .i64 (e : Int) ∧ Aside0 (Fw w wr b f D1 nd1 dp1 neg tr1 ∧ Nrm D1 nd1) ∧ Aside0 (-330 ≤ dp1 ∧ dp1 ≤ 310 ∧ Sz D1 nd1 dp1 * 2 ^ e ≤ Sz D nd dp)) (fun _ wr => szOf b wr)
 case atStart => exact ⟨0, D, nd, dp, tr, rfl, ⟨HD.out, HN.out⟩, ⟨HB.out.1, HB.out.2, by simp⟩⟩
 case round =>
  obtain ⟨e, D1, nd1, dp1, tr1, rfl, H1, H2⟩ := hrel; have c1 := H1.out.1.d.cdp
  by_cases hp : 0 < dp1
  ·obtain ⟨q, rfl, hq1, hq2⟩ := fl_r1 hp H2.out.2.1; have x1 : decide ((0 : Int) < (q : Int)) = true := decide_eq_true hp; have x2 : decide (0 < q) = true := decide_eq_true hq1; obtain ⟨pb, po, pc, _, p0, p1⟩ := H1.out.1.p.ex
   by_cases h9 : q < 9
   ·obtain ⟨y1, y2, y3, y4, y5⟩ := fl_idx h9; have pq := p1 q h9; have pk := pT_ok q; generalize pT q = m at *; have HM := sd pk; obtain ⟨u1, u2⟩ := fl_add (e := e) (Sz_bd HN.out H1.out.2 HB.out.1 HB.out.2 H2.out.2.2) pk.2; clear h9 hp pk p1; go_wp2; go_quiet (fail); go_wp2; go_quiet (fail); clear c1 x1 x2 p0 pq y1 y2 y3 y4 y5; go_wp2_with (first | (go_at_call 98; (with_reducible refine (shr_calls b D1 nd1 m (q : Int) neg tr1 H1.out.2 HM.out.1 (Nat.le_trans HM.out.2 (by decide)) (by have := H2.out; omega) _ (H1.out.1.drewN _).d).mono ?_); rintro e0 W2 ⟨rfl, hk, hr⟩; have HE := sd (And.intro hk hr); clear hk hr)); go_roundw
    case rel =>
     obtain ⟨D2, nd2, dp2, tr2, r1, r2, r3, r4⟩ := HE.out.2; have r5 := (r4 (Nat.le_trans HM.out.2 (by decide))).2 (by omega); exact ⟨e + m, D2, nd2, dp2, tr2, (by first | rfl | (rw [u1]; done)), ⟨(H1.out.1.drewN _).then_ HE.out.1 r1, r2⟩, ⟨by have := (r4 (Nat.le_trans HM.out.2 (by decide))).1; omega, by have := H2.out.2.1; omega, Sz_step r5 H2.out.2.2⟩⟩
    case measure =>
     obtain ⟨D2, nd2, dp2, tr2, r1, r2, r3, r4⟩ := HE.out.2; rw [szOf_is r1 r2.le, szOf_is H1.out.1.d H1.out.2.le]; exact Sz_less r2 (HM.out.1) ((r4 (Nat.le_trans HM.out.2 (by decide))).2 (by omega))
   ·have y1 : decide ((9 : Int) ≤ (q : Int)) = true := decide_eq_true (by omega); have y2 : decide (9 ≤ q) = true := decide_eq_true (by omega); have u1 : wrap64 ((e : Int) + 27) = ((e + 27 : Nat) : Int) := (fl_add (e := e) (m := 27) (Sz_bd HN.out H1.out.2 HB.out.1 HB.out.2 H2.out.2.2) (by decide)).1; clear h9 hp p1; go_wp2; go_quiet (fail); clear c1 x1 x2 p0 y1 y2; go_wp2_with (first | (go_at_call 98; (with_reducible refine (shr27 b D1 nd1 (q : Int) neg tr1 H1.out.2 (by have := H2.out; omega) _ (H1.out.1.drewN _).d).mono ?_); rintro e0 W2 ⟨rfl, hk, hr⟩; have HE := sd (And.intro hk hr); clear hk hr)); go_roundw
    case rel =>
     obtain ⟨D2, nd2, dp2, tr2, r1, r2, r3, r4⟩ := HE.out.2; have r5 := (r4 (by decide)).2 (by omega); exact ⟨e + 27, D2, nd2, dp2, tr2, (by first | rfl | (rw [u1]; done)), ⟨(H1.out.1.drewN _).then_ HE.out.1 r1, r2⟩, ⟨by have := (r4 (by decide)).1; omega, by have := H2.out.2.1; omega, Sz_step r5 H2.out.2.2⟩⟩
    case measure =>
     obtain ⟨D2, nd2, dp2, tr2, r1, r2, r3, r4⟩ := HE.out.2; rw [szOf_is r1 r2.le, szOf_is H1.out.1.d H1.out.2.le]; exact Sz_less r2 (by decide) ((r4 (by decide)).2 (by omega))
  ·have x1 : decide ((0 : Int) < dp1) = false := decide_eq_false hp; have HE := sd (Sz_bd HN.out H1.out.2 HB.out.1 HB.out.2 H2.out.2.2); have HP := sd (Int.not_lt.mp hp); clear hp; go_upto_block 2 with (fail)
   clear c1 x1; go_cut [6] (fun x wc => ∃ (e : Int) (D1 : Nat → Int) (nd1 : Nat) (dp1 : Int) (tr1 : Bool), x = .int .i64 e ∧ Aside0 (Fw w wc b f D1 nd1 dp1 neg tr1 ∧ Nrm D1 nd1) ∧ Aside0 (-350 ≤ dp1 ∧ dp1 ≤ 61 ∧ -27000 ≤ e ∧ e ≤ 9240))
   case first =>
    go_wp2; go_loopw [6] (fun x wr => ∃ (e : Int) (D1 : Nat → Int) (nd1 : Nat) (dp1 : Int) (tr1 : Bool), x = .int .i64 e ∧ Aside0 (Fw w wr b f D1 nd1 dp1 neg tr1 ∧ Nrm D1 nd1) ∧ Aside0 (-350 ≤ dp1 ∧ dp1 ≤ 61 ∧ Phi dp1 (D1 0) - 27000 ≤ e ∧ e ≤ 9240)) (fun _ wr => phOf b wr)
    case atStart => exact ⟨e, D1, nd1, dp1, tr1, rfl, H1, ⟨by have := H2.out; omega, by have := HP.out; omega, fl_phi H1.out.2 H2.out.1, by have := HE.out; omega⟩⟩
    case round =>
     clear H1 H2 HE HP; obtain ⟨e, D1, nd1, dp1, tr1, rfl, H1, H2⟩ := hrel; have c1 := H1.out.1.d.cdp; have c2 := H1.out.1.d.cd 0 (by decide); obtain ⟨pb, po, pc, _, p0, p1⟩ := H1.out.1.p.ex
     by_cases hneg : dp1 < 0
     ·obtain ⟨q, rfl, hq1, hq2⟩ := fl_r2 hneg H2.out.1; obtain ⟨x1, x2, x3, x4, x5, x6, x7⟩ := fl_neg hq1 hq2
      by_cases h9 : q < 9
      ·obtain ⟨y1, y2, y3, y4, y5⟩ := fl_idx h9; have pq := p1 q h9; have pk := pT_ok q; generalize pT q = m at *; have HM := sd pk; have u1 := fl_sub (H1.out.2) H2.out pk.2; clear h9 hneg pk p1; go_wp2; go_quiet (fail); go_wp2; go_quiet (fail); clear c1 c2 x1 x2 x3 x4 x5 x6 x7 p0 pq y1 y2 y3 y4 y5; go_wp2_with (first | (go_at_call 98; (with_reducible refine (shl_calls b D1 nd1 m (-(q : Int)) neg tr1 H1.out.2 HM.out.1 (Nat.le_trans HM.out.2 (by decide)) _ (H1.out.1.drewN _).d (H1.out.1.drewN _).l.lc (by have := H2.out; omega)).mono ?_); rintro e0 W2 ⟨rfl, hk, hr⟩; have HE := sd (And.intro hk hr); clear hk hr)); go_roundw
       case rel =>
        obtain ⟨D2, nd2, dl, tr2, r1, r2, r3, r4⟩ := HE.out.2; have r5 := Phi_step (dp := (-(q : Int))) H1.out.2 r2 (HM.out.2) r4; exact ⟨e - (m : Nat), D2, nd2, (-(q : Int)) + (dl : Int), tr2, (by first | rfl | (rw [u1]; done)), ⟨(H1.out.1.drewN _).then_ HE.out.1 r1, r2⟩, ⟨fl_nx H2.out r3 (by omega) r5⟩⟩
       case measure =>
        obtain ⟨D2, nd2, dl, tr2, r1, r2, r3, r4⟩ := HE.out.2; rw [phOf_is r1, phOf_is H1.out.1.d]; exact fl_me H1.out.2 H2.out.2.1 (Phi_step (dp := (-(q : Int))) H1.out.2 r2 (HM.out.2) r4) (HM.out.1)
      ·have y1 : decide ((9 : Int) ≤ (q : Int)) = true := decide_eq_true (by omega); have y2 : decide (9 ≤ q) = true := decide_eq_true (by omega); have u1 : wrap64 (e - 27) = e - ((27 : Nat) : Int) := fl_sub (m := 27) (H1.out.2) H2.out (by decide); clear h9 hneg p1; go_wp2; go_quiet (fail); clear c1 c2 x1 x2 x3 x4 x5 x6 x7 p0 y1 y2; go_wp2_with (first | (go_at_call 98; (with_reducible refine (shl27 b D1 nd1 (-(q : Int)) neg tr1 H1.out.2 _ (H1.out.1.drewN _).d (H1.out.1.drewN _).l.lc (by have := H2.out; omega)).mono ?_); rintro e0 W2 ⟨rfl, hk, hr⟩; have HE := sd (And.intro hk hr); clear hk hr)); go_roundw
       case rel =>
        obtain ⟨D2, nd2, dl, tr2, r1, r2, r3, r4⟩ := HE.out.2; have r5 := Phi_step (dp := (-(q : Int))) H1.out.2 r2 (by decide) r4; exact ⟨e - (27 : Nat), D2, nd2, (-(q : Int)) + (dl : Int), tr2, (by first | rfl | (rw [u1]; done)), ⟨(H1.out.1.drewN _).then_ HE.out.1 r1, r2⟩, ⟨fl_nx H2.out r3 (by omega) r5⟩⟩
       case measure =>
        obtain ⟨D2, nd2, dl, tr2, r1, r2, r3, r4⟩ := HE.out.2; rw [phOf_is r1, phOf_is H1.out.1.d]; exact fl_me H1.out.2 H2.out.2.1 (Phi_step (dp := (-(q : Int))) H1.out.2 r2 (by decide) r4) (by decide)
     ·have x1 : decide (dp1 < 0) = false := decide_eq_false hneg
      by_cases hz : dp1 = 0
      ·subst hz
       by_cases h5 : D1 0 < 53
       ·have x2 : decide (D1 0 < 53) = true := decide_eq_true h5; have pq : wr.cell? ⟨pb, po, none⟩ = some (Value.int .i64 1) := p1 0 (by decide); have u1 : wrap64 (e - 1) = e - ((1 : Nat) : Int) := fl_sub (m := 1) (H1.out.2) H2.out (by decide); clear h5 hneg p1; go_wp2; go_quiet (fail); go_wp2; go_quiet (fail); clear c1 c2 x1 x2 p0 pq; go_wp2_with (first | (go_at_call 98; (with_reducible refine (shl1 b D1 nd1 0 neg tr1 H1.out.2 _ (H1.out.1.drewN _).d (H1.out.1.drewN _).l.lc (by decide)).mono ?_); rintro e0 W2 ⟨rfl, hk, hr⟩; have HE := sd (And.intro hk hr); clear hk hr)); go_roundw
        case rel =>
         obtain ⟨D2, nd2, dl, tr2, r1, r2, r3, r4⟩ := HE.out.2; have r5 := Phi_step (dp := 0) H1.out.2 r2 (by decide) r4; exact ⟨e - (1 : Nat), D2, nd2, 0 + (dl : Int), tr2, (by first | rfl | (rw [u1]; done)), ⟨(H1.out.1.drewN _).then_ HE.out.1 r1, r2⟩, ⟨fl_nx H2.out r3 (by decide) r5⟩⟩
        case measure =>
         obtain ⟨D2, nd2, dl, tr2, r1, r2, r3, r4⟩ := HE.out.2; rw [phOf_is r1, phOf_is H1.out.1.d]; exact fl_me H1.out.2 H2.out.2.1 (Phi_step (dp := 0) H1.out.2 r2 (by decide) r4) (by decide)
       ·have x2 : decide (D1 0 < 53) = false := decide_eq_false h5; clear h5 hneg p1; go_wp2; go_meet
        case rel => exact ⟨e, D1, nd1, 0, tr1, rfl, H1, ⟨fl_out H1.out.2 H2.out⟩⟩
      ·have x2 : (dp1 == 0) = false := beq_eq_false_iff_ne.mpr hz; clear hz hneg p1; go_wp2; go_meet
       case rel => exact ⟨e, D1, nd1, dp1, tr1, rfl, H1, ⟨fl_out H1.out.2 H2.out⟩⟩
   case rest =>
    clear H1 H2 HE HP; obtain ⟨e, D1, nd1, dp1, tr1, rfl, H1, H2⟩ := hcut; obtain ⟨e1, he1⟩ : ∃ e1 : Int, e1 = e - 1 := ⟨_, rfl⟩
    have HE := sd he1; have u1 : wrap64 (e - 1) = e1 := by rw [he1]; exact Go.IntWalk.wrap64_in _ (by have := H2.out; omega)
    have g2 := H1.out.1.i.b; clear he1; go_upto_if 111 with (fail)
    go_cut [6] (fun x wd => ∃ (e2 : Int) (D2 : Nat → Int) (nd2 : Nat) (dp2 : Int) (tr2 : Bool), x = .int .i64 e2 ∧ Aside0 (Fw w wd b f D2 nd2 dp2 neg tr2 ∧ Nrm D2 nd2) ∧ Aside0 (-1022 ≤ e2 ∧ e2 ≤ 9240 ∧ -1000000 ≤ dp2 ∧ dp2 ≤ 61))
    case first =>
     by_cases hd : e1 < -1022
     ·have x1 : decide (e1 < -1022) = true := decide_eq_true hd; rw [x1]; obtain ⟨m, hm⟩ : ∃ m : Nat, (m : Int) = -1022 - e1 := ⟨(-1022 - e1).toNat, by omega⟩
      have HM := sd (show 1 ≤ m ∧ m ≤ 40000 by have := H2.out; have := HE.out; omega); have u2 : wrap64 (-1022 - e1) = (m : Int) := by rw [← hm]; exact Go.IntWalk.wrap64_in _ (by have := HM.out; omega)
      have u3 : wrap64 (-(m : Int)) = -(m : Int) := Go.IntWalk.wrap64_in _ (by have := HM.out; omega); have u4 : wrap64 (e1 + (m : Int)) = -1022 := by
       rw [hm, show e1 + (-1022 - e1) = -1022 by omega]; exact Go.IntWalk.wrap64_in _ (by omega)
      clear hm hd; go_wp2_with (first | (go_at_call 98; (with_reducible refine (shr_calls b D1 nd1 m dp1 neg tr1 H1.out.2 HM.out.1 HM.out.2 (by have := H2.out; omega) _ H1.out.1.d).mono ?_); rintro e0 W2 ⟨rfl, hk, hr⟩; have HR := sd (And.intro hk hr); clear hk hr)); go_meet
      case rel =>
       obtain ⟨D2, nd2, dp2, tr2, r1, r2, r3, r4⟩ := HR.out.2; exact ⟨-1022, D2, nd2, dp2, tr2, (by first | rfl | (rw [u4]; done)), ⟨H1.out.1.then_ HR.out.1 r1, r2⟩, ⟨by omega, by omega, by have := HM.out; have := H2.out; omega, by have := H2.out; omega⟩⟩
     ·have x1 : decide (e1 < -1022) = false := decide_eq_false hd; rw [x1]; have HM := sd (Int.not_lt.mp hd); clear hd; go_wp2; go_meet
      case rel => exact ⟨e1, D1, nd1, dp1, tr1, (by first | rfl | (rw [u1]; done)), H1, ⟨HM.out, by have := HE.out; have := H2.out; omega, by have := H2.out; omega, by have := H2.out; omega⟩⟩
    case rest =>
     clear H1 H2 HE g2 u1; obtain ⟨e2, D2, nd2, dp2, tr2, rfl, H1, H2⟩ := hcut; have g0 := H1.out.1.i.m; have g1 := H1.out.1.i.e; have g2 := H1.out.1.i.b; have c2 := H1.out.1.d.cneg; have u1 : wrap64 (e2 + 1023) = e2 + 1023 := Go.IntWalk.wrap64_in _ (by have := H2.out; omega); have u2 : wrap64 (e2 - -1023) = e2 + 1023 := by rw [show e2 - -1023 = e2 + 1023 by omega]; exact u1
     by_cases ho : 2047 ≤ e2 + 1023
     ·have x1 : decide (2047 ≤ e2 + 1023) = true := decide_eq_true ho; clear ho; go_wp2; go_quiet (fail); go_wp2; refine wp_goto ?_
      show Code.wp Tryz.prog _ (Exit.noGoto _) _ _
      go_wp2; go_quiet (fail); go_wp2; refine wp_label ?_; go_wp2; go_quiet (fail); go_wp2
      all_goals first | (rw [Exit.noGoto_ret]; go_wp2; go_ret2; exact ⟨⟨_, _, rfl⟩, by first | exact (H1.out.1).k | exact ((H1.out.1).drewN _).k | exact (((H1.out.1).drewN _).drewN _).k | exact ((((H1.out.1).drewN _).drewN _).drewN _).k⟩) | (go_quiet (fail); go_wp2; rw [Exit.noGoto_ret]; go_wp2; go_ret2; exact ⟨⟨_, _, rfl⟩, by first | exact (H1.out.1).k | exact ((H1.out.1).drewN _).k | exact (((H1.out.1).drewN _).drewN _).k | exact ((((H1.out.1).drewN _).drewN _).drewN _).k⟩)
     ·have x1 : decide (2047 ≤ e2 + 1023) = false := decide_eq_false ho; clear ho; go_wp2; go_quiet (fail); go_wp2_with (first | (go_at_call 98; (with_reducible refine (shl53 b D2 nd2 dp2 neg tr2 H1.out.2 _ (H1.out.1.drewN _).d (H1.out.1.drewN _).l.lc (by have := H2.out; omega)).mono ?_); rintro e0 W2 ⟨rfl, hk, hr⟩; have HR := sd (And.intro hk hr); clear hk hr) | (go_at_call 152; (obtain ⟨D3, nd3, dl, tr3, r1, r2, _, _⟩ := HR.out.2); have HS := sd (And.intro ((H1.out.1.drewN _).then_ HR.out.1 r1) r2); clear r1 r2; (with_reducible refine (ri_calls b D3 nd3 (dp2 + (dl : Int)) neg tr3 HS.out.2 _ HS.out.1.d).mono ?_); rintro e0 W3 ⟨⟨t, rfl⟩, hb⟩; have HT := sd (HS.out.1.below hb); clear hb; have q0 := HT.out.i.m; have q1 := HT.out.i.e; have q2 := HT.out.i.b; have q3 := HT.out.d.cneg; clear g0 g1 g2 c2))
      ·go_quiet (fail); go_wp2
       ·refine wp_goto ?_
        show Code.wp Tryz.prog _ (Exit.noGoto _) _ _
        go_wp2; go_quiet (fail); go_wp2; refine wp_label ?_; go_wp2; go_quiet (fail); go_wp2
        all_goals first | (rw [Exit.noGoto_ret]; go_wp2; go_ret2; exact ⟨⟨_, _, rfl⟩, by first | exact (HT.out).k | exact ((HT.out).drewN _).k | exact (((HT.out).drewN _).drewN _).k | exact ((((HT.out).drewN _).drewN _).drewN _).k | exact (((((HT.out).drewN _).drewN _).drewN _).drewN _).k⟩) | (go_quiet (fail); go_wp2; rw [Exit.noGoto_ret]; go_wp2; go_ret2; exact ⟨⟨_, _, rfl⟩, by first | exact (HT.out).k | exact ((HT.out).drewN _).k | exact (((HT.out).drewN _).drewN _).k | exact ((((HT.out).drewN _).drewN _).drewN _).k | exact (((((HT.out).drewN _).drewN _).drewN _).drewN _).k⟩)
       ·refine wp_goto ?_
        show Code.wp Tryz.prog _ (Exit.noGoto _) _ _
        go_wp2; go_quiet (fail); go_wp2
        all_goals first | (rw [Exit.noGoto_ret]; go_wp2; go_ret2; exact ⟨⟨_, _, rfl⟩, by first | exact (HT.out).k | exact ((HT.out).drewN _).k | exact (((HT.out).drewN _).drewN _).k | exact ((((HT.out).drewN _).drewN _).drewN _).k | exact (((((HT.out).drewN _).drewN _).drewN _).drewN _).k⟩) | (go_quiet (fail); go_wp2; rw [Exit.noGoto_ret]; go_wp2; go_ret2; exact ⟨⟨_, _, rfl⟩, by first | exact (HT.out).k | exact ((HT.out).drewN _).k | exact (((HT.out).drewN _).drewN _).k | exact ((((HT.out).drewN _).drewN _).drewN _).k | exact (((((HT.out).drewN _).drewN _).drewN _).drewN _).k⟩)
       ·refine wp_goto ?_
        show Code.wp Tryz.prog _ (Exit.noGoto _) _ _
        go_wp2; go_quiet (fail); go_wp2
        all_goals first | (rw [Exit.noGoto_ret]; go_wp2; go_ret2; exact ⟨⟨_, _, rfl⟩, by first | exact (HT.out).k | exact ((HT.out).drewN _).k | exact (((HT.out).drewN _).drewN _).k | exact ((((HT.out).drewN _).drewN _).drewN _).k | exact (((((HT.out).drewN _).drewN _).drewN _).drewN _).k⟩) | (go_quiet (fail); go_wp2; rw [Exit.noGoto_ret]; go_wp2; go_ret2; exact ⟨⟨_, _, rfl⟩, by first | exact (HT.out).k | exact ((HT.out).drewN _).k | exact (((HT.out).drewN _).drewN _).k | exact ((((HT.out).drewN _).drewN _).drewN _).k | exact (((((HT.out).drewN _).drewN _).drewN _).drewN _).k⟩)
      ·refine wp_goto ?_
       show Code.wp Tryz.prog _ (Exit.noGoto _) _ _
       go_wp2; go_quiet (fail); go_wp2
       all_goals first | (rw [Exit.noGoto_ret]; go_wp2; go_ret2; exact ⟨⟨_, _, rfl⟩, by first | exact (HT.out).k | exact ((HT.out).drewN _).k | exact (((HT.out).drewN _).drewN _).k | exact ((((HT.out).drewN _).drewN _).drewN _).k⟩) | (go_quiet (fail); go_wp2; rw [Exit.noGoto_ret]; go_wp2; go_ret2; exact ⟨⟨_, _, rfl⟩, by first | exact (HT.out).k | exact ((HT.out).drewN _).k | exact (((HT.out).drewN _).drewN _).k | exact ((((HT.out).drewN _).drewN _).drewN _).k⟩)
      ·refine wp_goto ?_
       show Code.wp Tryz.prog _ (Exit.noGoto _) _ _
       go_wp2; go_quiet (fail); go_wp2
       all_goals first | (rw [Exit.noGoto_ret]; go_wp2; go_ret2; exact ⟨⟨_, _, rfl⟩, by first | exact (HT.out).k | exact ((HT.out).drewN _).k | exact (((HT.out).drewN _).drewN _).k | exact ((((HT.out).drewN _).drewN _).drewN _).k⟩) | (go_quiet (fail); go_wp2; rw [Exit.noGoto_ret]; go_wp2; go_ret2; exact ⟨⟨_, _, rfl⟩, by first | exact (HT.out).k | exact ((HT.out).drewN _).k | exact (((HT.out).drewN _).drewN _).k | exact ((((HT.out).drewN _).drewN _).drewN _).k⟩)
theorem fb_calls (b f : Nat) (D : Nat → Int) (nd : Nat) (dp : Int) (neg tr : Bool) (hN : nd = 0 ∨ Nrm D nd) (w : World) (h : Fw w w b f D nd dp neg tr) :
  Calls Tryz.prog 137 #[.pointer (some ⟨b, 0, none⟩), .pointer (some ⟨f, 0, none⟩)] w fun e w' => (∃ (t : Int) (o : Bool), e = .returned (.tuple #[.int .u64 t, .bool o])) ∧ Kq w w' b := by
 by_cases hm : (nd ≠ 0 ∧ -330 ≤ dp ∧ dp ≤ 310)
 ·exact fb_main b f D nd dp neg tr (hN.resolve_left hm.1) w h hm.2.1 hm.2.2
 have HD := sd h; have c1 := h.d.cdp; have c0 := h.d.cnd; have c2 := h.d.cneg; have g0 := h.i.m; have g1 := h.i.e; have g2 := h.i.b
 by_cases h0 : nd = 0
 ·have x0 : ((nd : Int) == 0) = true := beq_iff_eq.mpr (by omega); have x0' : (nd == 0) = true := beq_iff_eq.mpr h0; clear hN h h0 hm; go_enter Tryz.func137, Tryz.ntmps137; go_wp2; refine @wp_scope_in2 _ _ _ _ _ ?r0 ?r1 ?h0 ?h1 ?_
  case h0 => rfl
  case h1 => rfl
  go_wp2; refine wp_goto ?_
  show Code.wp Tryz.prog _ (Exit.noGoto _) _ _
  go_wp2; go_quiet (fail); go_wp2
  all_goals first | (rw [Exit.noGoto_ret]; go_wp2; go_ret2; exact ⟨⟨_, _, rfl⟩, by first | exact (HD.out).k | exact ((HD.out).drewN _).k | exact (((HD.out).drewN _).drewN _).k | exact ((((HD.out).drewN _).drewN _).drewN _).k | exact (((((HD.out).drewN _).drewN _).drewN _).drewN _).k⟩) | (go_quiet (fail); go_wp2; rw [Exit.noGoto_ret]; go_wp2; go_ret2; exact ⟨⟨_, _, rfl⟩, by first | exact (HD.out).k | exact ((HD.out).drewN _).k | exact (((HD.out).drewN _).drewN _).k | exact ((((HD.out).drewN _).drewN _).drewN _).k | exact (((((HD.out).drewN _).drewN _).drewN _).drewN _).k⟩)
 ·have x0 : ((nd : Int) == 0) = false := beq_eq_false_iff_ne.mpr (by omega); have x0' : (nd == 0) = false := beq_eq_false_iff_ne.mpr h0
  by_cases h1 : 310 < dp
  ·have x1 : decide (310 < dp) = true := decide_eq_true h1; clear hN h h0 h1 hm; go_enter Tryz.func137, Tryz.ntmps137; go_wp2; refine @wp_scope_in2 _ _ _ _ _ ?r0 ?r1 ?h0 ?h1 ?_
   case h0 => rfl
   case h1 => rfl
   go_wp2; refine wp_goto ?_
   show Code.wp Tryz.prog _ (Exit.noGoto _) _ _
   go_wp2; go_quiet (fail); go_wp2; refine wp_label ?_; go_wp2; go_quiet (fail); go_wp2
   all_goals first | (rw [Exit.noGoto_ret]; go_wp2; go_ret2; exact ⟨⟨_, _, rfl⟩, by first | exact (HD.out).k | exact ((HD.out).drewN _).k | exact (((HD.out).drewN _).drewN _).k | exact ((((HD.out).drewN _).drewN _).drewN _).k | exact (((((HD.out).drewN _).drewN _).drewN _).drewN _).k⟩) | (go_quiet (fail); go_wp2; rw [Exit.noGoto_ret]; go_wp2; go_ret2; exact ⟨⟨_, _, rfl⟩, by first | exact (HD.out).k | exact ((HD.out).drewN _).k | exact (((HD.out).drewN _).drewN _).k | exact ((((HD.out).drewN _).drewN _).drewN _).k | exact (((((HD.out).drewN _).drewN _).drewN _).drewN _).k⟩)
  ·have x1 : decide (310 < dp) = false := decide_eq_false h1; have x2 : decide (dp < -330) = true := decide_eq_true (by omega); clear hN h h0 h1 hm; go_enter Tryz.func137, Tryz.ntmps137; go_wp2; refine @wp_scope_in2 _ _ _ _ _ ?r0 ?r1 ?h0 ?h1 ?_
   case h0 => rfl
   case h1 => rfl
   go_wp2; refine wp_goto ?_
   show Code.wp Tryz.prog _ (Exit.noGoto _) _ _
   go_wp2; go_quiet (fail); go_wp2
   all_goals first | (rw [Exit.noGoto_ret]; go_wp2; go_ret2; exact ⟨⟨_, _, rfl⟩, by first | exact (HD.out).k | exact ((HD.out).drewN _).k | exact (((HD.out).drewN _).drewN _).k | exact ((((HD.out).drewN _).drewN _).drewN _).k | exact (((((HD.out).drewN _).drewN _).drewN _).drewN _).k⟩) | (go_quiet (fail); go_wp2; rw [Exit.noGoto_ret]; go_wp2; go_ret2; exact ⟨⟨_, _, rfl⟩, by first | exact (HD.out).k | exact ((HD.out).drewN _).k | exact (((HD.out).drewN _).drewN _).k | exact ((((HD.out).drewN _).drewN _).drewN _).k | exact (((((HD.out).drewN _).drewN _).drewN _).drewN _).k⟩)
end Go.Proofs.YtdacgdjjdifneaaGreatDoor.PFnGjFlattenOften
