/- Part of the proof of the card in text ZF. -/
import Derived.WalkMore
import Derived.Test.YtdacgdjjdifneaaGreatDoorZD
import Derived.Test.YtdacgdjjdifneaaGreatDoorZE
import Derived.Test.YtdacgdjjdifneaaGreatDoorZI
import Derived.Outline
import Derived.Deep.CutBlock
import Derived.StillTailTactics
set_option linter.all false
set_option maxHeartbeats 16000000
set_option maxRecDepth 100000
namespace Go.Proofs.YtdacgdjjdifneaaGreatDoor.PFnGjFlattenOften
def jmp (J : Nat → Nat → Act → World → Prop) (r : Nat) (Q : Exit → Act → World → Prop) : Exit → Act → World → Prop
 | .goto l, a, w => ∃ r', r' < r ∧ J l r' a w
 | e, a, w => Q e a w
theorem wp_scope_J {P : Program} {a : Act} {w : World} {Q : Exit → Act → World → Prop} {c : Code} (J : Nat → Nat → Act → World → Prop) (r0 : Nat) (rest : Nat → Code)
  (hr : ∀ l r a w, J l r a w → findLabel c l = some (rest l))
  (each : ∀ l r a w, J l r a w → (rest l).wp P (jmp J r Q) a w) (first : c.wp P (jmp J r0 Q) a w) : (Code.scope c).wp P Q a w := by
 intro b k cs; have key : ∀ (r : Nat) (l : Nat) (a : Act) (w : World), J l r a w → ∃ e a' w', Q e a' w' ∧ Arrives P (lone (b.at a (.code (rest l) :: .inScope c :: k)) cs w) b k cs e a' w' := by
  intro r
  induction r using Nat.strongRecOn with
  | _ r ih =>
   intro l a w hJ; obtain ⟨e, a₁, w₁, hq, harr⟩ := each l r a w hJ b (.inScope c :: k) cs
   cases e with
   | normal => exact ⟨.normal, a₁, w₁, hq, Steps.trans harr (.one step_inScope)⟩
   | exit id => exact ⟨.exit id, a₁, w₁, hq, fun k' hk => harr k' (by simp [exitTo, hk])⟩
   | goto l' =>
    obtain ⟨r', hlt, hJ'⟩ := hq; have hg : gotoIn l' (.inScope c :: k) = some (.code (rest l') :: .inScope c :: k) := by simp [gotoIn, hr l' r' a₁ w₁ hJ']
    obtain ⟨e₂, a₂, w₂, hq₂, harr₂⟩ := ih r' hlt l' a₁ w₁ hJ'; exact ⟨e₂, a₂, w₂, hq₂, .of_steps (harr _ hg) harr₂⟩
   | ret => exact ⟨_, a₁, w₁, hq, harr⟩
   | panic ch => exact ⟨_, a₁, w₁, hq, harr⟩
   | outgrown => exact ⟨_, a₁, w₁, hq, harr⟩
 obtain ⟨e, a₁, w₁, hq, harr⟩ := first b (.inScope c :: k) cs
 cases e with
 | normal => exact ⟨.normal, a₁, w₁, hq, .head step_scope (Steps.trans harr (.one step_inScope))⟩
 | exit id => exact ⟨.exit id, a₁, w₁, hq, fun k' hk => .head step_scope (harr k' (by simp [exitTo, hk]))⟩
 | goto l' =>
  obtain ⟨r', hlt, hJ'⟩ := hq; have hg : gotoIn l' (.inScope c :: k) = some (.code (rest l') :: .inScope c :: k) := by simp [gotoIn, hr l' r' a₁ w₁ hJ']
  obtain ⟨e₂, a₂, w₂, hq₂, harr₂⟩ := key r' l' a₁ w₁ hJ'; exact ⟨e₂, a₂, w₂, hq₂, .of_steps (.head step_scope (harr _ hg)) harr₂⟩
 | ret => exact ⟨_, a₁, w₁, hq, .of_steps (.one step_scope) harr⟩
 | panic ch => exact ⟨_, a₁, w₁, hq, .of_steps (.one step_scope) harr⟩
 | outgrown => exact ⟨_, a₁, w₁, hq, .of_steps (.one step_scope) harr⟩
theorem jmp_exit {J : Nat → Nat → Act → World → Prop} {r id : Nat} {Q : Exit → Act → World → Prop} {a : Act} {w : World} (h : Q (.exit id) a w) : jmp J r Q (.exit id) a w := h
theorem jmp_normal {J : Nat → Nat → Act → World → Prop} {r : Nat} {Q : Exit → Act → World → Prop} {a : Act} {w : World} (h : Q .normal a w) : jmp J r Q .normal a w := h
theorem jmp_ret {J : Nat → Nat → Act → World → Prop} {r : Nat} {Q : Exit → Act → World → Prop} {a : Act} {w : World} (h : Q .ret a w) : jmp J r Q .ret a w := h
theorem wp_scope_J1 {P : Program} {a : Act} {w : World} {Q : Exit → Act → World → Prop} {c : Code} (J : Act → World → Prop) {x0 : Code}
  (f0 : findLabel c 0 = some (.seq .skip x0))
  (e0 : ∀ r a w, J a w → x0.wp P (jmp (fun l r a w => l = 0 ∧ r = 0 ∧ J a w) r Q) a w)
  (first : (∀ a w, J a w → x0.wp P (jmp (fun l r a w => l = 0 ∧ r = 0 ∧ J a w) 1 Q) a w) → c.wp P (jmp (fun l r a w => l = 0 ∧ r = 0 ∧ J a w) 1 Q) a w) : (Code.scope c).wp P Q a w := by
 refine wp_scope_J (fun l r a w => l = 0 ∧ r = 0 ∧ J a w) 1 (fun _ => .seq .skip x0) ?_ ?_ (first (e0 1))
 ·rintro l r a w ⟨rfl, rfl, h⟩; exact f0
 ·rintro l r a w ⟨rfl, rfl, h⟩; exact wp_seq (wp_skip (e0 0 a w h))
theorem wp_scope_J3 {P : Program} {a : Act} {w : World} {Q : Exit → Act → World → Prop} {c : Code} (J : Nat → Nat → Act → World → Prop) (rk : Nat) {x1 x2 x3 : Code}
  (f1 : findLabel c 1 = some (.seq .skip x1)) (f2 : findLabel c 2 = some (.seq .skip x2)) (f3 : findLabel c 3 = some (.seq .skip x3))
  (hno : ∀ l r a w, J l r a w → l = 1 ∨ l = 2 ∨ l = 3)
  (e3 : ∀ r a w, J 3 r a w → x3.wp P (jmp J r Q) a w)
  (e1 : (∀ r a w, J 3 r a w → x3.wp P (jmp J r Q) a w) → ∀ r a w, J 1 r a w → x1.wp P (jmp J r Q) a w)
  (e2 : ∀ r a w, J 2 r a w → x2.wp P (jmp J r Q) a w)
  (first : (∀ r a w, J 2 r a w → x2.wp P (jmp J r Q) a w) → c.wp P (jmp J rk Q) a w) : (Code.scope c).wp P Q a w := by
 refine wp_scope_J J rk (fun l => match l with | 1 => .seq .skip x1 | 2 => .seq .skip x2 | _ => .seq .skip x3) ?_ ?_ (first e2)
 ·intro l r a w h
  rcases hno l r a w h with rfl | rfl | rfl
  ·exact f1
  ·exact f2
  ·exact f3
 ·intro l r a w h
  rcases hno l r a w h with rfl | rfl | rfl
  ·exact wp_seq (wp_skip (e1 e3 r a w h))
  ·exact wp_seq (wp_skip (e2 r a w h))
  ·exact wp_seq (wp_skip (e3 r a w h))
def B (l : List Int) (i : Nat) : Int := l.getD i 0
theorem B_drop {l : List Int} {i : Nat} {c : Int} {r : List Int} (h : l.drop i = c :: r) : B l i = c := by
 have hl := drop_lt h; rw [List.drop_eq_getElem_cons hl] at h; injection h with h1 h2
 simp [B, List.getD_eq_getElem?_getD, List.getElem?_eq_getElem hl, h1]
def runB (l : List Int) : Nat → Nat
 | 0 => 0
 | i + 1 => if B l i = 92 then runB l i + 1 else 0
theorem runB_ne {l : List Int} {i : Nat} (h : B l i ≠ 92) : runB l (i + 1) = 0 := by rw [runB, if_neg h]
theorem runB_bs {l : List Int} {i : Nat} (h : B l i = 92) : runB l (i + 1) = runB l i + 1 := by rw [runB, if_pos h]
structure StrOk (l : List Int) (p E : Nat) : Prop where
 le : p ≤ E
 lt : E < l.length
 mark : B l E = 34
 ends : runB l E % 2 = 0
 inner : ∀ j, p ≤ j → j < E → B l j = 34 → runB l j % 2 = 1
theorem StrOk.step {l : List Int} {p q E : Nat} (h : StrOk l q E) (hpq : p ≤ q) (hi : ∀ j, p ≤ j → j < q → B l j = 34 → runB l j % 2 = 1) : StrOk l p E :=
 ⟨Nat.le_trans hpq h.le, h.lt, h.mark, h.ends, fun j h1 h2 h3 => by
  by_cases e : j < q
  ·exact hi j h1 e h3
  ·exact h.inner j (by omega) h2 h3⟩
theorem str_ok (l r : List Int) : ∀ {s : List Int}, SB s → ∀ i : Nat, l.drop i = s ++ 34 :: r → runB l i % 2 = 0 → StrOk l i (i + s.length) := by
 intro s hs
 induction hs with
 | nil =>
  intro i h h0; have h : l.drop i = 34 :: r := h; exact ⟨Nat.le_refl _, by have := drop_lt h; simpa using this, B_drop h, h0, fun j h1 h2 _ => absurd h2 (by simp; omega)⟩
 | chr c s h1 h2 h3 h4 hs ih =>
  intro i h h0; have hb := B_drop h; have := ih (i + 1) (drop_next h) (by rw [runB_ne (by rw [hb]; exact h4)]); rw [show i + 1 + s.length = i + (c :: s).length by simp; omega] at this; refine this.step (by omega) (fun j g1 g2 g3 => ?_); obtain rfl : j = i := by omega
  omega
 | esc e s he hs ih =>
  intro i h h0; have hb := B_drop h; have h1 := drop_next h; have hb1 := B_drop h1; have r1 : runB l (i + 1) = runB l i + 1 := runB_bs hb; have e2 : runB l (i + 2) % 2 = 0 := by
   by_cases e92 : e = 92
   ·rw [runB_bs (by rw [hb1]; exact e92), r1]; omega
   ·rw [runB_ne (by rw [hb1]; exact e92)]
  have := ih (i + 2) (drop_next h1) e2; rw [show i + 2 + s.length = i + (92 :: e :: s).length by simp; omega] at this; refine this.step (by omega) (fun j g1 g2 g3 => ?_)
  by_cases hj : j = i
  ·subst hj; omega
  ·obtain rfl : j = i + 1 := by omega
   rw [r1]; omega
 | uni a b c d s ha hb' hc hd hs ih =>
  intro i h h0; have hb := B_drop h; have h1 := drop_next h; have h2 := drop_next h1; have h3 := drop_next h2; have h4 := drop_next h3; have h5 := drop_next h4; have h6 := drop_next h5; have c1 := B_drop h1; have c2 := B_drop h2; have c3 := B_drop h3; have c4 := B_drop h4; have c5 := B_drop h5; have := ih (i + 6) h6 (by rw [runB_ne (by rw [c5]; unfold HexD at hd; omega)]); rw [show i + 6 + s.length = i + (92 :: 117 :: a :: b :: c :: d :: s).length by simp; omega] at this; refine this.step (by omega) (fun j g1 g2 g3 => ?_)
  exfalso
  unfold HexD at *; have : j = i ∨ j = i + 1 ∨ j = i + 1 + 1 ∨ j = i + 1 + 1 + 1 ∨ j = i + 1 + 1 + 1 + 1 ∨ j = i + 1 + 1 + 1 + 1 + 1 := by omega
  rcases this with rfl | rfl | rfl | rfl | rfl | rfl <;> omega
def Pl (c : Int) : Prop := c ≠ 34 ∧ c ≠ 40 ∧ c ≠ 41 ∧ c ≠ 91 ∧ c ≠ 93 ∧ c ≠ 123 ∧ c ≠ 125
inductive Cq (l : List Int) : Nat → Nat → Nat → Prop
 | plain (d i R : Nat) : i < l.length → Pl (B l i) → Cq l d (i + 1) R → Cq l d i R
 | str (d i E R : Nat) : i < l.length → B l i = 34 → StrOk l (i + 1) E → Cq l d (E + 1) R → Cq l d i R
 | open_ (d i R : Nat) : i < l.length → (B l i = 91 ∨ B l i = 123) → Cq l (d + 1) (i + 1) R → Cq l d i R
 | close (d i R : Nat) : i < l.length → (B l i = 93 ∨ B l i = 125) → 1 ≤ d → Cq l d (i + 1) R → Cq l (d + 1) i R
 | fin (i : Nat) : i < l.length → (B l i = 93 ∨ B l i = 125) → Cq l 1 i (i + 1)
theorem Cq.lt {l : List Int} {d i R : Nat} (h : Cq l d i R) : i < l.length := by cases h <;> assumption
theorem Cq.le {l : List Int} {d i R : Nat} (h : Cq l d i R) : i < R ∧ R ≤ l.length := by
 induction h with
 | plain d i R _ _ _ ih => omega
 | str d i E R _ _ hs _ ih => have := hs.le; omega
 | open_ d i R _ _ _ ih => omega
 | close d i R _ _ _ _ ih => omega
 | fin i h _ => omega
theorem cq_plain {l : List Int} {d i R : Nat} (h : Cq l d i R) (hp : Pl (B l i)) : Cq l d (i + 1) R := by
 unfold Pl at hp
 cases h with
 | plain d i R _ _ h => exact h
 | str d i E R _ h34 _ _ => omega
 | open_ d i R _ h _ => omega
 | close d i R _ h _ _ => omega
 | fin i _ h => omega
theorem cq_str {l : List Int} {d i R : Nat} (h : Cq l d i R) (hp : B l i = 34) : ∃ E, StrOk l (i + 1) E ∧ Cq l d (E + 1) R := by
 cases h with
 | plain d i R _ h _ => exact absurd hp h.1
 | str d i E R _ _ h1 h2 => exact ⟨E, h1, h2⟩
 | open_ d i R _ h _ => omega
 | close d i R _ h _ _ => omega
 | fin i _ h => omega
theorem cq_open {l : List Int} {d i R : Nat} (h : Cq l d i R) (hp : B l i = 91 ∨ B l i = 123) : Cq l (d + 1) (i + 1) R := by
 cases h with
 | plain d i R _ h _ => unfold Pl at h; omega
 | str d i E R _ h _ _ => omega
 | open_ d i R _ _ h => exact h
 | close d i R _ h _ _ => omega
 | fin i _ h => omega
theorem cq_close {l : List Int} {d i R : Nat} (h : Cq l d i R) (hp : B l i = 93 ∨ B l i = 125) : (d = 1 ∧ R = i + 1) ∨ (2 ≤ d ∧ Cq l (d - 1) (i + 1) R) := by
 cases h with
 | plain d i R _ h _ => unfold Pl at h; omega
 | str d i E R _ h _ _ => omega
 | open_ d i R _ h _ => omega
 | close d i R _ _ h1 h => exact .inr ⟨by omega, h⟩
 | fin i _ _ => exact .inl ⟨rfl, rfl⟩
theorem cq_no {l : List Int} {d i R : Nat} (h : Cq l d i R) : B l i ≠ 40 ∧ B l i ≠ 41 := by
 cases h with
 | plain d i R _ h _ => unfold Pl at h; omega
 | str d i E R _ h _ _ => omega
 | open_ d i R _ h _ => omega
 | close d i R _ h _ _ => omega
 | fin i _ h => omega
def PV (l v : List Int) : Prop := ∀ (d i R : Nat) (q : List Int), l.drop i = v ++ q → 1 ≤ d → Cq l d (i + v.length) R → Cq l d i R
def PE (l v : List Int) : Prop := ∀ (d i R : Nat) (q : List Int), l.drop i = v ++ q → 1 ≤ d → ((d = 1 ∧ R = i + v.length) ∨ (2 ≤ d ∧ Cq l (d - 1) (i + v.length) R)) → Cq l d i R
theorem cq_run (l : List Int) (d R : Nat) : ∀ (w : List Int) (i : Nat) (q : List Int), l.drop i = w ++ q → (∀ c ∈ w, Pl c) → Cq l d (i + w.length) R → Cq l d i R
 | [], i, q, _, _, h => h
 | c :: w, i, q, hd, hw, h => by
  refine .plain d i R (drop_lt hd) (by rw [B_drop hd]; exact hw c List.mem_cons_self) ?_; exact cq_run l d R w (i + 1) q (drop_next hd) (fun x hx => hw x (List.mem_cons_of_mem _ hx)) (by rw [show i + 1 + w.length = i + (c :: w).length by simp; omega]; exact h)
theorem pl_blk {c : Int} (h : Blk c) : Pl c := by unfold Blk at h; unfold Pl; omega
theorem pl_num {c : Int} (h : NumC c) : Pl c := by unfold NumC at h; unfold Pl; omega
theorem cq_ws {l w q : List Int} {d i R : Nat} (hd : l.drop i = w ++ q) (hw : Ws w) (h : Cq l d (i + w.length) R) : Cq l d i R := cq_run l d R w i q hd (fun c hc => pl_blk (hw c hc)) h
theorem pv_atom {l v : List Int} (h : AtomOk v) : PV l v := fun d i R q hd _ hR => by
 refine cq_run l d R v i q hd (fun c hc => ?_) hR
 rcases h with rfl | rfl | rfl | h
 ·unfold Pl; simp at hc; omega
 ·unfold Pl; simp at hc; omega
 ·unfold Pl; simp at hc; omega
 ·exact pl_num (h.c.1 c hc)
theorem cq_string {l s q : List Int} {d i R : Nat} (hs : SB s) (hd : l.drop i = 34 :: (s ++ 34 :: q)) (h : Cq l d (i + s.length + 2) R) : Cq l d i R := by
 have h1 := drop_next hd; have hb := B_drop hd; have ho := str_ok l q hs (i + 1) h1 (by rw [runB_ne (by rw [hb]; decide)]); exact .str d i (i + 1 + s.length) R (drop_lt hd) hb ho (by rw [show i + 1 + s.length + 1 = i + s.length + 2 by omega]; exact h)
theorem pv_str {l s : List Int} (hs : SB s) : PV l (34 :: (s ++ [34])) := fun d i R q hd _ hR => by
 refine cq_string hs (q := q) (by rw [hd]; simp) ?_; rw [show i + s.length + 2 = i + (34 :: (s ++ [34])).length by simp; omega]; exact hR
theorem cq_end {l q : List Int} {c : Int} {d i R : Nat} (hd : l.drop i = c :: q) (hc : c = 93 ∨ c = 125) (h1 : 1 ≤ d) (h : (d = 1 ∧ R = i + 1) ∨ (2 ≤ d ∧ Cq l (d - 1) (i + 1) R)) : Cq l d i R := by
 have hb := B_drop hd
 rcases h with ⟨rfl, rfl⟩ | ⟨h2, h⟩
 ·exact .fin i (drop_lt hd) (by rw [hb]; exact hc)
 ·obtain ⟨e, rfl⟩ : ∃ e, d = e + 1 := ⟨d - 1, by omega⟩
  exact .close e i R (drop_lt hd) (by rw [hb]; exact hc) (by omega) h
theorem pe_ws {l w : List Int} {c : Int} (hw : Ws w) (hc : c = 93 ∨ c = 125) : PE l (w ++ [c]) := fun d i R q hd h1 h => by
 have hd : l.drop i = w ++ c :: q := by rw [hd]; simp
 refine cq_ws hd hw ?_; have hl : i + (w ++ [c]).length = i + w.length + 1 := by simp; omega
 rw [hl] at h; exact cq_end (drop_app hd) hc h1 h
theorem pe_last {l v w : List Int} (hv : PV l v) (hw : Ws w) : PE l (v ++ (w ++ [93])) := fun d i R q hd h1 h => by
 have hd : l.drop i = v ++ ((w ++ [93]) ++ q) := by rw [hd]; simp
 refine hv d i R _ hd h1 (pe_ws hw (.inl rfl) d _ R q (drop_app hd) h1 ?_); have e : i + (v ++ (w ++ [93])).length = i + v.length + (w ++ [93]).length := by simp; omega
 rwa [e] at h
theorem pe_more {l v w1 w2 z : List Int} (hv : PV l v) (hw1 : Ws w1) (hw2 : Ws w2) (hz : PE l z) : PE l (v ++ (w1 ++ 44 :: (w2 ++ z))) := fun d i R q hd h1 h => by
 have hd : l.drop i = v ++ (w1 ++ 44 :: (w2 ++ (z ++ q))) := by rw [hd]; simp
 have d1 := drop_app hd; have d2 := drop_app d1; have d3 := drop_next d2; have d4 := drop_app d3; refine hv d i R _ hd h1 (cq_ws d1 hw1 (.plain d _ R (drop_lt d2) (by rw [B_drop d2]; unfold Pl; decide) (cq_ws d3 hw2 (hz d _ R q d4 h1 ?_))))
 rwa [show i + v.length + w1.length + 1 + w2.length + z.length = i + (v ++ (w1 ++ 44 :: (w2 ++ z))).length by simp; omega]
theorem pm_last {l s w1 w2 v w3 : List Int} (hs : SB s) (hw1 : Ws w1) (hw2 : Ws w2) (hv : PV l v) (hw3 : Ws w3) : PE l (34 :: (s ++ 34 :: (w1 ++ 58 :: (w2 ++ (v ++ (w3 ++ [125])))))) := fun d i R q hd h1 h => by
 have hd : l.drop i = 34 :: (s ++ 34 :: (w1 ++ 58 :: (w2 ++ (v ++ ((w3 ++ [125]) ++ q))))) := by rw [hd]; simp
 refine cq_string hs hd ?_; have d1 : l.drop (i + s.length + 2) = w1 ++ 58 :: (w2 ++ (v ++ ((w3 ++ [125]) ++ q))) := by
  have := drop_app (w := 34 :: (s ++ [34])) (r := w1 ++ 58 :: (w2 ++ (v ++ ((w3 ++ [125]) ++ q)))) (by rw [hd]; simp)
  rwa [show i + (34 :: (s ++ [34])).length = i + s.length + 2 by simp; omega] at this
 have d2 := drop_app d1; have d3 := drop_next d2; have d4 := drop_app d3; have d5 := drop_app d4; refine cq_ws d1 hw1 (.plain d _ R (drop_lt d2) (by rw [B_drop d2]; unfold Pl; decide) (cq_ws d3 hw2 (hv d _ R _ d4 h1 (pe_ws hw3 (.inr rfl) d _ R q d5 h1 ?_)))); have e : i + (34 :: (s ++ 34 :: (w1 ++ 58 :: (w2 ++ (v ++ (w3 ++ [125])))))).length = i + s.length + 2 + w1.length + 1 + w2.length + v.length + (w3 ++ [125]).length := by simp; omega
 rwa [e] at h
theorem pm_more {l s w1 w2 v w3 w4 z : List Int} (hs : SB s) (hw1 : Ws w1) (hw2 : Ws w2) (hv : PV l v) (hw3 : Ws w3) (hw4 : Ws w4) (hz : PE l z) : PE l (34 :: (s ++ 34 :: (w1 ++ 58 :: (w2 ++ (v ++ (w3 ++ 44 :: (w4 ++ z))))))) := fun d i R q hd h1 h => by
 have hd : l.drop i = 34 :: (s ++ 34 :: (w1 ++ 58 :: (w2 ++ (v ++ (w3 ++ 44 :: (w4 ++ (z ++ q))))))) := by rw [hd]; simp
 refine cq_string hs hd ?_; have d1 : l.drop (i + s.length + 2) = w1 ++ 58 :: (w2 ++ (v ++ (w3 ++ 44 :: (w4 ++ (z ++ q))))) := by
  have := drop_app (w := 34 :: (s ++ [34])) (r := w1 ++ 58 :: (w2 ++ (v ++ (w3 ++ 44 :: (w4 ++ (z ++ q)))))) (by rw [hd]; simp)
  rwa [show i + (34 :: (s ++ [34])).length = i + s.length + 2 by simp; omega] at this
 have d2 := drop_app d1; have d3 := drop_next d2; have d4 := drop_app d3; have d5 := drop_app d4; have d6 := drop_app d5; have d7 := drop_next d6; have d8 := drop_app d7; refine cq_ws d1 hw1 (.plain d _ R (drop_lt d2) (by rw [B_drop d2]; unfold Pl; decide) (cq_ws d3 hw2 (hv d _ R _ d4 h1 (cq_ws d5 hw3 (.plain d _ R (drop_lt d6) (by rw [B_drop d6]; unfold Pl; decide) (cq_ws d7 hw4 (hz d _ R q d8 h1 ?_)))))))
 rwa [show i + s.length + 2 + w1.length + 1 + w2.length + v.length + w3.length + 1 + w4.length + z.length = i + (34 :: (s ++ 34 :: (w1 ++ 58 :: (w2 ++ (v ++ (w3 ++ 44 :: (w4 ++ z))))))).length by simp; omega]
theorem pv_br {l z : List Int} {c : Int} (hc : c = 91 ∨ c = 123) (hz : PE l z) : PV l (c :: z) := fun d i R q hd h1 h => by
 have hd : l.drop i = c :: (z ++ q) := hd; refine .open_ d i R (drop_lt hd) (by rw [B_drop hd]; exact hc) (hz (d + 1) (i + 1) R q (drop_next hd) (by omega) (.inr ⟨by omega, ?_⟩))
 rwa [show d + 1 - 1 = d by omega, show i + 1 + z.length = i + (c :: z).length by simp; omega]
theorem pe_pre {l w z : List Int} (hw : Ws w) (hz : PE l z) : PE l (w ++ z) := fun d i R q hd h1 h => by
 have hd : l.drop i = w ++ (z ++ q) := by rw [hd]; simp
 refine cq_ws hd hw (hz d _ R q (drop_app hd) h1 ?_)
 rwa [show i + w.length + z.length = i + (w ++ z).length by simp; omega]
theorem pe_v {v : List Int} {j : J} (h : V v j) (l : List Int) : PV l v := by
 refine V.rec (motive_1 := fun v _ _ => PV l v) (motive_2 := fun v _ _ => PE l v) (motive_3 := fun v _ _ => PE l v) ?_ ?_ ?_ ?_ ?_ ?_ ?_ ?_ ?_ ?_ h
 ·intro v h; exact pv_atom h
 ·intro s h; exact pv_str h
 ·intro w h; exact pv_br (.inl rfl) (pe_ws h (.inl rfl))
 ·intro w l ks hw h ih; exact pv_br (.inl rfl) (pe_pre hw ih)
 ·intro w h; exact pv_br (.inr rfl) (pe_ws h (.inr rfl))
 ·intro w l ms hw h ih; exact pv_br (.inr rfl) (pe_pre hw ih)
 ·intro l j w hv hw ih; exact pe_last ih hw
 ·intro l j w1 w2 r ks hv h1 h2 hz ih1 ih2; exact pe_more ih1 h1 h2 ih2
 ·intro s u w1 w2 l j w3 hu h1 h2 hv h3 ih; exact pm_last hu.SB h1 h2 ih h3
 ·intro s u w1 w2 l j w3 w4 r ms hu h1 h2 hv h3 h4 hz ih1 ih2; exact pm_more hu.SB h1 h2 ih1 h3 h4 ih2
theorem cq_of {v : List Int} {j : J} (h : V v j) (hc : (∃ r, v = 91 :: r) ∨ ∃ r, v = 123 :: r) (l q : List Int) (i : Nat) (hd : l.drop i = v ++ q) : Cq l 1 (i + 1) (i + v.length) := by
 have key : ∀ z : List Int, PE l z → ∀ c : Int, v = c :: z → Cq l 1 (i + 1) (i + v.length) := fun z hz c e => by
  subst e; refine hz 1 (i + 1) _ q (drop_next hd) (Nat.le_refl _) (.inl ⟨rfl, by simp; omega⟩)
 have hE : ∀ {m : List Int} {ks : List J}, Els m ks → PE l m := fun h => by
  refine Els.rec (motive_1 := fun v _ _ => PV l v) (motive_2 := fun v _ _ => PE l v) (motive_3 := fun v _ _ => PE l v) ?_ ?_ ?_ ?_ ?_ ?_ ?_ ?_ ?_ ?_ h
  ·intro v h; exact pv_atom h
  ·intro s h; exact pv_str h
  ·intro w h; exact pv_br (.inl rfl) (pe_ws h (.inl rfl))
  ·intro w l ks hw h ih; exact pv_br (.inl rfl) (pe_pre hw ih)
  ·intro w h; exact pv_br (.inr rfl) (pe_ws h (.inr rfl))
  ·intro w l ms hw h ih; exact pv_br (.inr rfl) (pe_pre hw ih)
  ·intro l j w hv hw ih; exact pe_last ih hw
  ·intro l j w1 w2 r ks hv h1 h2 hz ih1 ih2; exact pe_more ih1 h1 h2 ih2
  ·intro s u w1 w2 l j w3 hu h1 h2 hv h3 ih; exact pm_last hu.SB h1 h2 ih h3
  ·intro s u w1 w2 l j w3 w4 r ms hu h1 h2 hv h3 h4 hz ih1 ih2; exact pm_more hu.SB h1 h2 ih1 h3 h4 ih2
 have hM : ∀ {m : List Int} {ks : List (List Int × J)}, Mbs m ks → PE l m := fun h => by
  cases h with
  | last s u w1 w2 v j w3 hu h1 h2 hv h3 => exact pm_last hu.SB h1 h2 (pe_v hv l) h3
  | more s u w1 w2 v j w3 w4 r ms hu h1 h2 hv h3 h4 hz =>
   refine pm_more hu.SB h1 h2 (pe_v hv l) h3 h4 ?_; refine Mbs.rec (motive_1 := fun v _ _ => PV l v) (motive_2 := fun v _ _ => PE l v) (motive_3 := fun v _ _ => PE l v) ?_ ?_ ?_ ?_ ?_ ?_ ?_ ?_ ?_ ?_ hz
   ·intro v h; exact pv_atom h
   ·intro s h; exact pv_str h
   ·intro w h; exact pv_br (.inl rfl) (pe_ws h (.inl rfl))
   ·intro w l ks hw h ih; exact pv_br (.inl rfl) (pe_pre hw ih)
   ·intro w h; exact pv_br (.inr rfl) (pe_ws h (.inr rfl))
   ·intro w l ms hw h ih; exact pv_br (.inr rfl) (pe_pre hw ih)
   ·intro l j w hv hw ih; exact pe_last ih hw
   ·intro l j w1 w2 r ks hv h1 h2 hz ih1 ih2; exact pe_more ih1 h1 h2 ih2
   ·intro s u w1 w2 l j w3 hu h1 h2 hv h3 ih; exact pm_last hu.SB h1 h2 ih h3
   ·intro s u w1 w2 l j w3 w4 r ms hu h1 h2 hv h3 h4 hz ih1 ih2; exact pm_more hu.SB h1 h2 ih1 h3 h4 ih2
 cases h with
 | atom v h =>
  exfalso
  rcases h with rfl | rfl | rfl | h
  ·rcases hc with ⟨r, e⟩ | ⟨r, e⟩ <;> (injection e with e _; omega)
  ·rcases hc with ⟨r, e⟩ | ⟨r, e⟩ <;> (injection e with e _; omega)
  ·rcases hc with ⟨r, e⟩ | ⟨r, e⟩ <;> (injection e with e _; omega)
  ·obtain ⟨_, c, s, rfl, hc2⟩ := h.c
   rcases hc with ⟨r, e⟩ | ⟨r, e⟩ <;> (injection e with e _; omega)
 | str s => exfalso; rcases hc with ⟨r, e⟩ | ⟨r, e⟩ <;> (injection e with e _; omega)
 | arr0 w hw => exact key _ (pe_ws hw (.inl rfl)) _ rfl
 | arr w l ks hw h => exact key _ (pe_pre hw (hE h)) _ rfl
 | obj0 w hw => exact key _ (pe_ws hw (.inr rfl)) _ rfl
 | obj w l ms hw h => exact key _ (pe_pre hw (hM h)) _ rfl
open Go.RowKit Go.Proofs.YtdacgdjjdifneaaGreatDoorW.PrintWords Go.Proofs.YtdacgdjjdifneaaGreatDoorW.PrintLast Go.Proofs.YtdacgdjjdifneaaGreatDoorW.PrintMore
def vch (c : Nat) : Nat := if c = 34 then 2 else if c = 123 ∨ c = 40 ∨ c = 91 then 3 else if c = 125 ∨ c = 41 ∨ c = 93 then 1 else 0
structure VT (W : World) : Prop where
 ex : ∀ c : Nat, c < 256 → W.cell? ⟨0, c, none⟩ = some (.int .u8 (vch c : Int))
theorem one64 {i n : Nat} (h : i ≤ n) (hn : n ≤ 65536) : wrap64 ((i : Int) + 1) = ((i + 1 : Nat) : Int) := by rw [Go.IntWalk.wrap64_in _ (by omega)]; omega
theorem B_bt (s : ByteArray) (i : Nat) : B (bytesOf s) i = bt s (i : Int) := by
 rw [← rd_bytesOf]; unfold B rd; rw [Int.toNat_natCast]
theorem bt_nat (s : ByteArray) (i : Int) : ∃ b : Nat, bt s i = (b : Int) ∧ b < 256 := by
 have := bt_range s i; exact ⟨(bt s i).toNat, by omega, by omega⟩
def TokP (l : List Int) (R ih i0 d i : Nat) : Prop := Cq l d i R ∧ i0 < i ∧ ih ≤ i ∧ d ≤ i
def InP (l : List Int) (R ih i0 d s2 E i : Nat) : Prop := StrOk l s2 E ∧ Cq l d (E + 1) R ∧ s2 ≤ i ∧ i ≤ E ∧ i0 < s2 ∧ ih < s2 ∧ d ≤ s2 ∧ B l (s2 - 1) = 34
inductive Fr (s : ByteArray) (i0 i d : Nat) (c t10 : Value) : Act → Prop
 | mk {v4 v5 v9 v11 v12 v13 v17 v18 v19 v20 v21 v22 v23 v24 v25 v26 v27 v28 v29 v30 v31 v32 v33 v34 v35 v36 v37 v38 v39 v40 v41 v42 v43 v44 v45 v46 v47 v48 v49 v50 v51 v52 v53 v54 v55 v56 v57 v58 v59 v60 v61 v62 v63 v64 v65 v66 v67 v68 v69 v70 v71 v72 v73 v74 v75 v76 v77 v78 v79 v80 v81 v82 v83 v84 v85 v86 v87 v88 v89 v90 v91 v92 v93 v94 v95 v96 v97 v98 v99 v100 v101 v102 v103 v104 v105 v106 v107 v108 v109 v110 v111 v112 v113 v114 v115 v116 v117 v118 v119 v120 v121 v122 v123 v124 v125 v126 v127 v128 v129 v130 v131 v132 v133 v134 v135 v136 v137 v138 v139 v140 v141 v142 v143 v144 v145 v146 v147 v148 v149 v150 v151 v152 v153 v154 v155 v156 v157 v158 v159 v160 v161 v162 v163 v164 v165 v166 v167 v168 v169 v170 v171 v172 v173 v174 v175 v176 v177 v178 v179 v180 v181 v182 v183 v184 v185 v186 v187 v188 v189 v190 v191 v192 v193 v194 v195 v196 v197 v198 v199 v200 v201 v202 v203 v204 v205 v206 v207 v208 v209 v210 v211 v212 v213 v214 v215 v216 v217 v218 v219 v220 v221 v222 v223 v224 v225 : Value} : Fr s i0 i d c t10 ⟨List.toArray (.string s :: .int .i64 (i : Int) :: undef :: undef :: v4 :: v5 :: .int .i64 (i0 : Int) :: .int .i64 (d : Int) :: c :: v9 :: t10 :: v11 :: v12 :: v13 :: .int .i64 (i0 : Int) :: .int .i64 (i0 : Int) :: .int .i64 (wrap64 ((i0 : Int) + 1)) :: v17 :: v18 :: v19 :: v20 :: v21 :: v22 :: v23 :: v24 :: v25 :: v26 :: v27 :: v28 :: v29 :: v30 :: v31 :: v32 :: v33 :: v34 :: v35 :: v36 :: v37 :: v38 :: v39 :: v40 :: v41 :: v42 :: v43 :: v44 :: v45 :: v46 :: v47 :: v48 :: v49 :: v50 :: v51 :: v52 :: v53 :: v54 :: v55 :: v56 :: v57 :: v58 :: v59 :: v60 :: v61 :: v62 :: v63 :: v64 :: v65 :: v66 :: v67 :: v68 :: v69 :: v70 :: v71 :: v72 :: v73 :: v74 :: v75 :: v76 :: v77 :: v78 :: v79 :: v80 :: v81 :: v82 :: v83 :: v84 :: v85 :: v86 :: v87 :: v88 :: v89 :: v90 :: v91 :: v92 :: v93 :: v94 :: v95 :: v96 :: v97 :: v98 :: v99 :: v100 :: v101 :: v102 :: v103 :: v104 :: v105 :: v106 :: v107 :: v108 :: v109 :: v110 :: v111 :: v112 :: v113 :: v114 :: v115 :: v116 :: v117 :: v118 :: v119 :: v120 :: v121 :: v122 :: v123 :: v124 :: v125 :: v126 :: v127 :: v128 :: v129 :: v130 :: v131 :: v132 :: v133 :: v134 :: v135 :: v136 :: v137 :: v138 :: v139 :: v140 :: v141 :: v142 :: v143 :: v144 :: v145 :: v146 :: v147 :: v148 :: v149 :: v150 :: v151 :: v152 :: v153 :: v154 :: v155 :: v156 :: v157 :: v158 :: v159 :: v160 :: v161 :: v162 :: v163 :: v164 :: v165 :: v166 :: v167 :: v168 :: v169 :: v170 :: v171 :: v172 :: v173 :: v174 :: v175 :: v176 :: v177 :: v178 :: v179 :: v180 :: v181 :: v182 :: v183 :: v184 :: v185 :: v186 :: v187 :: v188 :: v189 :: v190 :: v191 :: v192 :: v193 :: v194 :: v195 :: v196 :: v197 :: v198 :: v199 :: v200 :: v201 :: v202 :: v203 :: v204 :: v205 :: v206 :: v207 :: v208 :: v209 :: v210 :: v211 :: v212 :: v213 :: v214 :: v215 :: v216 :: v217 :: v218 :: v219 :: v220 :: v221 :: v222 :: v223 :: v224 :: v225 :: undef :: undef :: undef :: undef :: []), []⟩
def Jo (s : ByteArray) (R ih i0 : Nat) (w0 : World) (a : Act) (w : World) : Prop := w = w0 ∧ ∃ (i d b : Nat) (t10 : Value), Fr s i0 i d (.int .u8 (vch b : Int)) t10 a ∧ TokP (bytesOf s) R ih i0 d i ∧ bt s (i : Int) = (b : Int) ∧ vch b ≠ 0
def Ji (s : ByteArray) (R ih i0 d : Nat) (w0 : World) (l r : Nat) (a : Act) (w : World) : Prop := w = w0 ∧ ∃ (i s2 E : Nat) (c : Value), Fr s i0 i d c (.int .i64 (s2 : Int)) a ∧ InP (bytesOf s) R ih i0 d s2 E i ∧
 ((l = 1 ∧ bt s (i : Int) = 34 ∧ r = 4 * (s.size - i) + 1) ∨ (l = 2 ∧ r = 4 * (s.size - i) + 2) ∨ (l = 3 ∧ r = 4 * (s.size - i) + 1))
theorem Ji.no {s : ByteArray} {R ih i0 d : Nat} {w0 : World} (l r : Nat) (a : Act) (w : World) (h : Ji s R ih i0 d w0 l r a w) : l = 1 ∨ l = 2 ∨ l = 3 := by
 obtain ⟨_, _, _, _, _, _, _, h⟩ := h
 rcases h with h | h | h <;> omega
theorem sz_meas8 {i n : Nat} (h : i + 8 < n) : n - (intOf (.int .i64 ((i + 8 : Nat) : Int))).toNat < n - (intOf (.int .i64 (i : Int))).toNat := by simp [intOf]; omega
theorem sz_measi {ih i n : Nat} (h : i < n) (h2 : ih ≤ i) : n - (intOf (.int .i64 ((i + 1 : Nat) : Int))).toNat < n - (intOf (.int .i64 (ih : Int))).toNat := by simp [intOf]; omega
theorem vch_cases {b : Nat} (h : vch b ≠ 0) (h1 : b ≠ 40) (h2 : b ≠ 41) : b = 34 ∨ (vch b = 3 ∧ (b = 91 ∨ b = 123)) ∨ (vch b = 1 ∧ (b = 93 ∨ b = 125)) := by
 unfold vch at *
 by_cases e1 : b = 34
 ·exact .inl e1
 rw [if_neg e1] at h ⊢
 by_cases e2 : b = 123 ∨ b = 40 ∨ b = 91
 ·rw [if_pos e2]; exact .inr (.inl ⟨rfl, by omega⟩)
 rw [if_neg e2] at h ⊢
 by_cases e3 : b = 125 ∨ b = 41 ∨ b = 93
 ·rw [if_pos e3]; exact .inr (.inr ⟨rfl, by omega⟩)
 ·rw [if_neg e3] at h; exact absurd rfl h
theorem in_lt {s : ByteArray} {R ih i0 d s2 E i : Nat} (h : InP (bytesOf s) R ih i0 d s2 E i) : i < s.size := by
 have := h.1.lt; rw [bytesOf_length] at this; have := h.2.2.2.1; omega
theorem in_end {l : List Int} {R ih i0 d s2 E i : Nat} (h : InP l R ih i0 d s2 E i) (h34 : B l i = 34) (h0 : runB l i % 2 = 0) : i = E := by
 obtain ⟨h1, _, h2, h3, _⟩ := h; apply Classical.byContradiction; intro hne; have := h1.inner i h2 (by omega) h34; omega
theorem in_more {l : List Int} {R ih i0 d s2 E i : Nat} (h : InP l R ih i0 d s2 E i) (h34 : B l i ≠ 34) : InP l R ih i0 d s2 E (i + 1) := by
 obtain ⟨h1, h4, h2, h3, h5⟩ := h; refine ⟨h1, h4, by omega, ?_, h5⟩; have : i ≠ E := fun e => h34 (by rw [e]; exact h1.mark); omega
theorem in_more2 {l : List Int} {R ih i0 d s2 E i : Nat} (h : InP l R ih i0 d s2 E i) (h0 : runB l i % 2 = 1) : InP l R ih i0 d s2 E (i + 1) := by
 obtain ⟨h1, h4, h2, h3, h5⟩ := h; refine ⟨h1, h4, by omega, ?_, h5⟩; have : i ≠ E := fun e => by rw [e, h1.ends] at h0; omega
 omega
theorem rk1 {n q i r : Nat} (h : r = 4 * (n - q) + 2) (h2 : q ≤ i) : 4 * (n - i) + 1 < r := by omega
theorem rk2 {n q i r : Nat} (h : r = 4 * (n - q) + 1) (h2 : q ≤ i) (h3 : i < n) : 4 * (n - (i + 1)) + 2 < r := by omega
theorem runB_le (l : List Int) : ∀ i, runB l i ≤ i
 | 0 => Nat.le_refl _
 | i + 1 => by rw [runB]; split <;> have := runB_le l i <;> omega
def CntP (l : List Int) (s2 i n j : Nat) : Prop := s2 ≤ j + 1 ∧ j < i ∧ n + runB l (j + 1) + 1 = runB l i
theorem cnt_low {l : List Int} {s2 i n j : Nat} (h : CntP l s2 i n j) (h1 : 1 ≤ s2) (h2 : j ≤ s2 - 1) (h3 : B l (s2 - 1) = 34) : n + 1 = runB l i := by
 obtain ⟨a, b, c⟩ := h; have e : j = s2 - 1 := by omega
 rw [e, runB_ne (by rw [h3]; decide)] at c; omega
theorem cnt_ne {l : List Int} {s2 i n j : Nat} (h : CntP l s2 i n j) (h3 : B l j ≠ 92) : n + 1 = runB l i := by
 obtain ⟨a, b, c⟩ := h; rw [runB_ne h3] at c; omega
theorem cnt_down {l : List Int} {s2 i n j k : Nat} (h : CntP l s2 i n j) (h1 : 1 ≤ s2) (hk : k + 1 = j) (h2 : s2 ≤ j) (h3 : B l j = 92) : CntP l s2 i (n + 1) k := by
 obtain ⟨a, b, c⟩ := h; rw [runB_bs h3, ← hk] at c; exact ⟨by omega, by omega, by omega⟩
theorem cnt_beg {l : List Int} {R ih i0 d s2 E i m k : Nat} (h : InP l R ih i0 d s2 E i) (hm : m + 1 = i) (h92 : B l m = 92) (hk : k + 1 = m) : CntP l s2 i 0 k := by
 have h1 : s2 ≤ m := by
  have := h.2.2.1; have h5 := h.2.2.2.2.2.2.2; apply Classical.byContradiction; intro hn; have e : m = s2 - 1 := by omega
  rw [← e, h92] at h5; exact absurd h5 (by decide)
 refine ⟨by omega, by omega, ?_⟩; rw [hk, ← hm, runB_bs h92]; omega
theorem two_le {l : List Int} {R ih i0 d s2 E i m : Nat} (h : InP l R ih i0 d s2 E i) (hm : m + 1 = i) (h92 : B l m = 92) : 1 ≤ m ∧ m < i := by
 have h1 : s2 ≤ m := by
  have := h.2.2.1; have h5 := h.2.2.2.2.2.2.2; apply Classical.byContradiction; intro hn; have e : m = s2 - 1 := by omega
  rw [← e, h92] at h5; exact absurd h5 (by decide)
 have := h.2.2.2.2.1; omega
theorem in_i0 {l : List Int} {R ih i0 d s2 E i : Nat} (h : InP l R ih i0 d s2 E i) : i0 < i + 1 := by have := h.2.2; omega
theorem in_d {l : List Int} {R ih i0 d s2 E i : Nat} (h : InP l R ih i0 d s2 E i) : d ≤ i + 1 := by have := h.2.2; omega
theorem in_ih {l : List Int} {R ih i0 d s2 E i : Nat} (h : InP l R ih i0 d s2 E i) : ih ≤ i := by have := h.2.2; omega
theorem cnt_lt {l : List Int} {s2 i n j m : Nat} (h : CntP l s2 i n j) (h2 : i < m) : j < m := by have := h.2.1; omega
theorem cnt_n {l : List Int} {s2 i n j m : Nat} (h : CntP l s2 i n j) (h2 : i < m) : n ≤ m := by have := h.2.2; have := runB_le l i; omega
theorem dec1 {k j m : Nat} (h : k + 1 = j) (h2 : j < m) (hm : m ≤ 65536) : wrap64 ((j : Int) - 1) = (k : Int) ∧ wrap64 ((j : Int) + -1) = (k : Int) := by
 constructor <;> rw [Go.IntWalk.wrap64_in _ (by omega)] <;> omega
theorem tm0 {n : Nat} (h : n % 2 = 0) : Int.tmod (n : Int) 2 = 0 := by rw [show Int.tmod (n : Int) 2 = ((n % 2 : Nat) : Int) from rfl, h]; rfl
theorem tm1 {n : Nat} (h : ¬ n % 2 = 0) : Int.tmod (n : Int) 2 = 1 := by rw [show Int.tmod (n : Int) 2 = ((n % 2 : Nat) : Int) from rfl, show n % 2 = 1 by omega]; rfl
theorem rk5 {n k : Nat} (h : n + 1 = k) (h2 : n % 2 = 0) : k % 2 = 1 := by omega
theorem rk6 {n k : Nat} (h : n + 1 = k) (h2 : ¬ n % 2 = 0) : k % 2 = 0 := by omega
theorem rk3 {sm s2 j : Nat} (h : sm + 1 = s2) (h2 : sm < j) : s2 ≤ j := by omega
theorem rk4 {k j : Nat} (h : k + 1 = j) : (intOf (.int .i64 (k : Int))).toNat < (intOf (.int .i64 (j : Int))).toNat := by simp [intOf]; omega
theorem vch_pl {b : Nat} (h : vch b = 0) : Pl (b : Int) := by
 unfold vch at h; unfold Pl; refine ⟨?_, ?_, ?_, ?_, ?_, ?_, ?_⟩ <;> (intro e; have e2 : b = _ := Int.ofNat.inj e; subst e2; revert h; decide)
structure Oct (s t : ByteArray) (i : Nat) (b : Nat → Nat) : Prop where
 sz : t.size = 8
 at_ : ∀ k, k < 8 → ∀ h : k < t.size, (t[k]'h).toNat = b k
 bt : ∀ k, k < 8 → bt s ((i + k : Nat) : Int) = (b k : Int)
 lt : ∀ k, k < 8 → b k < 256
theorem oct_of (s : ByteArray) (i : Nat) (h : i + 8 ≤ s.size) : ∃ b, Oct s (s.extract i (i + 8)) i b := by
 have hsz : (s.extract i (i + 8)).size = 8 := by rw [ByteArray.size_extract]; omega
 refine ⟨fun k => (bt s ((i + k : Nat) : Int)).toNat, hsz, fun k hk h1 => ?_, fun k hk => ?_, fun k hk => ?_⟩
 ·have h2 := bt_c _ k h1; rw [bt_cut s i (i + 8) k h1] at h2; omega
 ·have := bt_range s ((i + k : Nat) : Int); omega
 ·have := bt_range s ((i + k : Nat) : Int); omega
theorem eight {i n : Nat} (hn : n ≤ 65536) : wrap64 ((n : Int) - 8) = (n : Int) - 8 := Go.IntWalk.wrap64_in _ (by omega)
theorem plus {i n k : Nat} (h : i ≤ n) (hn : n ≤ 65536) (hk : k ≤ 8) : wrap64 ((i : Int) + (k : Int)) = ((i + k : Nat) : Int) := by rw [Go.IntWalk.wrap64_in _ (by omega)]; omega
theorem in_skip {s : ByteArray} {R ih i0 d s2 E i : Nat} {b : Nat → Nat} {t : ByteArray} (h : InP (bytesOf s) R ih i0 d s2 E i) (ho : Oct s t i b) : ∀ k, k ≤ 8 → (∀ j, j < k → b j ≠ 34) → InP (bytesOf s) R ih i0 d s2 E (i + k) := by
 intro k
 induction k with
 | zero => intro _ _; exact h
 | succ k ihk =>
  intro hk hb; have h1 := ihk (by omega) (fun j hj => hb j (by omega)); refine in_more h1 ?_; have e := ho.bt k (by omega); rw [← B_bt] at e; have := hb k (by omega); intro e2; have e3 : B (bytesOf s) (i + k) = 34 := e2; rw [e] at e3; omega
theorem tok_skip {s : ByteArray} {R ih i0 d i : Nat} {b : Nat → Nat} {t : ByteArray} (h : TokP (bytesOf s) R ih i0 d i) (ho : Oct s t i b) : ∀ k, k ≤ 8 → (∀ j, j < k → vch (b j) = 0) → TokP (bytesOf s) R ih i0 d (i + k) := by
 intro k
 induction k with
 | zero => intro _ _; exact h
 | succ k ih =>
  intro hk hb; obtain ⟨h1, h2, h3, h4⟩ := ih (by omega) (fun j hj => hb j (by omega)); have hp := vch_pl (hb k (by omega)); rw [← ho.bt k (by omega), ← B_bt] at hp; exact ⟨cq_plain h1 hp, by omega, by omega, by omega⟩
theorem sq_calls (s : ByteArray) (hs : s.size ≤ 65536) (i0 R : Nat) (h : Cq (bytesOf s) 1 (i0 + 1) R) (w : World) (hT : VT w) :
  Calls Tryz.prog 67 #[.string s, .int .i64 (i0 : Int)] w fun e w' => e = .returned (.tuple #[.int .i64 (R : Int), .string (s.extract i0 R)]) ∧ Below w.heap.size w w' := by
 have HS := sd hs; have HC := sd h; have HT := sd hT; obtain ⟨i1, hi1⟩ : ∃ i1, i1 = i0 + 1 := ⟨_, rfl⟩
 have x0 : wrap64 ((i0 : Int) + 1) = (i1 : Int) := by rw [hi1]; exact one64 (n := s.size) (by have := h.lt; rw [bytesOf_length] at this; omega) hs
 have HI := sd hi1; clear hs h hT hi1; go_enter Tryz.func67, Tryz.ntmps67; go_wp2; go_loopw [1, 7] (fun x dd wr => ∃ (i d : Nat), x = .int .i64 (i : Int) ∧ dd = .int .i64 (d : Int) ∧ Aside0 (Cq (bytesOf s) d i R ∧ i0 < i ∧ d ≤ i) ∧ wr = w) (fun x _ _ => s.size - (intOf x).toNat)
 case atStart => exact ⟨i1, 1, by rw [x0], rfl, ⟨by rw [HI.out]; exact HC.out, by have := HI.out; omega, by have := HI.out; omega⟩, rfl⟩
 case round =>
  clear x0 HC; obtain ⟨ih, d, rfl, rfl, HR, rfl⟩ := hrel; have hlt : ih < s.size := by have := HR.out.1.lt; rwa [bytesOf_length] at this
  obtain ⟨x1, x2, x3, x4, x5, x6, x7, x8, x9, x10⟩ := str_facts hlt HS.out; go_wp2; clear x1 x2 x3 x4 x5 x6 x7 x8 x9 x10; refine wp_scope_J1 (x0 := ?r0) (Jo s R ih i0 wr) ?f0 ?e0 ?first
  case f0 => rfl
  case e0 =>
   as_aux_lemma =>
    intro r a w1 hJ; obtain ⟨rfl, i, dd, b, t10, hF, hT0, hb, hv⟩ := hJ; have H := sd hT0; have HB : Aside0 (B (bytesOf s) i = (b : Int)) := ⟨by rw [B_bt, hb]⟩
    clear hT0 hb HR hlt; have hlt : i < s.size := by have := H.out.1.lt; rwa [bytesOf_length] at this
    have x6 := one64 (Nat.le_of_lt hlt) HS.out; have HL := sd hlt; clear hlt; obtain hc | ⟨hc, hc2⟩ | ⟨hc, hc2⟩ := vch_cases hv (by have := (cq_no H.out.1).1; rw [HB.out] at this; omega) (by have := (cq_no H.out.1).2; rw [HB.out] at this; omega)
    ·
     as_aux_lemma =>
     subst hc; have hz : ((vch 34 : Nat) : Int) = 2 := rfl; rw [hz] at hF; obtain ⟨⟩ := hF; obtain ⟨E, hE, hE2⟩ := cq_str H.out.1 HB.out; obtain ⟨s2, hs2⟩ : ∃ s2, s2 = i + 1 := ⟨_, rfl⟩
     have x7 : wrap64 ((i : Int) + 1) = (s2 : Int) := by rw [x6, hs2]
     have HP : Aside0 (InP (bytesOf s) R ih i0 dd s2 E s2) := ⟨by rw [hs2]; exact hE, hE2, Nat.le_refl _, by rw [hs2]; exact hE.le, by have := H.out.2; omega, by have := H.out.2; omega, by have := H.out.2; omega, by rw [hs2]; exact HB.out⟩
     clear hz hv x6 hs2 hE hE2; clear H HB HL; go_wp2; refine wp_scope_J3 (x1 := ?r1) (x2 := ?r2) (x3 := ?r3) (Ji s R ih i0 dd w1) (4 * (s.size - s2) + 2) ?f1 ?f2 ?f3 Ji.no ?e3 ?e1 ?e2 ?beg
     case f1 => rfl
     case f2 => rfl
     case f3 => rfl
     case beg =>
      intro E2; have E2 := sd E2
      as_aux_lemma =>
       go_upto_region 39 with (fail)
       refine wp_label ?_; simp only [Exit.then]
       apply_assumption
       exact E2.out _ _ _ ⟨rfl, s2, s2, E, .int .u8 2, by first | exact Fr.mk | (rw [x7]; exact Fr.mk) | (simp only [x7]; exact Fr.mk), HP.out, .inr (.inl ⟨rfl, rfl⟩)⟩
     case e1 =>
      as_aux_lemma =>
       intro E3 r a w2 hJ; have E3 := sd E3; obtain ⟨rfl, i, s2, E, c, hF, hI, hl⟩ := hJ; have hl : bt s (i : Int) = 34 ∧ r = 4 * (s.size - i) + 1 := by rcases hl with ⟨_, h⟩ | ⟨h, _⟩ | ⟨h, _⟩ <;> first | exact h | (exact absurd h (by decide))
       have H := sd hI; have HR := sd hl; clear HP hI hl; obtain ⟨⟩ := hF; have hlt : i < s.size := in_lt H.out; obtain ⟨m, hm⟩ : ∃ m, m = i - 1 := ⟨_, rfl⟩
       have hm1 : m + 1 = i := by have := H.out.2.2; omega
       obtain ⟨x1, x2, x3, x4, x5, x6, x7, x8, x9, x10⟩ := str_facts (s := s) (j := m) (by omega) HS.out; obtain ⟨b, hb, hb2⟩ := bt_nat s (m : Int); have hx : ∀ h : m < s.size, (s[m]'h).toNat = b := fun h => by have := bt_c s m h; omega
       have hw : wrap64 ((i : Int) - 1) = (m : Int) := by rw [Go.IntWalk.wrap64_in _ (by have := HS.out; omega)]; omega
       have hw2 : wrap64 ((i : Int) + -1) = (m : Int) := by rw [Go.IntWalk.wrap64_in _ (by have := HS.out; omega)]; omega
       have x11 := one64 (Nat.le_of_lt hlt) HS.out; have HB : Aside0 (B (bytesOf s) m = (b : Int)) := ⟨by rw [B_bt, hb]⟩
       have HM := sd hm1; have HL := sd hlt; clear hm hm1 x6 x7 x10 hb hlt
       by_cases hq : b = 92
       ·
        as_aux_lemma =>
        have z : ((b : Int) != 92) = false := bne_eq_false_iff_eq.mpr (by omega); go_upto_region 60 with (fail)
        refine wp_label ?_; simp only [Exit.then]
        apply_assumption
        exact E3.out _ _ _ ⟨rfl, i, s2, E, _, Fr.mk, H.out, .inr (.inr ⟨rfl, HR.out.2⟩)⟩
       ·
        as_aux_lemma =>
        have z : ((b : Int) != 92) = true := bne_iff_ne.mpr (by omega); have hE : i = E := in_end H.out (by rw [B_bt]; exact HR.out.1) (by rw [← HM.out, runB_ne (by rw [HB.out]; omega)]); have HE := sd hE; clear hE; go_wp2; refine jmp_exit ?_
        change _ ∧ _
        go_roundw
        case rel => exact ⟨i + 1, dd, by first | rfl | rw [x11], rfl, ⟨by rw [HE.out]; exact H.out.2.1, by have := H.out.2.2; omega, by have := H.out.2.2; omega⟩, by first | rfl | trivial⟩
        case measure => first | exact sz_measi HL.out (by have := H.out.2.2; omega) | (rw [x11]; exact sz_measi HL.out (by have := H.out.2.2; omega))
     case e2 =>
      as_aux_lemma =>
       intro r a w2 hJ; obtain ⟨rfl, iq, s2, E, c, hF, hI, hl⟩ := hJ; have hl : r = 4 * (s.size - iq) + 2 := by rcases hl with ⟨h, _⟩ | ⟨_, h⟩ | ⟨h, _⟩ <;> first | exact h | (exact absurd h (by decide))
       have HQ := sd hI; have HK := sd hl; clear HP hI hl; obtain ⟨⟩ := hF; go_upto_block 4 with (fail)
       go_cut [1] (fun x wc => ∃ i : Nat, x = .int .i64 (i : Int) ∧ Aside0 (InP (bytesOf s) R ih i0 dd s2 E i ∧ iq ≤ i) ∧ wc = w2)
       case first =>
        as_aux_lemma =>
        go_wp2; go_loopw [1] (fun x wc => ∃ i : Nat, x = .int .i64 (i : Int) ∧ Aside0 (InP (bytesOf s) R ih i0 dd s2 E i ∧ iq ≤ i) ∧ wc = w2) (fun x _ => s.size - (intOf x).toNat)
        case atStart => exact ⟨iq, rfl, ⟨HQ.out, Nat.le_refl _⟩, rfl⟩
        case round =>
         clear HQ; obtain ⟨i, rfl, H, rfl⟩ := hrel; have e8 := eight (i := i) HS.out; have hle : i ≤ s.size := Nat.le_of_lt (in_lt H.out.1)
         by_cases h8 : i + 8 < s.size
         ·have y1 : decide ((i : Int) < (s.size : Int) - 8) = true := decide_eq_true (by omega); obtain ⟨j8, hj8⟩ : ∃ j8 : Nat, j8 = i + 8 := ⟨_, rfl⟩
          have p8 : wrap64 ((i : Int) + 8) = (j8 : Int) := by rw [hj8]; exact plus (k := 8) hle HS.out (by decide)
          obtain ⟨b, ho⟩ := oct_of s i (by omega); rw [← hj8] at ho; have HO := sd ho; have y2 : ((0 ≤ (i : Int)) = True) := eq_true (by omega); have y3 : (((i : Int) ≤ (j8 : Int)) = True) := eq_true (by omega); have y4 : (((j8 : Int) ≤ (s.size : Int)) = True) := eq_true (by omega); have y5 : ((i : Int).toNat = i) := Int.toNat_natCast i; have y6 : ((j8 : Int).toNat = j8) := Int.toNat_natCast j8; have y7 : ((i ≤ j8) = True) := eq_true (by omega); have y8 : ((j8 ≤ s.size) = True) := eq_true (by omega); have HL := sd (And.intro h8 hj8); clear h8 hj8 hle; have hsz := ho.sz; have ha0 := ho.at_ 0 (by decide); have ha1 := ho.at_ 1 (by decide); have ha2 := ho.at_ 2 (by decide); have ha3 := ho.at_ 3 (by decide); have ha4 := ho.at_ 4 (by decide); have ha5 := ho.at_ 5 (by decide); have ha6 := ho.at_ 6 (by decide); have ha7 := ho.at_ 7 (by decide); generalize hb0 : b 0 = b0 at *; generalize hb1 : b 1 = b1 at *
          generalize hb2 : b 2 = b2 at *; generalize hb3 : b 3 = b3 at *; generalize hb4 : b 4 = b4 at *; generalize hb5 : b 5 = b5 at *; generalize hb6 : b 6 = b6 at *; generalize hb7 : b 7 = b7 at *; clear ho; go_upto_if 123 with (fail)
          by_cases hz0 : b0 = 34
          ·
           as_aux_lemma =>
            have z : ((b0 : Int) == 34) = true := beq_iff_eq.mpr (by omega); rw [z]; have hi0 : wrap64 ((i : Int)) = (i : Int) := Go.IntWalk.wrap64_in _ (by have := HL.out.1; have := HS.out; omega); have HE := in_skip H.out.1 HO.out 0 (by decide) (fun j hj => absurd hj (Nat.not_lt_zero j)); have HB : bt s (i : Int) = 34 := by have := HO.out.bt 0 (by decide); rw [hb0, hz0] at this; exact this
            have HR2 : 4 * (s.size - i) + 1 < r := rk1 HK.out H.out.2; go_wp2; refine wp_goto ?_; exact ⟨_, HR2, rfl, i, s2, E, _, by first | exact Fr.mk | (rw [hi0]; exact Fr.mk), HE, .inl ⟨rfl, HB, rfl⟩⟩
          have z0 : ((b0 : Int) == 34) = false := beq_eq_false_iff_ne.mpr (by omega); rw [z0]; go_upto_if 128 with (fail)
          by_cases hz1 : b1 = 34
          ·
           as_aux_lemma =>
            have z : ((b1 : Int) == 34) = true := beq_iff_eq.mpr (by omega); rw [z]; have hi1 : wrap64 ((i : Int) + 1) = ((i + 1 : Nat) : Int) := plus (k := 1) (n := s.size) (by have := HL.out.1; omega) HS.out (by decide); have HE := in_skip H.out.1 HO.out 1 (by decide) (fun j hj => by rcases (show j = 0 by omega) with rfl <;> first | (rw [hb0]; exact hz0)); have HB : bt s ((i + 1 : Nat) : Int) = 34 := by have := HO.out.bt 1 (by decide); rw [hb1, hz1] at this; exact this
            have HR2 : 4 * (s.size - (i + 1)) + 1 < r := rk1 HK.out (Nat.le_trans H.out.2 (Nat.le_add_right _ _)); go_wp2; refine wp_goto ?_; exact ⟨_, HR2, rfl, i + 1, s2, E, _, by first | exact Fr.mk | (rw [hi1]; exact Fr.mk), HE, .inl ⟨rfl, HB, rfl⟩⟩
          have z1 : ((b1 : Int) == 34) = false := beq_eq_false_iff_ne.mpr (by omega); rw [z1]; go_upto_if 133 with (fail)
          by_cases hz2 : b2 = 34
          ·
           as_aux_lemma =>
            have z : ((b2 : Int) == 34) = true := beq_iff_eq.mpr (by omega); rw [z]; have hi2 : wrap64 ((i : Int) + 2) = ((i + 2 : Nat) : Int) := plus (k := 2) (n := s.size) (by have := HL.out.1; omega) HS.out (by decide); have HE := in_skip H.out.1 HO.out 2 (by decide) (fun j hj => by rcases (show j = 0 ∨ j = 1 by omega) with rfl | rfl <;> first | (rw [hb0]; exact hz0) | (rw [hb1]; exact hz1)); have HB : bt s ((i + 2 : Nat) : Int) = 34 := by have := HO.out.bt 2 (by decide); rw [hb2, hz2] at this; exact this
            have HR2 : 4 * (s.size - (i + 2)) + 1 < r := rk1 HK.out (Nat.le_trans H.out.2 (Nat.le_add_right _ _)); go_wp2; refine wp_goto ?_; exact ⟨_, HR2, rfl, i + 2, s2, E, _, by first | exact Fr.mk | (rw [hi2]; exact Fr.mk), HE, .inl ⟨rfl, HB, rfl⟩⟩
          have z2 : ((b2 : Int) == 34) = false := beq_eq_false_iff_ne.mpr (by omega); rw [z2]; go_upto_if 138 with (fail)
          by_cases hz3 : b3 = 34
          ·
           as_aux_lemma =>
            have z : ((b3 : Int) == 34) = true := beq_iff_eq.mpr (by omega); rw [z]; have hi3 : wrap64 ((i : Int) + 3) = ((i + 3 : Nat) : Int) := plus (k := 3) (n := s.size) (by have := HL.out.1; omega) HS.out (by decide); have HE := in_skip H.out.1 HO.out 3 (by decide) (fun j hj => by rcases (show j = 0 ∨ j = 1 ∨ j = 2 by omega) with rfl | rfl | rfl <;> first | (rw [hb0]; exact hz0) | (rw [hb1]; exact hz1) | (rw [hb2]; exact hz2)); have HB : bt s ((i + 3 : Nat) : Int) = 34 := by have := HO.out.bt 3 (by decide); rw [hb3, hz3] at this; exact this
            have HR2 : 4 * (s.size - (i + 3)) + 1 < r := rk1 HK.out (Nat.le_trans H.out.2 (Nat.le_add_right _ _)); go_wp2; refine wp_goto ?_; exact ⟨_, HR2, rfl, i + 3, s2, E, _, by first | exact Fr.mk | (rw [hi3]; exact Fr.mk), HE, .inl ⟨rfl, HB, rfl⟩⟩
          have z3 : ((b3 : Int) == 34) = false := beq_eq_false_iff_ne.mpr (by omega); rw [z3]; go_upto_if 143 with (fail)
          by_cases hz4 : b4 = 34
          ·
           as_aux_lemma =>
            have z : ((b4 : Int) == 34) = true := beq_iff_eq.mpr (by omega); rw [z]; have hi4 : wrap64 ((i : Int) + 4) = ((i + 4 : Nat) : Int) := plus (k := 4) (n := s.size) (by have := HL.out.1; omega) HS.out (by decide); have HE := in_skip H.out.1 HO.out 4 (by decide) (fun j hj => by rcases (show j = 0 ∨ j = 1 ∨ j = 2 ∨ j = 3 by omega) with rfl | rfl | rfl | rfl <;> first | (rw [hb0]; exact hz0) | (rw [hb1]; exact hz1) | (rw [hb2]; exact hz2) | (rw [hb3]; exact hz3)); have HB : bt s ((i + 4 : Nat) : Int) = 34 := by have := HO.out.bt 4 (by decide); rw [hb4, hz4] at this; exact this
            have HR2 : 4 * (s.size - (i + 4)) + 1 < r := rk1 HK.out (Nat.le_trans H.out.2 (Nat.le_add_right _ _)); go_wp2; refine wp_goto ?_; exact ⟨_, HR2, rfl, i + 4, s2, E, _, by first | exact Fr.mk | (rw [hi4]; exact Fr.mk), HE, .inl ⟨rfl, HB, rfl⟩⟩
          have z4 : ((b4 : Int) == 34) = false := beq_eq_false_iff_ne.mpr (by omega); rw [z4]; go_upto_if 148 with (fail)
          by_cases hz5 : b5 = 34
          ·
           as_aux_lemma =>
            have z : ((b5 : Int) == 34) = true := beq_iff_eq.mpr (by omega); rw [z]; have hi5 : wrap64 ((i : Int) + 5) = ((i + 5 : Nat) : Int) := plus (k := 5) (n := s.size) (by have := HL.out.1; omega) HS.out (by decide); have HE := in_skip H.out.1 HO.out 5 (by decide) (fun j hj => by rcases (show j = 0 ∨ j = 1 ∨ j = 2 ∨ j = 3 ∨ j = 4 by omega) with rfl | rfl | rfl | rfl | rfl <;> first | (rw [hb0]; exact hz0) | (rw [hb1]; exact hz1) | (rw [hb2]; exact hz2) | (rw [hb3]; exact hz3) | (rw [hb4]; exact hz4)); have HB : bt s ((i + 5 : Nat) : Int) = 34 := by have := HO.out.bt 5 (by decide); rw [hb5, hz5] at this; exact this
            have HR2 : 4 * (s.size - (i + 5)) + 1 < r := rk1 HK.out (Nat.le_trans H.out.2 (Nat.le_add_right _ _)); go_wp2; refine wp_goto ?_; exact ⟨_, HR2, rfl, i + 5, s2, E, _, by first | exact Fr.mk | (rw [hi5]; exact Fr.mk), HE, .inl ⟨rfl, HB, rfl⟩⟩
          have z5 : ((b5 : Int) == 34) = false := beq_eq_false_iff_ne.mpr (by omega); rw [z5]; go_upto_if 153 with (fail)
          by_cases hz6 : b6 = 34
          ·
           as_aux_lemma =>
            have z : ((b6 : Int) == 34) = true := beq_iff_eq.mpr (by omega); rw [z]; have hi6 : wrap64 ((i : Int) + 6) = ((i + 6 : Nat) : Int) := plus (k := 6) (n := s.size) (by have := HL.out.1; omega) HS.out (by decide); have HE := in_skip H.out.1 HO.out 6 (by decide) (fun j hj => by rcases (show j = 0 ∨ j = 1 ∨ j = 2 ∨ j = 3 ∨ j = 4 ∨ j = 5 by omega) with rfl | rfl | rfl | rfl | rfl | rfl <;> first | (rw [hb0]; exact hz0) | (rw [hb1]; exact hz1) | (rw [hb2]; exact hz2) | (rw [hb3]; exact hz3) | (rw [hb4]; exact hz4) | (rw [hb5]; exact hz5)); have HB : bt s ((i + 6 : Nat) : Int) = 34 := by have := HO.out.bt 6 (by decide); rw [hb6, hz6] at this; exact this
            have HR2 : 4 * (s.size - (i + 6)) + 1 < r := rk1 HK.out (Nat.le_trans H.out.2 (Nat.le_add_right _ _)); go_wp2; refine wp_goto ?_; exact ⟨_, HR2, rfl, i + 6, s2, E, _, by first | exact Fr.mk | (rw [hi6]; exact Fr.mk), HE, .inl ⟨rfl, HB, rfl⟩⟩
          have z6 : ((b6 : Int) == 34) = false := beq_eq_false_iff_ne.mpr (by omega); rw [z6]; go_upto_if 158 with (fail)
          by_cases hz7 : b7 = 34
          ·
           as_aux_lemma =>
            have z : ((b7 : Int) == 34) = true := beq_iff_eq.mpr (by omega); rw [z]; have hi7 : wrap64 ((i : Int) + 7) = ((i + 7 : Nat) : Int) := plus (k := 7) (n := s.size) (by have := HL.out.1; omega) HS.out (by decide); have HE := in_skip H.out.1 HO.out 7 (by decide) (fun j hj => by rcases (show j = 0 ∨ j = 1 ∨ j = 2 ∨ j = 3 ∨ j = 4 ∨ j = 5 ∨ j = 6 by omega) with rfl | rfl | rfl | rfl | rfl | rfl | rfl <;> first | (rw [hb0]; exact hz0) | (rw [hb1]; exact hz1) | (rw [hb2]; exact hz2) | (rw [hb3]; exact hz3) | (rw [hb4]; exact hz4) | (rw [hb5]; exact hz5) | (rw [hb6]; exact hz6)); have HB : bt s ((i + 7 : Nat) : Int) = 34 := by have := HO.out.bt 7 (by decide); rw [hb7, hz7] at this; exact this
            have HR2 : 4 * (s.size - (i + 7)) + 1 < r := rk1 HK.out (Nat.le_trans H.out.2 (Nat.le_add_right _ _)); go_wp2; refine wp_goto ?_; exact ⟨_, HR2, rfl, i + 7, s2, E, _, by first | exact Fr.mk | (rw [hi7]; exact Fr.mk), HE, .inl ⟨rfl, HB, rfl⟩⟩
          have z7 : ((b7 : Int) == 34) = false := beq_eq_false_iff_ne.mpr (by omega); rw [z7]
          as_aux_lemma =>
           have p9 : wrap64 ((i : Int) + 8) = ((i + 8 : Nat) : Int) := by rw [p8, HL.out.2]
           have HE := in_skip H.out.1 HO.out 8 (by decide) (fun j hj => by rcases (show j = 0 ∨ j = 1 ∨ j = 2 ∨ j = 3 ∨ j = 4 ∨ j = 5 ∨ j = 6 ∨ j = 7 by omega) with rfl | rfl | rfl | rfl | rfl | rfl | rfl | rfl <;> first | (rw [hb0]; exact hz0) | (rw [hb1]; exact hz1) | (rw [hb2]; exact hz2) | (rw [hb3]; exact hz3) | (rw [hb4]; exact hz4) | (rw [hb5]; exact hz5) | (rw [hb6]; exact hz6) | (rw [hb7]; exact hz7)); go_wp2; go_roundw
           case rel => exact ⟨i + 8, by first | rfl | rw [p9] | rw [p8, HL.out.2], ⟨HE, by have := H.out.2; omega⟩, by first | rfl | trivial⟩
           case measure => first | exact sz_meas8 HL.out.1 | (rw [p9]; exact sz_meas8 HL.out.1) | (rw [p8, HL.out.2]; exact sz_meas8 HL.out.1)
         ·
          as_aux_lemma =>
           have y1 : decide ((i : Int) < (s.size : Int) - 8) = false := decide_eq_false (by omega); clear h8 hle; go_wp2; go_meet
           case rel => exact ⟨i, rfl, H, rfl⟩
       case rest =>
        as_aux_lemma =>
        clear HQ; obtain ⟨i, rfl, H, rfl⟩ := hcut; have HR2 : 4 * (s.size - i) + 1 < r := rk1 HK.out H.out.2; go_wp2; refine wp_goto ?_; exact ⟨_, HR2, rfl, i, s2, E, _, Fr.mk, H.out.1, .inr (.inr ⟨rfl, rfl⟩)⟩
     case e3 =>
      as_aux_lemma =>
       intro r a w2 hJ; obtain ⟨rfl, iq, s2, E, c, hF, hI, hl⟩ := hJ; have hl : r = 4 * (s.size - iq) + 1 := by rcases hl with ⟨h, _⟩ | ⟨h, _⟩ | ⟨_, h⟩ <;> first | exact h | (exact absurd h (by decide))
       have HQ := sd hI; have HK := sd hl; clear HP hI hl; obtain ⟨⟩ := hF; go_wp2; go_loopw [1] (fun x wc => ∃ i : Nat, x = .int .i64 (i : Int) ∧ Aside0 (InP (bytesOf s) R ih i0 dd s2 E i ∧ iq ≤ i) ∧ wc = w2) (fun x _ => s.size - (intOf x).toNat)
       case atStart => exact ⟨iq, rfl, ⟨HQ.out, Nat.le_refl _⟩, rfl⟩
       case round =>
        clear HQ; obtain ⟨i, rfl, H, rfl⟩ := hrel; have hlt : i < s.size := in_lt H.out.1; obtain ⟨x1, x2, x3, x4, x5, x6, x7, x8, x9, x10⟩ := str_facts hlt HS.out; obtain ⟨b, hb, hb2⟩ := bt_nat s (i : Int); have hx : ∀ h : i < s.size, (s[i]'h).toNat = b := fun h => by have := bt_c s i h; omega
        have HB : Aside0 (B (bytesOf s) i = (b : Int)) := ⟨by rw [B_bt, hb]⟩
        have HL := sd hlt; clear hlt x10 hb hb2
        by_cases hq : b = 34
        rotate_left
        ·
         as_aux_lemma =>
         have HN := sd hq; have z1 : ((b : Int) != 34) = true := bne_iff_ne.mpr (by omega); clear hq; have HM : InP (bytesOf s) R ih i0 dd s2 E (i + 1) := in_more H.out.1 (by rw [HB.out]; intro e; exact HN.out (Int.ofNat.inj e))
         by_cases hg : 92 < b
         ·have z2 : decide ((92 : Int) < (b : Int)) = true := decide_eq_true (by omega); go_wp2; go_roundw
          case rel => exact ⟨i + 1, by first | rfl | rw [x6], ⟨HM, Nat.le_succ_of_le H.out.2⟩, by first | rfl | trivial⟩
          case measure => first | exact sz_meas HL.out | (rw [x6]; exact sz_meas HL.out)
         ·have z2 : decide ((92 : Int) < (b : Int)) = false := decide_eq_false (by omega); go_wp2; go_roundw
          case rel => exact ⟨i + 1, by first | rfl | rw [x6], ⟨HM, Nat.le_succ_of_le H.out.2⟩, by first | rfl | trivial⟩
          case measure => first | exact sz_meas HL.out | (rw [x6]; exact sz_meas HL.out)
        ·
         as_aux_lemma =>
         have z1 : ((b : Int) != 34) = false := bne_eq_false_iff_eq.mpr (by omega); have z2 : decide ((92 : Int) < (b : Int)) = false := decide_eq_false (by omega); have H34 : Aside0 (B (bytesOf s) i = 34) := ⟨by rw [HB.out, hq]; rfl⟩
         obtain ⟨m, hm⟩ : ∃ m, m = i - 1 := ⟨_, rfl⟩
         have hm1 : m + 1 = i := by have := H.out.1.2.2; omega
         obtain ⟨y1, y2, y3, y4, y5, y6, y7, y8, y9, y10⟩ := str_facts (s := s) (j := m) (by have := HL.out; omega) HS.out; obtain ⟨bm, hbm, hbm2⟩ := bt_nat s (m : Int); have hy : ∀ h : m < s.size, (s[m]'h).toNat = bm := fun h => by have := bt_c s m h; omega
         have hw : wrap64 ((i : Int) - 1) = (m : Int) := by rw [Go.IntWalk.wrap64_in _ (by have := HS.out; have := HL.out; omega)]; omega
         have hw2 : wrap64 ((i : Int) + -1) = (m : Int) := by rw [Go.IntWalk.wrap64_in _ (by have := HS.out; have := HL.out; omega)]; omega
         have HBM : Aside0 (B (bytesOf s) m = (bm : Int)) := ⟨by rw [B_bt, hbm]⟩
         have HM := sd hm1; clear hm hm1 hbm hbm2 hq y6 y10
         by_cases hq2 : bm = 92
         rotate_left
         ·
          as_aux_lemma =>
           have z3 : ((bm : Int) == 92) = false := beq_eq_false_iff_ne.mpr (by omega); have hE : i = E := in_end H.out.1 H34.out (by rw [← HM.out, runB_ne (by rw [HBM.out]; omega)]); have HE := sd hE; clear hE hq2; go_wp2; refine jmp_normal ?_; go_wp2; refine jmp_normal ?_
           change _ ∧ _
           go_roundw
           case rel => exact ⟨i + 1, dd, by first | rfl | rw [x6], rfl, ⟨by rw [HE.out]; exact H.out.1.2.1, in_i0 H.out.1, in_d H.out.1⟩, by first | rfl | trivial⟩
           case measure => first | exact sz_measi HL.out (in_ih H.out.1) | (rw [x6]; exact sz_measi HL.out (in_ih H.out.1))
         ·
          as_aux_lemma =>
           have z3 : ((bm : Int) == 92) = true := beq_iff_eq.mpr (by omega); have hm2 := two_le H.out.1 HM.out (by rw [HBM.out, hq2]; rfl); obtain ⟨k0, hk0⟩ : ∃ k, k + 1 = m := ⟨m - 1, by omega⟩
           have hmi := HM.out; have hwk : wrap64 ((i : Int) - 2) = (k0 : Int) := by rw [Go.IntWalk.wrap64_in _ (by have := HS.out; have := HL.out; omega)]; omega
           have hwk2 : wrap64 ((i : Int) + -2) = (k0 : Int) := by rw [Go.IntWalk.wrap64_in _ (by have := HS.out; have := HL.out; omega)]; omega
           have h1s : 1 ≤ s2 := by have := H.out.1.2.2.2.2.1; omega
           have hsl : s2 ≤ s.size := by have := H.out.1.2.2.1; have := HL.out; omega
           obtain ⟨sm, hsm⟩ : ∃ sm, sm + 1 = s2 := ⟨s2 - 1, by omega⟩
           have hws : wrap64 ((s2 : Int) - 1) = (sm : Int) := by rw [Go.IntWalk.wrap64_in _ (by have := HS.out; omega)]; omega
           have hws2 : wrap64 ((s2 : Int) + -1) = (sm : Int) := by rw [Go.IntWalk.wrap64_in _ (by have := HS.out; omega)]; omega
           have HC0 : Aside0 (CntP (bytesOf s) s2 i 0 k0) := ⟨cnt_beg H.out.1 HM.out (by rw [HBM.out, hq2]; rfl) hk0⟩
           have HSM := sd (And.intro h1s hsm); clear hm2 hk0 hmi h1s hsl hsm hq2; go_upto_block 8 with (fail)
           go_cut [12, 13] (fun nn jj wc => ∃ n : Nat, nn = .int .i64 (n : Int) ∧ Aside0 (n + 1 = runB (bytesOf s) i) ∧ wc = wr)
           case first =>
            as_aux_lemma =>
            go_wp2; go_loopw [12, 13] (fun nn jj wc => ∃ n j : Nat, nn = .int .i64 (n : Int) ∧ jj = .int .i64 (j : Int) ∧ Aside0 (CntP (bytesOf s) s2 i n j) ∧ wc = wr) (fun _ j _ => (intOf j).toNat)
            case atStart => exact ⟨0, k0, rfl, by first | rfl | rw [hwk] | rw [hwk2], HC0, by first | rfl | trivial⟩
            case round =>
             clear HC0; obtain ⟨n, j, rfl, rfl, HC, rfl⟩ := hrel
             by_cases hj : sm < j
             ·have q1 : decide ((sm : Int) < (j : Int)) = true := decide_eq_true (by omega); have q2 : decide (sm < j) = true := decide_eq_true hj; obtain ⟨k, hk⟩ : ∃ k, k + 1 = j := ⟨j - 1, by omega⟩
              have hjs := cnt_lt HC.out HL.out; obtain ⟨v1, v2, v3, v4, v5, v6, v7, v8, v9, v10⟩ := str_facts hjs HS.out; obtain ⟨bj, hbj, hbj2⟩ := bt_nat s (j : Int); have hyj : ∀ h : j < s.size, (s[j]'h).toNat = bj := fun h => by have := bt_c s j h; omega
              have hwj : wrap64 ((j : Int) - 1) = (k : Int) := (dec1 hk hjs HS.out).1; have hwj2 : wrap64 ((j : Int) + -1) = (k : Int) := (dec1 hk hjs HS.out).2; have hwn : wrap64 ((n : Int) + 1) = ((n + 1 : Nat) : Int) := one64 (n := s.size) (cnt_n HC.out HL.out) HS.out; have HBJ : Aside0 (B (bytesOf s) j = (bj : Int)) := ⟨by rw [B_bt, hbj]⟩
              have HK2 := sd (And.intro hk hj); clear hk hjs hbj hbj2 v6 v10 hj
              by_cases hq3 : bj = 92
              ·have z4 : ((bj : Int) != 92) = false := bne_eq_false_iff_eq.mpr (by omega); have HD : CntP (bytesOf s) s2 i (n + 1) k := cnt_down HC.out HSM.out.1 HK2.out.1 (rk3 HSM.out.2 HK2.out.2) (by rw [HBJ.out, hq3]; rfl); clear hq3; go_wp2; go_roundw
               case rel => exact ⟨n + 1, k, by first | rfl | rw [hwn], by first | rfl | rw [hwj] | rw [hwj2], ⟨HD⟩, by first | rfl | trivial⟩
               case measure => first | exact rk4 HK2.out.1 | (rw [hwj]; exact rk4 HK2.out.1) | (rw [hwj2]; exact rk4 HK2.out.1)
              ·have z4 : ((bj : Int) != 92) = true := bne_iff_ne.mpr (by omega); have HD : n + 1 = runB (bytesOf s) i := cnt_ne HC.out (by rw [HBJ.out]; intro e; exact hq3 (Int.ofNat.inj e)); clear hq3; go_wp2; go_meet
               case rel => exact ⟨n, rfl, ⟨HD⟩, rfl⟩
             ·have q1 : decide ((sm : Int) < (j : Int)) = false := decide_eq_false (by omega); have q2 : decide (sm < j) = false := decide_eq_false hj; have HD : n + 1 = runB (bytesOf s) i := cnt_low HC.out HSM.out.1 (by have := HSM.out.2; omega) H.out.1.2.2.2.2.2.2.2; clear hj; go_wp2; go_meet
              case rel => exact ⟨n, rfl, ⟨HD⟩, rfl⟩
           case rest =>
            as_aux_lemma =>
            clear HC0; obtain ⟨n, rfl, HN, rfl⟩ := hcut
            by_cases hn : n % 2 = 0
            ·
             as_aux_lemma =>
              have r1 : Int.tmod (n : Int) 2 = 0 := tm0 hn; have HM2 : InP (bytesOf s) R ih i0 dd s2 E (i + 1) := in_more2 H.out.1 (rk5 HN.out hn); have HR2 : 4 * (s.size - (i + 1)) + 2 < r := rk2 HK.out H.out.2 HL.out; clear hn; go_wp2; refine wp_goto ?_; exact ⟨_, HR2, rfl, i + 1, s2, E, _, by first | exact Fr.mk | (rw [x6]; exact Fr.mk), HM2, .inr (.inl ⟨rfl, rfl⟩)⟩
            ·
             as_aux_lemma =>
              have r1 : Int.tmod (n : Int) 2 = 1 := tm1 hn; have hE : i = E := in_end H.out.1 H34.out (rk6 HN.out hn); have HE := sd hE; clear hE hn; go_wp2; refine jmp_normal ?_; go_wp2; refine jmp_normal ?_
              change _ ∧ _
              go_roundw
              case rel => exact ⟨i + 1, dd, by first | rfl | rw [x6], rfl, ⟨by rw [HE.out]; exact H.out.1.2.1, in_i0 H.out.1, in_d H.out.1⟩, by first | rfl | trivial⟩
              case measure => first | exact sz_measi HL.out (in_ih H.out.1) | (rw [x6]; exact sz_measi HL.out (in_ih H.out.1))
    ·
     as_aux_lemma =>
     have hz : ((vch b : Nat) : Int) = 3 := by omega
     rw [hz] at hF; clear hz hc hv; obtain ⟨⟩ := hF; have hd : wrap64 ((dd : Int) + 1) = ((dd + 1 : Nat) : Int) := one64 (n := s.size) (by have := H.out.2; have := HL.out; omega) HS.out; have hq : ((dd : Int) + 1 == 0) = false := beq_eq_false_iff_ne.mpr (by omega); have hq2 : (((dd + 1 : Nat) : Int) == 0) = false := beq_eq_false_iff_ne.mpr (by omega); go_wp2; refine jmp_normal ?_
     change _ ∧ _
     go_roundw
     case rel => exact ⟨i + 1, dd + 1, by first | rfl | rw [x6], by first | rfl | rw [hd], ⟨cq_open H.out.1 (by rw [HB.out]; omega), by have := H.out.2; omega, by have := H.out.2; omega⟩, by first | rfl | trivial⟩
     case measure => first | exact sz_measi HL.out H.out.2.2.1 | (rw [x6]; exact sz_measi HL.out H.out.2.2.1)
    ·
     as_aux_lemma =>
     have hz : ((vch b : Nat) : Int) = 1 := by omega
     rw [hz] at hF; clear hz hc hv; obtain ⟨⟩ := hF
     rcases cq_close H.out.1 (by rw [HB.out]; omega) with ⟨h1, hR⟩ | ⟨h1, hR⟩
     ·
      as_aux_lemma =>
       have hd : wrap64 ((dd : Int) + -1) = 0 := by rw [Go.IntWalk.wrap64_in _ (by omega)]; omega
       have x7 : wrap64 ((i : Int) + 1) = (R : Int) := by rw [x6, hR]
       clear x6; have y2 : ((0 ≤ (i0 : Int)) = True) := eq_true (by omega); have y3 : (((i0 : Int) ≤ (R : Int)) = True) := eq_true (by have := H.out.2; omega); have y4 : (((R : Int) ≤ (s.size : Int)) = True) := eq_true (by have := HL.out; omega); have y5 : ((i0 : Int).toNat = i0) := Int.toNat_natCast i0; have y6 : ((R : Int).toNat = R) := Int.toNat_natCast R; have y7 : ((i0 ≤ R) = True) := eq_true (by have := H.out.2; omega); have y8 : ((R ≤ s.size) = True) := eq_true (by have := HL.out; omega); clear hR h1; go_wp2; go_still (by kernel_rfl); go_wp2; refine jmp_ret ?_; go_wp2
       first | go_ret2 | go_ret3 | go_ret
       exact ⟨rfl, pw_below_drewN (Below.refl _ _) 1⟩
     ·
      as_aux_lemma =>
       obtain ⟨d2, hd2⟩ : ∃ d2, d2 = dd - 1 := ⟨_, rfl⟩
       have hd : wrap64 ((dd : Int) + -1) = (d2 : Int) := by rw [Go.IntWalk.wrap64_in _ (by have := H.out.2; have := HL.out; have := HS.out; omega)]; omega
       have hq : ((d2 : Int) == 0) = false := beq_eq_false_iff_ne.mpr (by omega); have hD : d2 ≤ i + 1 := by have := H.out.2; omega
       have HR2 := sd (And.intro hR hD); rw [← hd2] at HR2; clear hR h1 hd2 hD; go_wp2; refine jmp_normal ?_
       change _ ∧ _
       go_roundw
       case rel => exact ⟨i + 1, d2, by first | rfl | rw [x6], by first | rfl | rw [hd], ⟨HR2.out.1, by have := H.out.2; omega, HR2.out.2⟩, by first | rfl | trivial⟩
       case measure => first | exact sz_measi HL.out H.out.2.2.1 | (rw [x6]; exact sz_measi HL.out H.out.2.2.1)
  case first =>
   intro E0; have E1 := sd E0; clear E0
   as_aux_lemma =>
    have H : Aside0 (TokP (bytesOf s) R ih i0 d ih) := ⟨HR.out.1, HR.out.2.1, Nat.le_refl _, HR.out.2.2⟩
    clear HR; go_upto_block 2 with (fail)
    go_cut [1] (fun x wc => ∃ i : Nat, x = .int .i64 (i : Int) ∧ Aside0 (TokP (bytesOf s) R ih i0 d i) ∧ wc = wr)
    case first =>
     as_aux_lemma =>
     go_wp2; go_loopw [1] (fun x wc => ∃ i : Nat, x = .int .i64 (i : Int) ∧ Aside0 (TokP (bytesOf s) R ih i0 d i) ∧ wc = wr) (fun x _ => s.size - (intOf x).toNat)
     case atStart => exact ⟨ih, rfl, H, rfl⟩
     case round =>
      clear H; obtain ⟨i, rfl, H, rfl⟩ := hrel; have e8 := eight (i := i) HS.out; have hle : i ≤ s.size := by have := H.out.1.lt; rw [bytesOf_length] at this; omega
      by_cases h8 : i + 8 < s.size
      ·have y1 : decide ((i : Int) < (s.size : Int) - 8) = true := decide_eq_true (by omega); obtain ⟨j8, hj8⟩ : ∃ j8 : Nat, j8 = i + 8 := ⟨_, rfl⟩
       have p8 : wrap64 ((i : Int) + 8) = (j8 : Int) := by rw [hj8]; exact plus (k := 8) hle HS.out (by decide)
       obtain ⟨b, ho⟩ := oct_of s i (by omega); rw [← hj8] at ho; have HO := sd ho; have y2 : ((0 ≤ (i : Int)) = True) := eq_true (by omega); have y3 : (((i : Int) ≤ (j8 : Int)) = True) := eq_true (by omega); have y4 : (((j8 : Int) ≤ (s.size : Int)) = True) := eq_true (by omega); have y5 : ((i : Int).toNat = i) := Int.toNat_natCast i; have y6 : ((j8 : Int).toNat = j8) := Int.toNat_natCast j8; have y7 : ((i ≤ j8) = True) := eq_true (by omega); have y8 : ((j8 ≤ s.size) = True) := eq_true (by omega); have HL := sd (And.intro h8 hj8); clear h8 hj8 hle; have hsz := ho.sz; have ha0 := ho.at_ 0 (by decide); have hv0 := HT.out.ex _ (ho.lt 0 (by decide)); have hn0 : ((0 ≤ (b 0 : Int)) = True) := eq_true (by omega); have hm0 : (((b 0 : Int) < 256) = True) := eq_true (by have := ho.lt 0 (by decide); omega); have ha1 := ho.at_ 1 (by decide); have hv1 := HT.out.ex _ (ho.lt 1 (by decide))
       have hn1 : ((0 ≤ (b 1 : Int)) = True) := eq_true (by omega); have hm1 : (((b 1 : Int) < 256) = True) := eq_true (by have := ho.lt 1 (by decide); omega); have ha2 := ho.at_ 2 (by decide); have hv2 := HT.out.ex _ (ho.lt 2 (by decide)); have hn2 : ((0 ≤ (b 2 : Int)) = True) := eq_true (by omega); have hm2 : (((b 2 : Int) < 256) = True) := eq_true (by have := ho.lt 2 (by decide); omega); have ha3 := ho.at_ 3 (by decide); have hv3 := HT.out.ex _ (ho.lt 3 (by decide)); have hn3 : ((0 ≤ (b 3 : Int)) = True) := eq_true (by omega); have hm3 : (((b 3 : Int) < 256) = True) := eq_true (by have := ho.lt 3 (by decide); omega); have ha4 := ho.at_ 4 (by decide); have hv4 := HT.out.ex _ (ho.lt 4 (by decide)); have hn4 : ((0 ≤ (b 4 : Int)) = True) := eq_true (by omega); have hm4 : (((b 4 : Int) < 256) = True) := eq_true (by have := ho.lt 4 (by decide); omega); have ha5 := ho.at_ 5 (by decide)
       have hv5 := HT.out.ex _ (ho.lt 5 (by decide)); have hn5 : ((0 ≤ (b 5 : Int)) = True) := eq_true (by omega); have hm5 : (((b 5 : Int) < 256) = True) := eq_true (by have := ho.lt 5 (by decide); omega); have ha6 := ho.at_ 6 (by decide); have hv6 := HT.out.ex _ (ho.lt 6 (by decide)); have hn6 : ((0 ≤ (b 6 : Int)) = True) := eq_true (by omega); have hm6 : (((b 6 : Int) < 256) = True) := eq_true (by have := ho.lt 6 (by decide); omega); have ha7 := ho.at_ 7 (by decide); have hv7 := HT.out.ex _ (ho.lt 7 (by decide)); have hn7 : ((0 ≤ (b 7 : Int)) = True) := eq_true (by omega); have hm7 : (((b 7 : Int) < 256) = True) := eq_true (by have := ho.lt 7 (by decide); omega); generalize hb0 : b 0 = b0 at *; generalize hb1 : b 1 = b1 at *; generalize hb2 : b 2 = b2 at *; generalize hb3 : b 3 = b3 at *; generalize hb4 : b 4 = b4 at *; generalize hb5 : b 5 = b5 at *; generalize hb6 : b 6 = b6 at *
       generalize hb7 : b 7 = b7 at *; clear ho; go_upto_if 36 with (fail)
       by_cases hz0 : vch b0 = 0
       rotate_left
       ·
        as_aux_lemma =>
         have z : ((vch b0 : Int) != 0) = true := bne_iff_ne.mpr (by omega); rw [z]; have hi0 : wrap64 ((i : Int)) = (i : Int) := Go.IntWalk.wrap64_in _ (by have := HL.out.1; have := HS.out; omega); have HE := tok_skip H.out HO.out 0 (by decide) (fun j hj => absurd hj (Nat.not_lt_zero j)); have HB := HO.out.bt 0 (by decide); rw [hb0] at HB; go_wp2; refine wp_goto ?_; exact ⟨0, by decide, rfl, rfl, rfl, i, d, b0, _, by first | exact Fr.mk | (rw [hi0]; exact Fr.mk), HE, HB, hz0⟩
       have z0 : ((vch b0 : Int) != 0) = false := bne_eq_false_iff_eq.mpr (by omega); rw [z0]; go_upto_if 44 with (fail)
       by_cases hz1 : vch b1 = 0
       rotate_left
       ·
        as_aux_lemma =>
         have z : ((vch b1 : Int) != 0) = true := bne_iff_ne.mpr (by omega); rw [z]; have hi1 : wrap64 ((i : Int) + 1) = ((i + 1 : Nat) : Int) := plus (k := 1) (n := s.size) (by have := HL.out.1; omega) HS.out (by decide); have HE := tok_skip H.out HO.out 1 (by decide) (fun j hj => by rcases (show j = 0 by omega) with rfl <;> first | (rw [hb0]; exact hz0)); have HB := HO.out.bt 1 (by decide); rw [hb1] at HB; go_wp2; refine wp_goto ?_; exact ⟨0, by decide, rfl, rfl, rfl, i + 1, d, b1, _, by first | exact Fr.mk | (rw [hi1]; exact Fr.mk), HE, HB, hz1⟩
       have z1 : ((vch b1 : Int) != 0) = false := bne_eq_false_iff_eq.mpr (by omega); rw [z1]; go_upto_if 52 with (fail)
       by_cases hz2 : vch b2 = 0
       rotate_left
       ·
        as_aux_lemma =>
         have z : ((vch b2 : Int) != 0) = true := bne_iff_ne.mpr (by omega); rw [z]; have hi2 : wrap64 ((i : Int) + 2) = ((i + 2 : Nat) : Int) := plus (k := 2) (n := s.size) (by have := HL.out.1; omega) HS.out (by decide); have HE := tok_skip H.out HO.out 2 (by decide) (fun j hj => by rcases (show j = 0 ∨ j = 1 by omega) with rfl | rfl <;> first | (rw [hb0]; exact hz0) | (rw [hb1]; exact hz1)); have HB := HO.out.bt 2 (by decide); rw [hb2] at HB; go_wp2; refine wp_goto ?_; exact ⟨0, by decide, rfl, rfl, rfl, i + 2, d, b2, _, by first | exact Fr.mk | (rw [hi2]; exact Fr.mk), HE, HB, hz2⟩
       have z2 : ((vch b2 : Int) != 0) = false := bne_eq_false_iff_eq.mpr (by omega); rw [z2]; go_upto_if 60 with (fail)
       by_cases hz3 : vch b3 = 0
       rotate_left
       ·
        as_aux_lemma =>
         have z : ((vch b3 : Int) != 0) = true := bne_iff_ne.mpr (by omega); rw [z]; have hi3 : wrap64 ((i : Int) + 3) = ((i + 3 : Nat) : Int) := plus (k := 3) (n := s.size) (by have := HL.out.1; omega) HS.out (by decide); have HE := tok_skip H.out HO.out 3 (by decide) (fun j hj => by rcases (show j = 0 ∨ j = 1 ∨ j = 2 by omega) with rfl | rfl | rfl <;> first | (rw [hb0]; exact hz0) | (rw [hb1]; exact hz1) | (rw [hb2]; exact hz2)); have HB := HO.out.bt 3 (by decide); rw [hb3] at HB; go_wp2; refine wp_goto ?_; exact ⟨0, by decide, rfl, rfl, rfl, i + 3, d, b3, _, by first | exact Fr.mk | (rw [hi3]; exact Fr.mk), HE, HB, hz3⟩
       have z3 : ((vch b3 : Int) != 0) = false := bne_eq_false_iff_eq.mpr (by omega); rw [z3]; go_upto_if 68 with (fail)
       by_cases hz4 : vch b4 = 0
       rotate_left
       ·
        as_aux_lemma =>
         have z : ((vch b4 : Int) != 0) = true := bne_iff_ne.mpr (by omega); rw [z]; have hi4 : wrap64 ((i : Int) + 4) = ((i + 4 : Nat) : Int) := plus (k := 4) (n := s.size) (by have := HL.out.1; omega) HS.out (by decide); have HE := tok_skip H.out HO.out 4 (by decide) (fun j hj => by rcases (show j = 0 ∨ j = 1 ∨ j = 2 ∨ j = 3 by omega) with rfl | rfl | rfl | rfl <;> first | (rw [hb0]; exact hz0) | (rw [hb1]; exact hz1) | (rw [hb2]; exact hz2) | (rw [hb3]; exact hz3)); have HB := HO.out.bt 4 (by decide); rw [hb4] at HB; go_wp2; refine wp_goto ?_; exact ⟨0, by decide, rfl, rfl, rfl, i + 4, d, b4, _, by first | exact Fr.mk | (rw [hi4]; exact Fr.mk), HE, HB, hz4⟩
       have z4 : ((vch b4 : Int) != 0) = false := bne_eq_false_iff_eq.mpr (by omega); rw [z4]; go_upto_if 76 with (fail)
       by_cases hz5 : vch b5 = 0
       rotate_left
       ·
        as_aux_lemma =>
         have z : ((vch b5 : Int) != 0) = true := bne_iff_ne.mpr (by omega); rw [z]; have hi5 : wrap64 ((i : Int) + 5) = ((i + 5 : Nat) : Int) := plus (k := 5) (n := s.size) (by have := HL.out.1; omega) HS.out (by decide); have HE := tok_skip H.out HO.out 5 (by decide) (fun j hj => by rcases (show j = 0 ∨ j = 1 ∨ j = 2 ∨ j = 3 ∨ j = 4 by omega) with rfl | rfl | rfl | rfl | rfl <;> first | (rw [hb0]; exact hz0) | (rw [hb1]; exact hz1) | (rw [hb2]; exact hz2) | (rw [hb3]; exact hz3) | (rw [hb4]; exact hz4)); have HB := HO.out.bt 5 (by decide); rw [hb5] at HB; go_wp2; refine wp_goto ?_; exact ⟨0, by decide, rfl, rfl, rfl, i + 5, d, b5, _, by first | exact Fr.mk | (rw [hi5]; exact Fr.mk), HE, HB, hz5⟩
       have z5 : ((vch b5 : Int) != 0) = false := bne_eq_false_iff_eq.mpr (by omega); rw [z5]; go_upto_if 84 with (fail)
       by_cases hz6 : vch b6 = 0
       rotate_left
       ·
        as_aux_lemma =>
         have z : ((vch b6 : Int) != 0) = true := bne_iff_ne.mpr (by omega); rw [z]; have hi6 : wrap64 ((i : Int) + 6) = ((i + 6 : Nat) : Int) := plus (k := 6) (n := s.size) (by have := HL.out.1; omega) HS.out (by decide); have HE := tok_skip H.out HO.out 6 (by decide) (fun j hj => by rcases (show j = 0 ∨ j = 1 ∨ j = 2 ∨ j = 3 ∨ j = 4 ∨ j = 5 by omega) with rfl | rfl | rfl | rfl | rfl | rfl <;> first | (rw [hb0]; exact hz0) | (rw [hb1]; exact hz1) | (rw [hb2]; exact hz2) | (rw [hb3]; exact hz3) | (rw [hb4]; exact hz4) | (rw [hb5]; exact hz5)); have HB := HO.out.bt 6 (by decide); rw [hb6] at HB; go_wp2; refine wp_goto ?_; exact ⟨0, by decide, rfl, rfl, rfl, i + 6, d, b6, _, by first | exact Fr.mk | (rw [hi6]; exact Fr.mk), HE, HB, hz6⟩
       have z6 : ((vch b6 : Int) != 0) = false := bne_eq_false_iff_eq.mpr (by omega); rw [z6]; go_upto_if 92 with (fail)
       by_cases hz7 : vch b7 = 0
       rotate_left
       ·
        as_aux_lemma =>
         have z : ((vch b7 : Int) != 0) = true := bne_iff_ne.mpr (by omega); rw [z]; have hi7 : wrap64 ((i : Int) + 7) = ((i + 7 : Nat) : Int) := plus (k := 7) (n := s.size) (by have := HL.out.1; omega) HS.out (by decide); have HE := tok_skip H.out HO.out 7 (by decide) (fun j hj => by rcases (show j = 0 ∨ j = 1 ∨ j = 2 ∨ j = 3 ∨ j = 4 ∨ j = 5 ∨ j = 6 by omega) with rfl | rfl | rfl | rfl | rfl | rfl | rfl <;> first | (rw [hb0]; exact hz0) | (rw [hb1]; exact hz1) | (rw [hb2]; exact hz2) | (rw [hb3]; exact hz3) | (rw [hb4]; exact hz4) | (rw [hb5]; exact hz5) | (rw [hb6]; exact hz6)); have HB := HO.out.bt 7 (by decide); rw [hb7] at HB; go_wp2; refine wp_goto ?_; exact ⟨0, by decide, rfl, rfl, rfl, i + 7, d, b7, _, by first | exact Fr.mk | (rw [hi7]; exact Fr.mk), HE, HB, hz7⟩
       have z7 : ((vch b7 : Int) != 0) = false := bne_eq_false_iff_eq.mpr (by omega); rw [z7]
       as_aux_lemma =>
        have p9 : wrap64 ((i : Int) + 8) = ((i + 8 : Nat) : Int) := by rw [p8, HL.out.2]
        have HE := tok_skip H.out HO.out 8 (by decide) (fun j hj => by rcases (show j = 0 ∨ j = 1 ∨ j = 2 ∨ j = 3 ∨ j = 4 ∨ j = 5 ∨ j = 6 ∨ j = 7 by omega) with rfl | rfl | rfl | rfl | rfl | rfl | rfl | rfl <;> first | (rw [hb0]; exact hz0) | (rw [hb1]; exact hz1) | (rw [hb2]; exact hz2) | (rw [hb3]; exact hz3) | (rw [hb4]; exact hz4) | (rw [hb5]; exact hz5) | (rw [hb6]; exact hz6) | (rw [hb7]; exact hz7)); go_wp2; go_roundw
        case rel => exact ⟨i + 8, by first | rfl | rw [p9] | rw [p8, HL.out.2], ⟨HE⟩, by first | rfl | trivial⟩
        case measure => first | exact sz_meas8 HL.out.1 | (rw [p9]; exact sz_meas8 HL.out.1) | (rw [p8, HL.out.2]; exact sz_meas8 HL.out.1)
      ·
       as_aux_lemma =>
        have y1 : decide ((i : Int) < (s.size : Int) - 8) = false := decide_eq_false (by omega); clear h8 hle; go_wp2; go_meet
        case rel => exact ⟨i, rfl, H, rfl⟩
    case rest =>
     as_aux_lemma =>
     clear H; obtain ⟨i, rfl, H, rfl⟩ := hcut; obtain ⟨b, hb, hb2⟩ := bt_nat s (i : Int); have hlt : i < s.size := by have := H.out.1.lt; rwa [bytesOf_length] at this
     obtain ⟨x1, x2, x3, x4, x5, x6, x7, x8, x9, x10⟩ := str_facts hlt HS.out; have hx : ∀ h : i < s.size, (s[i]'h).toNat = b := fun h => by have := bt_c s i h; omega
     have hv := HT.out.ex b hb2; have HL := sd hlt; clear hlt x10
     by_cases hz : vch b = 0
     ·
      as_aux_lemma =>
       have z : ((vch b : Int) == 0) = true := beq_iff_eq.mpr (by omega); go_wp2; refine jmp_exit ?_; have HE : TokP (bytesOf s) R ih i0 d (i + 1) := ⟨cq_plain H.out.1 (by rw [B_bt, hb]; exact vch_pl hz), by have := H.out.2; omega, by have := H.out.2; omega, by have := H.out.2; omega⟩
       change _ ∧ _
       go_roundw
       case rel => exact ⟨i + 1, d, by first | rfl | rw [x6], rfl, ⟨HE.1, HE.2.1, HE.2.2.2⟩, by first | rfl | trivial⟩
       case measure => first | exact sz_measi HL.out H.out.2.2.1 | (rw [x6]; exact sz_measi HL.out H.out.2.2.1)
     ·
      as_aux_lemma =>
       have z : ((vch b : Int) == 0) = false := beq_eq_false_iff_ne.mpr (by omega); go_upto_region 36 with (fail)
       refine wp_label ?_; simp only [Exit.then]
       apply_assumption
       exact E1.out _ _ ⟨rfl, i, d, b, _, Fr.mk, H.out, hb, hz⟩
end Go.Proofs.YtdacgdjjdifneaaGreatDoor.PFnGjFlattenOften
