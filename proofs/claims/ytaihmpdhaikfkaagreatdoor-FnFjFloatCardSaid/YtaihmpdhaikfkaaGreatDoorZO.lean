/- Part of the proof that laws.FnFjFloat answers true for every input (the card: text ZF). -/
import Derived.Test.YtaihmpdhaikfkaaGreatDoorZB
import Derived.Test.YtaihmpdhaikfkaaGreatDoorV2
import Derived.Test.YtaihmpdhaikfkaaGreatDoorZJ
import Derived.Test.YtaihmpdhaikfkaaGreatDoorV8
import Derived.Test.YtaihmpdhaikfkaaGreatDoorZN
set_option linter.all false
/- The reference's guards on a text, UTF-8 and pairs of surrogates, always answer. -/
namespace Go.Proofs.YtaihmpdhaikfkaaGreatDoor.PFnFjFloat
open Go.RowKit Go.Proofs.YtaihmpdhaikfkaaGreatDoorW.PrintWords Go.Proofs.YtaihmpdhaikfkaaGreatDoorW.PrintLast Go.Proofs.YtaihmpdhaikfkaaGreatDoorW.PrintMore
theorem high_tot (n : Int) : ∃ b, spec_high.f n = some b := by unfold spec_high.f; split <;> exact ⟨_, rfl⟩
theorem low_tot (n : Int) : ∃ b, spec_low.f n = some b := by unfold spec_low.f; split <;> exact ⟨_, rfl⟩
theorem char_l0 (a : ByteArray) (hn : a.size ≤ 65536) (i more : Nat) (least : Int) (hm : more ≤ 3) (hi : i + more < a.size) : ∀ (m k j : Nat) (c : Int), j + m = more + 1 → m + 1 ≤ k →
  ∃ r n ok, spec_Character.l0 k a (i : Int) c (more : Int) least (j : Int) = some (r, n, ok) ∧ (ok = true → n = ((more + 1 : Nat) : Int)) := by
 intro m
 induction m with
 | zero =>
  intro k j c hj hk
  obtain ⟨k, rfl⟩ : ∃ m, k = m + 1 := ⟨k - 1, by omega⟩
  simp only [spec_Character.l0]
  rw [if_neg (by omega)]
  split
  ·exact ⟨_, _, _, rfl, fun h => by cases h⟩
  split
  ·exact ⟨_, _, _, rfl, fun h => by cases h⟩
  obtain ⟨b, hb⟩ := high_tot c
  obtain ⟨b2, hb2⟩ := low_tot c
  rw [hb, Option.bind_some]
  split
  ·exact ⟨_, _, _, rfl, fun h => by cases h⟩
  rw [hb2, Option.bind_some]
  split
  ·exact ⟨_, _, _, rfl, fun h => by cases h⟩
  ·exact ⟨_, _, _, rfl, fun _ => w64_1 (by omega)⟩
 | succ m ih =>
  intro k j c hj hk
  obtain ⟨k, rfl⟩ : ∃ m, k = m + 1 := ⟨k - 1, by omega⟩
  simp only [spec_Character.l0]
  rw [if_pos (by omega), w64s (n := i) (m := j) (by omega), if_pos (by omega), if_pos (by omega), w64_1 (n := j) (by omega)]
  split
  ·exact ⟨_, _, _, rfl, fun h => by cases h⟩
  split
  ·exact ⟨_, _, _, rfl, fun h => by cases h⟩
  exact ih k (j + 1) _ (by omega) (by omega)
theorem char_j2 (a : ByteArray) (hn : a.size ≤ 65536) (i more : Nat) (c least : Int) (hm : more ≤ 3) (hi : i < a.size) (k : Nat) (hk : 10 ≤ k) : ∃ r n ok, spec_Character.j2 k a (i : Int) c (more : Int) least = some (r, n, ok) ∧ (ok = true → n = ((more + 1 : Nat) : Int)) := by
 obtain ⟨k, rfl⟩ : ∃ m, k = m + 1 := ⟨k - 1, by omega⟩
 simp only [spec_Character.j2]
 rw [Go.IntWalk.wrap64_in _ (by omega)]
 split
 ·exact ⟨_, _, _, rfl, fun h => by cases h⟩
 ·exact char_l0 a hn i more least hm (by omega) more k 1 c (by omega) (by omega)
theorem char_f (a : ByteArray) (hn : a.size ≤ 65536) (i : Nat) (hi : i < a.size) (k : Nat) (hk : 20 ≤ k) : ∃ r n ok, spec_Character.f k a (i : Int) = some (r, n, ok) ∧ (ok = true → ∃ m : Nat, n = (m : Int) ∧ 1 ≤ m ∧ m ≤ 4) := by
 obtain ⟨k, rfl⟩ : ∃ m, k = m + 2 := ⟨k - 2, by omega⟩
 have fin : ∀ (g : Option (Int × Int × Bool)) (more : Nat), more ≤ 3 → (∃ r n ok, g = some (r, n, ok) ∧ (ok = true → n = ((more + 1 : Nat) : Int))) → ∃ r n ok, g = some (r, n, ok) ∧ (ok = true → ∃ m : Nat, n = (m : Int) ∧ 1 ≤ m ∧ m ≤ 4) :=
  fun g more hm ⟨r, n, ok, h1, h2⟩ => ⟨r, n, ok, h1, fun h => ⟨more + 1, h2 h, by omega, by omega⟩⟩
 have j1 : ∀ (c : Int) (b : Bool), ∃ r n ok, spec_Character.j1 (k + 1) a (i : Int) c b = some (r, n, ok) ∧ (ok = true → ∃ m : Nat, n = (m : Int) ∧ 1 ≤ m ∧ m ≤ 4) := by
  intro c b
  simp only [spec_Character.j1]
  split
  ·exact fin _ 2 (by decide) (char_j2 a hn i 2 _ 2048 (by decide) hi k (by omega))
  split
  ·split
   ·exact fin _ 3 (by decide) (char_j2 a hn i 3 _ 65536 (by decide) hi k (by omega))
   ·exact ⟨_, _, _, rfl, fun h => by cases h⟩
  ·exact ⟨_, _, _, rfl, fun h => by cases h⟩
 have j0 : ∀ (c : Int) (b : Bool), ∃ r n ok, spec_Character.j0 (k + 2) a (i : Int) c b = some (r, n, ok) ∧ (ok = true → ∃ m : Nat, n = (m : Int) ∧ 1 ≤ m ∧ m ≤ 4) := by
  intro c b
  simp only [spec_Character.j0]
  split
  ·exact fin _ 1 (by decide) (char_j2 a hn i 1 _ 128 (by decide) hi (k + 1) (by omega))
  split
  ·exact j1 _ _
  ·exact j1 _ _
 unfold spec_Character.f
 rw [if_pos (by omega), if_pos (by omega)]
 split
 ·exact ⟨_, _, _, rfl, fun _ => ⟨1, rfl, by decide, by decide⟩⟩
 split
 ·exact j0 _ _
 ·exact j0 _ _
theorem utf8_l0 (a : ByteArray) (hn : a.size ≤ 65536) : ∀ (m i k : Nat), a.size + 4 - i ≤ m → i ≤ a.size + 3 → m + 30 ≤ k → ∃ b, spec_UTF8.l0 k a (i : Int) = some b := by
 intro m
 induction m with
 | zero => intro i k h1 h2; omega
 | succ m ih =>
  intro i k h1 h2 hk
  obtain ⟨k, rfl⟩ : ∃ m, k = m + 1 := ⟨k - 1, by omega⟩
  simp only [spec_UTF8.l0]
  by_cases hlt : i < a.size
  ·rw [if_pos (by omega)]
   obtain ⟨r, n, ok, hc, hok⟩ := char_f a hn i hlt k (by omega)
   rw [hc, Option.bind_some]
   dsimp only
   split
   ·rename_i h
    obtain ⟨q, rfl, h3, h4⟩ := hok h
    rw [w64s (n := i) (m := q) (by omega)]
    exact ih (i + q) k (by omega) (by omega) (by omega)
   ·exact ⟨_, rfl⟩
  ·rw [if_neg (by omega)]
   exact ⟨_, rfl⟩
theorem utf8_tot (a : ByteArray) (hn : a.size ≤ 65536) (k : Nat) (hk : 100000 ≤ k) : ∃ b, spec_UTF8.f k a = some b := by
 unfold spec_UTF8.f
 exact utf8_l0 a hn (a.size + 4) 0 k (by omega) (by omega) (by omega)
theorem unit_l0 (a : ByteArray) (hn : a.size ≤ 65536) (i : Nat) (hi : i + 6 ≤ a.size) : ∀ (m k j : Nat) (v : Int), j + m = i + 6 → m + 4 ≤ k → ∃ n ok, spec_unit.l0 k a (i : Int) v (j : Int) = some (n, ok) := by
 intro m
 induction m with
 | zero =>
  intro k j v hj hk
  obtain ⟨k, rfl⟩ : ∃ m, k = m + 1 := ⟨k - 1, by omega⟩
  simp only [spec_unit.l0]
  rw [show wrap64 ((i : Int) + 6) = ((i + 6 : Nat) : Int) from w64s (m := 6) (by omega), if_neg (by omega)]
  exact ⟨_, _, rfl⟩
 | succ m ih =>
  intro k j v hj hk
  obtain ⟨k, rfl⟩ : ∃ m, k = m + 1 := ⟨k - 1, by omega⟩
  simp only [spec_unit.l0]
  obtain ⟨x, hx, _⟩ := hexDigit_f k (by omega) (bt a (j : Int)) (bt_range a _).1 (bt_range a _).2
  rw [show wrap64 ((i : Int) + 6) = ((i + 6 : Nat) : Int) from w64s (m := 6) (by omega), if_pos (by omega), if_pos (by omega), if_pos (by omega), hx, Option.bind_some, w64_1 (n := j) (by omega)]
  split
  ·exact ih k (j + 1) _ (by omega) (by omega)
  ·exact ⟨_, _, rfl⟩
theorem unit_tot (a : ByteArray) (hn : a.size ≤ 65536) (i : Nat) (hi : i ≤ a.size + 20) (k : Nat) (hk : 20 ≤ k) : ∃ n ok, spec_unit.f k a (i : Int) = some (n, ok) := by
 obtain ⟨k, rfl⟩ : ∃ m, k = m + 1 := ⟨k - 1, by omega⟩
 unfold spec_unit.f
 rw [Go.IntWalk.wrap64_in _ (by omega)]
 have j0 : i + 6 ≤ a.size → ∀ b, ∃ n ok, spec_unit.j0 (k + 1) a (i : Int) b = some (n, ok) := by
  intro h6 b
  simp only [spec_unit.j0]
  split
  ·exact ⟨_, _, rfl⟩
  ·rw [show wrap64 ((i : Int) + 2) = ((i + 2 : Nat) : Int) from w64s (m := 2) (by omega)]
   exact unit_l0 a hn i h6 4 k (i + 2) 0 (by omega) (by omega)
 by_cases h : (a.size : Int) - (i : Int) < 6
 ·rw [if_pos h]
  simp only [spec_unit.j0]
  rw [if_pos trivial]
  exact ⟨_, _, rfl⟩
 ·rw [if_neg h, if_pos (by omega), if_pos (by omega), w64_1 (by omega)]
  split
  ·rw [if_pos (by omega), if_pos (by omega)]
   exact j0 (by omega) _
  ·exact j0 (by omega) _
theorem paired_l0 (a : ByteArray) (hn : a.size ≤ 65536) : ∀ (m i k : Nat), a.size + 12 - i ≤ m → i ≤ a.size + 11 → m + 30 ≤ k → ∃ b, spec_Paired.l0 k a (i : Int) = some b := by
 intro m
 induction m with
 | zero => intro i k h1 h2; omega
 | succ m ih =>
  intro i k h1 h2 hk
  obtain ⟨k, rfl⟩ : ∃ m, k = m + 1 := ⟨k - 1, by omega⟩
  simp only [spec_Paired.l0]
  by_cases hlt : i < a.size
  ·rw [if_pos (by omega), if_pos (by omega)]
   obtain ⟨n, ok, hu⟩ := unit_tot a hn i (by omega) k (by omega)
   obtain ⟨n2, ok2, hu2⟩ := unit_tot a hn (i + 6) (by omega) k (by omega)
   obtain ⟨b1, hb1⟩ := high_tot n
   obtain ⟨b2, hb2⟩ := low_tot n
   obtain ⟨b3, hb3⟩ := low_tot n2
   have w1 := w64_1 (n := i) (by omega)
   have w2 : wrap64 ((i : Int) + 2) = ((i + 2 : Nat) : Int) := w64s (m := 2) (by omega)
   have w6 : wrap64 ((i : Int) + 6) = ((i + 6 : Nat) : Int) := w64s (m := 6) (by omega)
   have w12 : wrap64 ((i : Int) + 12) = ((i + 12 : Nat) : Int) := w64s (m := 12) (by omega)
   have i1 := ih (i + 1) k (by omega) (by omega) (by omega)
   have i2 := ih (i + 2) k (by omega) (by omega) (by omega)
   have i6 := ih (i + 6) k (by omega) (by omega) (by omega)
   have i12 := ih (i + 12) k (by omega) (by omega) (by omega)
   rw [w1, w2, w6, w12, hu, hu2]
   simp only [Option.bind_some, hb1, hb2, hb3]
   repeat' split
   all_goals first | exact i1 | exact i2 | exact i6 | exact i12 | exact ⟨_, rfl⟩
  ·rw [if_neg (by omega)]
   exact ⟨_, rfl⟩
theorem paired_tot (a : ByteArray) (hn : a.size ≤ 65536) (k : Nat) (hk : 100000 ≤ k) : ∃ b, spec_Paired.f k a = some b := by
 unfold spec_Paired.f
 exact paired_l0 a hn (a.size + 12) 0 k (by omega) (by omega) (by omega)
theorem utf8_len3 (r : Int) (h : r ≤ 65535) : (utf8 r).length ≤ 3 := by
 unfold utf8
 repeat' split
 all_goals simp
 omega
theorem un_len {s u : List Int} (h : Un s u) : u.length ≤ s.length := by
 induction h with
 | nil => simp
 | chr c s u _ _ _ _ _ ih => simp; omega
 | esc e s u _ _ ih => simp; omega
 | uni a b c d s u ha hb hc hd _ _ ih =>
  have := utf8_len3 (hex4 a b c d) (hex4_range ha hb hc hd).2
  simp only [List.length_append, List.length_cons]; omega
 | pair a b c d a' b' c' d' s u _ _ _ _ _ _ _ _ _ _ _ ih =>
  have := utf8_len (pairR (hex4 a b c d) (hex4 a' b' c' d'))
  simp only [List.length_append, List.length_cons]; omega
theorem name_len {t : List Int} {n : S90} {u : List Int} (h : NameAt t n u) : u.length ≤ t.length := by
 obtain ⟨b, s, r, _, hd, hu⟩ := h
 have h1 := un_len hu
 have h2 := congrArg List.length hd
 simp only [List.length_drop, List.length_cons, List.length_append] at h2
 omega
/-- 'Depth' answers for a node. -/
def DepOk (n : S25) : Prop := ∃ K d, ∀ k, K ≤ k → spec_Depth.f k n.f0 n.f1 n.f2 n.f3 = some d
theorem eta25 (n : S25) : (⟨n.f0, n.f1, n.f2, n.f3⟩ : S25) = n := by cases n; rfl
theorem rd25 {l : List S25} {i : Nat} {p : S25} {r : List S25} (h : l.drop i = p :: r) : rd_T25 l (i : Int) = p := by
 have hl := drop_lt h
 rw [List.drop_eq_getElem_cons hl] at h
 unfold rd_T25
 rw [Int.toNat_natCast, List.getD_eq_getElem?_getD, List.getElem?_eq_getElem hl]
 exact (List.cons.inj h).1
theorem rd60 {l : List S60} {i : Nat} {p : S60} {r : List S60} (h : l.drop i = p :: r) : rd_T60 l (i : Int) = p := by
 have hl := drop_lt h
 rw [List.drop_eq_getElem_cons hl] at h
 unfold rd_T60
 rw [Int.toNat_natCast, List.getD_eq_getElem?_getD, List.getElem?_eq_getElem hl]
 exact (List.cons.inj h).1
theorem rd90 {l : List S90} {i : Nat} {p : S90} {r : List S90} (h : l.drop i = p :: r) : rd_T90 l (i : Int) = p := by
 have hl := drop_lt h
 rw [List.drop_eq_getElem_cons hl] at h
 unfold rd_T90
 rw [Int.toNat_natCast, List.getD_eq_getElem?_getD, List.getElem?_eq_getElem hl]
 exact (List.cons.inj h).1
theorem dep_l0 (f0 : Int) (f1 : ByteArray) (f2 : List ByteArray) (f3 : List S25) (hl : f3.length ≤ 100000) : ∀ (s : List S25) (i : Nat), f3.drop i = s → (∀ n ∈ s, DepOk n) → ∀ v : Int, ∃ K d, ∀ k, K ≤ k → spec_Depth.l0 k v (i : Int) f0 f1 f2 f3 = some d := by
 intro s
 induction s with
 | nil =>
  intro i hs _ v
  have hi : f3.length ≤ i := List.drop_eq_nil_iff.mp hs
  refine ⟨1, wrap64 (v + 1), fun k hk => ?_⟩
  obtain ⟨k, rfl⟩ : ∃ m, k = m + 1 := ⟨k - 1, by omega⟩
  simp only [spec_Depth.l0]
  rw [if_neg (by omega)]
 | cons n s ih =>
  intro i hs hall v
  have hlt := drop_lt hs
  obtain ⟨K1, d1, h1⟩ := hall n List.mem_cons_self
  obtain ⟨K2, d2, h2⟩ := ih (i + 1) (drop_next hs) (fun x hx => hall x (List.mem_cons_of_mem _ hx)) (mx v d1)
  refine ⟨K1 + K2 + 1, d2, fun k hk => ?_⟩
  obtain ⟨k, rfl⟩ : ∃ m, k = m + 1 := ⟨k - 1, by omega⟩
  simp only [spec_Depth.l0]
  rw [if_pos (by omega), if_pos (by omega), rd25 hs, h1 k (by omega), Option.bind_some, w64_1 (by omega)]
  exact h2 k (by omega)
theorem dep_of (n : S25) (hl : n.f3.length ≤ 100000) (h : ∀ x ∈ n.f3, DepOk x) : DepOk n := by
 obtain ⟨K, d, hd⟩ := dep_l0 n.f0 n.f1 n.f2 n.f3 hl n.f3 0 rfl h 0
 have j0 : ∀ b : Bool, ∃ d, ∀ k, K + 1 ≤ k → spec_Depth.j0 k b n.f0 n.f1 n.f2 n.f3 = some d := by
  intro b
  cases b with
  | true =>
   refine ⟨0, fun k hk => ?_⟩
   obtain ⟨k, rfl⟩ : ∃ m, k = m + 1 := ⟨k - 1, by omega⟩
   simp only [spec_Depth.j0]
   rw [if_pos trivial]
  | false =>
   refine ⟨d, fun k hk => ?_⟩
   obtain ⟨k, rfl⟩ : ∃ m, k = m + 1 := ⟨k - 1, by omega⟩
   simp only [spec_Depth.j0]
   rw [if_neg (by decide)]
   exact hd k (by omega)
 by_cases h5 : n.f0 = 5
 ·obtain ⟨d', hd'⟩ := j0 false
  refine ⟨K + 2, d', fun k hk => ?_⟩
  obtain ⟨k, rfl⟩ : ∃ m, k = m + 1 := ⟨k - 1, by omega⟩
  simp only [spec_Depth.f]
  rw [if_pos h5]
  exact hd' k (by omega)
 ·obtain ⟨d', hd'⟩ := j0 (n.f0 != 6)
  refine ⟨K + 2, d', fun k hk => ?_⟩
  obtain ⟨k, rfl⟩ : ∃ m, k = m + 1 := ⟨k - 1, by omega⟩
  simp only [spec_Depth.f]
  rw [if_neg h5]
  exact hd' k (by omega)
/-- 'Tree' answers for a place. -/
def TreeOk (a : ByteArray) (p : S60) : Prop := ∃ K, ∃ n : S25, (∀ k, K ≤ k → spec_Tree.f k a p.f0 p.f1 p.f2 p.f3 p.f4 = some (n.f0, n.f1, n.f2, n.f3)) ∧ DepOk n ∧ n.f0 = p.f0 ∧ n.f1.size ≤ 65536 ∧ (p.f0 = 3 → n.f1 = a.extract p.f1.toNat p.f2.toNat)
theorem tree_l1 (a : ByteArray) (p : S60) (f0 : Int) (f1 : ByteArray) (f2 : List ByteArray) (hl : p.f4.length ≤ 65536) : ∀ (s : List S60) (i : Nat), p.f4.drop i = s → (∀ q ∈ s, TreeOk a q) → ∀ acc : List S25, acc.length ≤ i → (∀ n ∈ acc, DepOk n) →
  ∃ K out, (∀ k, K ≤ k → spec_Tree.l1 k a (i : Int) p.f0 p.f1 p.f2 p.f3 p.f4 f0 f1 f2 acc = some (f0, f1, f2, out)) ∧ (∀ n ∈ out, DepOk n) ∧ out.length ≤ i + s.length := by
 intro s
 induction s with
 | nil =>
  intro i hs _ acc hacc hd
  have hi : p.f4.length ≤ i := List.drop_eq_nil_iff.mp hs
  refine ⟨1, acc, fun k hk => ?_, hd, by simpa using hacc⟩
  obtain ⟨k, rfl⟩ : ∃ m, k = m + 1 := ⟨k - 1, by omega⟩
  simp only [spec_Tree.l1]
  rw [if_neg (by omega)]
 | cons q s ih =>
  intro i hs hall acc hacc hd
  have hlt := drop_lt hs
  obtain ⟨K1, n, h1, h2, _⟩ := hall q List.mem_cons_self
  obtain ⟨K2, out, g1, g2, g3⟩ := ih (i + 1) (drop_next hs) (fun x hx => hall x (List.mem_cons_of_mem _ hx)) (acc ++ [n]) (by simp; omega) (fun x hx => by
   rcases List.mem_append.mp hx with hx | hx
   ·exact hd x hx
   ·rw [List.mem_singleton.mp hx]; exact h2)
  refine ⟨K1 + K2 + 1, out, fun k hk => ?_, g2, by simp at g3 ⊢; omega⟩
  obtain ⟨k, rfl⟩ : ∃ m, k = m + 1 := ⟨k - 1, by omega⟩
  simp only [spec_Tree.l1]
  rw [if_pos (by omega), if_pos (by omega), rd60 hs, h1 k (by omega), Option.bind_some, if_pos (by omega), w64_1 (by omega)]
  dsimp only
  rw [eta25]
  exact g1 k (by omega)
theorem tree_l0 (a : ByteArray) (hn : a.size ≤ 65536) (p : S60) (f0 : Int) (f1 : ByteArray) (hl3 : p.f3.length ≤ 65536) (hl : p.f4.length ≤ 65536) (hk : ∀ q ∈ p.f4, TreeOk a q) : ∀ (s : List S90) (i : Nat), p.f3.drop i = s → (∀ n ∈ s, ∃ u, NameAt (bytesOf a) n u) → ∀ acc : List ByteArray, acc.length ≤ i →
  ∃ K f2 out, (∀ k, K ≤ k → spec_Tree.l0 k a (i : Int) p.f0 p.f1 p.f2 p.f3 p.f4 f0 f1 acc = some (f0, f1, f2, out)) ∧ (∀ n ∈ out, DepOk n) ∧ out.length ≤ p.f4.length := by
 intro s
 induction s with
 | nil =>
  intro i hs _ acc hacc
  have hi : p.f3.length ≤ i := List.drop_eq_nil_iff.mp hs
  obtain ⟨K, out, h1, h2, h3⟩ := tree_l1 a p f0 f1 acc hl p.f4 0 rfl hk [] (by simp) (fun n hn => by cases hn)
  refine ⟨K + 1, acc, out, fun k hk => ?_, h2, by omega⟩
  obtain ⟨k, rfl⟩ : ∃ m, k = m + 1 := ⟨k - 1, by omega⟩
  simp only [spec_Tree.l0]
  rw [if_neg (by omega)]
  exact h1 k (by omega)
 | cons q s ih =>
  intro i hs hall acc hacc
  have hlt := drop_lt hs
  obtain ⟨u, hu⟩ := hall q List.mem_cons_self
  obtain ⟨K2, f2, out, g1, g2, g3⟩ := ih (i + 1) (drop_next hs) (fun x hx => hall x (List.mem_cons_of_mem _ hx)) (acc ++ [strOfNums u]) (by simp; omega)
  refine ⟨K2 + 100001, f2, out, fun k hk => ?_, g2, g3⟩
  obtain ⟨k, rfl⟩ : ∃ m, k = m + 1 := ⟨k - 1, by omega⟩
  obtain ⟨q1, q2, q3, q4⟩ := unquote_at a hn q u hu k (by omega)
  simp only [spec_Tree.l0]
  rw [if_pos (by omega), if_pos (by omega), rd90 hs, if_pos q1, if_pos q2, if_pos q3, q4, Option.bind_some, if_pos (by omega), w64_1 (by omega)]
  exact g1 k (by omega)
theorem tree_j0 (a : ByteArray) (hn : a.size ≤ 65536) (p : S60) (f1 : ByteArray) (hl3 : p.f3.length ≤ 65536) (hl : p.f4.length ≤ 65536) (hk : ∀ q ∈ p.f4, TreeOk a q) (hnm : ∀ n ∈ p.f3, ∃ u, NameAt (bytesOf a) n u) :
  ∃ K, ∃ n : S25, (∀ k, K ≤ k → spec_Tree.j0 k a p.f0 p.f1 p.f2 p.f3 p.f4 p.f0 f1 = some (n.f0, n.f1, n.f2, n.f3)) ∧ DepOk n ∧ n.f0 = p.f0 ∧ n.f1 = f1 := by
 obtain ⟨K, f2, out, h1, h2, h3⟩ := tree_l0 a hn p p.f0 f1 hl3 hl hk p.f3 0 rfl hnm [] (by simp)
 refine ⟨K + 1, ⟨p.f0, f1, f2, out⟩, fun k hk => ?_, dep_of _ (by show out.length ≤ 100000; omega) h2, rfl, rfl⟩
 obtain ⟨k, rfl⟩ : ∃ m, k = m + 1 := ⟨k - 1, by omega⟩
 simp only [spec_Tree.j0]
 exact h1 k (by omega)
theorem tree_of (a : ByteArray) (hn : a.size ≤ 65536) (p : S60) (hl3 : p.f3.length ≤ 65536) (hl : p.f4.length ≤ 65536) (hk : ∀ q ∈ p.f4, TreeOk a q) (hnm : ∀ n ∈ p.f3, ∃ u, NameAt (bytesOf a) n u) (hleaf : LeafK (bytesOf a) p ∨ p.f0 = 5 ∨ p.f0 = 6) : TreeOk a p := by
 have plain : p.f0 ≠ 3 → p.f0 ≠ 4 → TreeOk a p := fun h3 h4 => by
  obtain ⟨K, n, h1, h2, h5, h6⟩ := tree_j0 a hn p ⟨#[]⟩ hl3 hl hk hnm
  refine ⟨K + 1, n, fun k hk => ?_, h2, h5, by rw [h6]; decide, fun h => absurd h h3⟩
  obtain ⟨k, rfl⟩ : ∃ m, k = m + 1 := ⟨k - 1, by omega⟩
  simp only [spec_Tree.f]
  rw [if_neg h3, if_neg h4]
  exact h1 k (by omega)
 rcases hleaf with (⟨h3, i, l, r, e1, e2, hd, hle⟩ | ⟨h4, u, hu⟩ | h0 | h0 | h0) | h0 | h0
 ·have hi : i + l.length ≤ a.size := by
   have h := congrArg List.length hd
   rw [List.length_drop, List.length_append, bytesOf_length] at h
   rw [bytesOf_length] at hle
   omega
  obtain ⟨K, n, h1, h2, h5, h6⟩ := tree_j0 a hn p (a.extract p.f1.toNat p.f2.toNat) hl3 hl hk hnm
  refine ⟨K + 1, n, fun k hk => ?_, h2, h5, ?_, fun _ => h6⟩
  ·obtain ⟨k, rfl⟩ : ∃ m, k = m + 1 := ⟨k - 1, by omega⟩
   simp only [spec_Tree.f]
   rw [if_pos h3, if_pos (by omega), if_pos (by omega), if_pos (by omega)]
   exact h1 k (by omega)
  ·rw [h6]; simp; omega
 ·obtain ⟨K, n, h1, h2, h5, h6⟩ := tree_j0 a hn p (strOfNums u) hl3 hl hk hnm
  have hul : (strOfNums u).size ≤ 65536 := by rw [strOfNums_size]; have := name_len hu; rw [bytesOf_length] at this; omega
  refine ⟨K + 100001, n, fun k hk => ?_, h2, h5, by rw [h6]; exact hul, fun h => by omega⟩
  obtain ⟨k, rfl⟩ : ∃ m, k = m + 1 := ⟨k - 1, by omega⟩
  obtain ⟨q1, q2, q3, q4⟩ := unquote_at a hn _ u hu k (by omega)
  simp only [spec_Tree.f]
  rw [if_neg (by omega), if_pos h4, if_pos q1, if_pos q2, if_pos q3, q4, Option.bind_some]
  exact h1 k (by omega)
 all_goals exact plain (by omega) (by omega)
theorem rlL_len {t : List Int} {ps : List S60} {ks : List J} (h : RlL t ps ks) : ps.length = ks.length := by
 induction ps generalizing ks with
 | nil => cases h; rfl
 | cons p ps ih =>
  cases h with
  | cons p j ps ks _ h => simp [ih h]
theorem rlM_len {t : List Int} {ns : List S90} {ps : List S60} {ms : List (List Int × J)} (h : RlM t ns ps ms) : ps.length = ms.length ∧ ns.length = ms.length := by
 induction ms generalizing ps ns with
 | nil => cases h; exact ⟨rfl, rfl⟩
 | cons m ms ih =>
  cases h with
  | cons n u p j ns ps ms _ _ h => simp [ih h]
mutual
theorem tree_all (a : ByteArray) (hn : a.size ≤ 65536) : ∀ {p : S60} {j : J}, Rl (bytesOf a) p j → TreeOk a p
 | _, _, .leaf p j h3 h4 hl => tree_of a hn p (by rw [h3]; simp) (by rw [h4]; simp) (by rw [h4]; intro q hq; cases hq) (by rw [h3]; intro q hq; cases hq) (.inl hl)
 | _, _, .arr p ks h5 h3 hl h => tree_of a hn p (by rw [h3]; simp) (by rw [rlL_len h]; exact hl) (tree_els a hn h) (by rw [h3]; intro q hq; cases hq) (.inr (.inl h5))
 | _, _, .obj p ms h6 hl h => tree_of a hn p (by rw [(rlM_len h).2]; exact hl) (by rw [(rlM_len h).1]; exact hl) (tree_mem a hn h).1 (tree_mem a hn h).2 (.inr (.inr h6))
theorem tree_els (a : ByteArray) (hn : a.size ≤ 65536) : ∀ {ps : List S60} {ks : List J}, RlL (bytesOf a) ps ks → ∀ q ∈ ps, TreeOk a q
 | _, _, .nil => fun q hq => by cases hq
 | _, _, .cons p j ps ks h hs => fun q hq => by
  rcases List.mem_cons.mp hq with rfl | hq
  ·exact tree_all a hn h
  ·exact tree_els a hn hs q hq
theorem tree_mem (a : ByteArray) (hn : a.size ≤ 65536) : ∀ {ns : List S90} {ps : List S60} {ms : List (List Int × J)}, RlM (bytesOf a) ns ps ms → (∀ q ∈ ps, TreeOk a q) ∧ (∀ n ∈ ns, ∃ u, NameAt (bytesOf a) n u)
 | _, _, _, .nil => ⟨fun q hq => (by cases hq), fun q hq => (by cases hq)⟩
 | _, _, _, .cons n u p j ns ps ms hu h hs => ⟨fun q hq => by
  rcases List.mem_cons.mp hq with rfl | hq
  ·exact tree_all a hn h
  ·exact (tree_mem a hn hs).1 q hq, fun q hq => by
  rcases List.mem_cons.mp hq with rfl | hq
  ·exact ⟨u, hu⟩
  ·exact (tree_mem a hn hs).2 q hq⟩
end
/-- The text of what is no number. -/
def NotL (l : List Int) : Prop := (∃ c r, l = c :: r ∧ (c = 123 ∨ c = 91 ∨ c = 34)) ∨ l = [110, 117, 108, 108] ∨ l = [102, 97, 108, 115, 101] ∨ l = [116, 114, 117, 101]
/-- A text that the guard lets in, and its value's kind and text. -/
def TextOk (a : ByteArray) (kind : Int) (tx : ByteArray) : Prop := a.size ≤ 4000 ∧ ∃ w l v, bytesOf a = w ++ (l ++ v) ∧ Ws w ∧ Ws v ∧ ((kind = 3 ∧ bytesOf tx = l ∧ (∀ c ∈ l, NumC c)) ∨ (kind ≠ 3 ∧ NotL l))
theorem read_f (a : ByteArray) (hn : a.size ≤ 65536) : ∃ K, ∃ (n : S25) (ok : Bool), (∀ k, K ≤ k → spec_Read.f k a = some (n.f0, n.f1, n.f2, n.f3, ok)) ∧ DepOk n ∧ n.f1.size ≤ 65536 ∧
  (ok = true → ∃ w l v, bytesOf a = w ++ (l ++ v) ∧ Ws w ∧ Ws v ∧ ((n.f0 = 3 ∧ bytesOf n.f1 = l ∧ (∀ c ∈ l, NumC c)) ∨ (n.f0 ≠ 3 ∧ NotL l))) := by
 obtain ⟨r0, hr0, hok0⟩ := places_all a hn 1000000 (Nat.le_refl _)
 have hpl : ∀ m, spec_Places.f (1000000 + m) a = some r0 := fun m => by
  induction m with
  | zero => exact hr0
  | succ m ih => exact spec_Places.mono a _ _ ih
 by_cases ok : r0.2.2.2.2.2 = true
 rotate_left
 ·refine ⟨1000000, ⟨0, ⟨#[]⟩, [], []⟩, false, fun k hk => ?_, dep_of _ (by show ([] : List S25).length ≤ 100000; simp) (fun x hx => by cases hx), by decide, fun h => by cases h⟩
  unfold spec_Read.f
  rw [show k = 1000000 + (k - 1000000) by omega, hpl, Option.bind_some, if_neg ok]
 obtain ⟨p, w, l, v, j, e, hw, hv, hV, rfl, hRl, hT⟩ := hok0 ok
 obtain ⟨K, n, h1, h2, h3, h4, h5⟩ := tree_all a hn hRl
 refine ⟨K + 1000000, n, true, fun k hk => ?_, h2, h4, fun _ => ⟨w, l, v, e, hw, hv, ?_⟩⟩
 ·unfold spec_Read.f
  rw [show k = 1000000 + (k - 1000000) by omega, hpl, Option.bind_some, if_pos rfl, ← show k = 1000000 + (k - 1000000) by omega]
  dsimp only
  rw [h1 k (by omega)]
  rfl
 ·rcases hT with ⟨t1, t2, t3, t4, _⟩ | ⟨t1, t2⟩
  ·refine .inl ⟨by rw [h3]; exact t1, ?_, t4⟩
   rw [h5 t1, t2, t3, Int.toNat_natCast, Int.toNat_natCast, bytesOf_extract, e, List.drop_take]
   simp
  ·exact .inr ⟨by rw [h3]; exact t1, t2⟩
theorem fjText_f (a : ByteArray) : ∃ (k : Nat) (r1 : Int) (r2 : ByteArray) (r3 : List ByteArray) (r4 : List S25) (r5 : Bool), laws_fjText.f k a = some (r1, r2, r3, r4, r5) ∧ r2.size ≤ 65536 ∧ (r5 = true → TextOk a r1 r2) := by
 by_cases hsz : a.size ≤ 4000
 rotate_left
 ·refine ⟨1, 0, ⟨#[]⟩, [], [], false, ?_, by decide, fun h => by cases h⟩
  unfold laws_fjText.f
  rw [if_pos (by omega)]
  simp only [laws_fjText.j0]
  rw [if_pos trivial]
 obtain ⟨K, n, ok, h1, ⟨K2, d, h2⟩, h3, h4⟩ := read_f a (by omega)
 obtain ⟨k, hk⟩ : ∃ k, k = K + K2 + 1000000 := ⟨_, rfl⟩
 obtain ⟨b1, hb1⟩ := utf8_tot a (by omega) (k + 1) (by omega)
 obtain ⟨b2, hb2⟩ := paired_tot a (by omega) (k + 1) (by omega)
 have j0 : ∀ b : Bool, ∃ (r1 : Int) (r2 : ByteArray) (r3 : List ByteArray) (r4 : List S25) (r5 : Bool), laws_fjText.j0 (k + 1) a b = some (r1, r2, r3, r4, r5) ∧ r2.size ≤ 65536 ∧ (r5 = true → TextOk a r1 r2) := by
  intro b
  cases b with
  | true =>
   refine ⟨0, ⟨#[]⟩, [], [], false, ?_, by decide, fun h => by cases h⟩
   simp only [laws_fjText.j0]
   rw [if_pos trivial]
  | false =>
   simp only [laws_fjText.j0]
   rw [if_neg (by decide), h1 k (by omega), Option.bind_some]
   dsimp only
   cases ok with
   | false => exact ⟨_, _, _, _, _, rfl, h3, fun h => by cases h⟩
   | true =>
    rw [if_pos rfl, h2 k (by omega), Option.bind_some]
    exact ⟨_, _, _, _, _, rfl, h3, fun _ => ⟨hsz, h4 rfl⟩⟩
 unfold laws_fjText.f
 refine ⟨k + 1, ?_⟩
 rw [if_neg (by omega), hb1, Option.bind_some]
 split
 ·rw [hb2, Option.bind_some]; exact j0 _
 ·exact j0 true
/-! ### What the parser is told -/
theorem ws_split {x y : List Int} (hx : NoBlk x) (hy : NoBlk y) : ∀ {w w' : List Int}, w ++ x = w' ++ y → Ws w → Ws w' → x = y
 | [], [], h, _, _ => h
 | [], c :: w', h, _, h2 => absurd (h2 c List.mem_cons_self) (hx c (w' ++ y) h)
 | c :: w, [], h, h1, _ => absurd (h1 c List.mem_cons_self) (hy c (w ++ x) h.symm)
 | c :: w, c' :: w', h, h1, h2 => ws_split hx hy (List.cons.inj h).2 (fun z hz => h1 z (List.mem_cons_of_mem _ hz)) (fun z hz => h2 z (List.mem_cons_of_mem _ hz))
theorem skip_is {a r : ByteArray} {w l v : List Int} (e : bytesOf a = w ++ (l ++ v)) (hw : Ws w) (hl : NoBlk (l ++ v)) (h : SkipP a r) : bytesOf r = l ++ v := by
 obtain ⟨w', h1, h2, h3⟩ := h
 exact (ws_split hl h3 (e.symm.trans h1) hw h2).symm
theorem noBlk_cons {c : Int} {r : List Int} (h : ¬ Blk c) : NoBlk (c :: r) := fun c' r' e => by
 injection e with e1 _
 rw [← e1]; exact h
theorem bt_first {r : ByteArray} {c : Int} {t : List Int} (h : bytesOf r = c :: t) : bt r 0 = c := bt_drop (i := 0) (r := t) (by rw [List.drop_zero, h])
theorem not_text {a : ByteArray} {w l v : List Int} (e : bytesOf a = w ++ (l ++ v)) (hw : Ws w) (hl : NotL l) : ∀ r, SkipP a r → 0 < r.size ∧ NotNum r := by
 intro r hr
 have fin : ∀ (c : Int) (t : List Int), l = c :: t → ¬ Blk c → (bytesOf r = l ++ v → bt r 0 = c → NotNum r) → 0 < r.size ∧ NotNum r := fun c t hl hc k => by
  have h1 := skip_is e hw (by rw [hl]; exact noBlk_cons hc) hr
  have h2 : bytesOf r = c :: (t ++ v) := by rw [h1, hl]; rfl
  exact ⟨by rw [← bytesOf_length, h2]; simp, k h1 (bt_first h2)⟩
 unfold NotNum at *
 rcases hl with ⟨c, t, h1, h2⟩ | h1 | h1 | h1
 ·exact fin c t h1 (by unfold Blk; omega) (fun _ h => by rw [h]; omega)
 ·refine fin 110 _ h1 (by unfold Blk; omega) (fun h3 h => ?_)
  refine .inr (.inr (.inr (.inr (.inr ⟨h, ?_, ?_⟩))))
  ·rw [← bytesOf_length, h3, h1]; simp
  ·refine bytesOf_inj ?_
   rw [bytesOf_extract, h3, h1]
   rfl
 ·exact fin 102 _ h1 (by unfold Blk; omega) (fun _ h => by rw [h]; omega)
 ·exact fin 116 _ h1 (by unfold Blk; omega) (fun _ h => by rw [h]; omega)
theorem num_text {a tx : ByteArray} {w l v : List Int} (e : bytesOf a = w ++ (l ++ v)) (hw : Ws w) (hv : Ws v) (htx : bytesOf tx = l) (hc : ∀ c ∈ l, NumC c) (sgn ip : List Int) (pt : Bool) (fd fr ex : List Int) (h : NumD l sgn ip pt fd fr ex) (x : Nat) (hx : LawNum tx x) :
  ∀ r, SkipP a r → 0 < r.size ∧ ∃ k, NumTop r k ∧ ∀ ss, bytesOf ss = (bytesOf r).take k → LawNum ss x := by
 intro r hr
 have hip : 0 < ip.length := List.length_pos_iff.mpr h.ip0
 have hll : l.length = sgn.length + (ip.length + (fr.length + ex.length)) := by rw [h.eq]; simp [List.length_append]
 obtain ⟨c, t, hct⟩ : ∃ c t, l = c :: t := List.exists_cons_of_ne_nil (by rintro rfl; simp at hll; omega)
 have hc0 := hc c (by rw [hct]; exact List.mem_cons_self)
 have hnb : ¬ Blk c := by unfold Blk NumC at *; omega
 have h1 := skip_is e hw (by rw [hct]; exact noBlk_cons hnb) hr
 have h2 : bytesOf r = c :: (t ++ v) := by rw [h1, hct]; rfl
 have hb := bt_first h2
 have hsz : r.size = l.length + v.length := by rw [← bytesOf_length, h1, List.length_append]
 have hl0 : 0 < l.length := by omega
 refine ⟨by omega, l.length, ⟨?_, ⟨by omega, fun j hj => ?_, fun hlt => ?_⟩, ?_, by rw [h1]; simp; exact hv⟩, fun ss hss => ?_⟩
 ·unfold HN
  unfold NumC at hc0
  rw [hb]
  refine ⟨?_, ?_, ?_, ?_, ?_, ?_⟩ <;> exact beq_eq_false_iff_ne.mpr (by omega)
 ·have hx : (bytesOf r).drop j = l[j] :: (l.drop (j + 1) ++ v) := by
   rw [h1, List.drop_append_of_le_length (by omega), List.drop_eq_getElem_cons hj]; rfl
  rw [bt_drop hx]
  exact hc _ (List.getElem_mem _)
 ·have hv0 : 0 < v.length := by omega
  obtain ⟨b, u, hbu⟩ : ∃ b u, v = b :: u := List.exists_cons_of_ne_nil (by rintro rfl; simp at hv0)
  have hx : (bytesOf r).drop l.length = b :: u := by rw [h1]; simp; exact hbu
  rw [bt_drop hx]
  have := hv b (by rw [hbu]; exact List.mem_cons_self)
  unfold Blk at this
  unfold NumC
  omega
 ·refine .inr (fun hlow => ?_)
  rcases hlow with hlow | ⟨h3, h4⟩
  ·omega
  ·rw [hb] at h4
   rcases h.sg with hs | hs
   ·obtain ⟨c', r', hcr⟩ := List.exists_cons_of_ne_nil h.ip0
    have h5 := h.ipd c' (by rw [hcr]; exact List.mem_cons_self)
    have h6 : c = c' := by
     have := h.eq
     rw [hct, hs, hcr] at this
     injection this
    omega
   ·rw [hs] at hll; simp at hll; omega
 ·have : ss = tx := bytesOf_inj (by rw [hss, htx, h1]; simp)
  rw [this]; exact hx
end Go.Proofs.YtaihmpdhaikfkaaGreatDoor.PFnFjFloat
