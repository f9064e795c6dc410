/- Part of the proof of the card in text ZF. -/
import Derived.Test.YtdacgdjjdifneaaGreatDoorV5
import Derived.Test.YtdacgdjjdifneaaGreatDoorV8
import Derived.Test.YtdacgdjjdifneaaGreatDoorV9
import Derived.Test.YtdacgdjjdifneaaGreatDoorZD
import Derived.Test.YtdacgdjjdifneaaGreatDoorV0
import Derived.Test.YtdacgdjjdifneaaGreatDoorV10
import Derived.Test.YtdacgdjjdifneaaGreatDoorV14
import Derived.Test.YtdacgdjjdifneaaGreatDoorV7
import Derived.Test.YtdacgdjjdifneaaGreatDoorZK
set_option linter.all false
namespace Go.Proofs.YtdacgdjjdifneaaGreatDoor.PFnGjFlattenOften
open Go.RowKit Go.Proofs.YtdacgdjjdifneaaGreatDoorW.PrintWords Go.Proofs.YtdacgdjjdifneaaGreatDoorW.PrintLast Go.Proofs.YtdacgdjjdifneaaGreatDoorW.PrintMore
theorem high_tot (n : Int) : ∃ b, spec_high.f n = some b := by unfold spec_high.f; split <;> exact ⟨_, rfl⟩
theorem low_tot (n : Int) : ∃ b, spec_low.f n = some b := by unfold spec_low.f; split <;> exact ⟨_, rfl⟩
theorem char_l0 (a : ByteArray) (hn : a.size ≤ 65536) (i more : Nat) (least : Int) (hm : more ≤ 3) (hi : i + more < a.size) : ∀ (m k j : Nat) (c : Int), j + m = more + 1 → m + 1 ≤ k →
  ∃ r n ok, spec_Character.l0 k a (i : Int) c (more : Int) least (j : Int) = some (r, n, ok) ∧ (ok = true → n = ((more + 1 : Nat) : Int)) := by
 intro m
 induction m with
 | zero =>
  intro k j c hj hk; obtain ⟨k, rfl⟩ : ∃ m, k = m + 1 := ⟨k - 1, by omega⟩
  simp only [spec_Character.l0]; rw [if_neg (by omega)]
  split
  ·exact ⟨_, _, _, rfl, fun h => by cases h⟩
  split
  ·exact ⟨_, _, _, rfl, fun h => by cases h⟩
  obtain ⟨b, hb⟩ := high_tot c; obtain ⟨b2, hb2⟩ := low_tot c; rw [hb, Option.bind_some]
  split
  ·exact ⟨_, _, _, rfl, fun h => by cases h⟩
  rw [hb2, Option.bind_some]
  split
  ·exact ⟨_, _, _, rfl, fun h => by cases h⟩
  ·exact ⟨_, _, _, rfl, fun _ => w64_1 (by omega)⟩
 | succ m ih =>
  intro k j c hj hk; obtain ⟨k, rfl⟩ : ∃ m, k = m + 1 := ⟨k - 1, by omega⟩
  simp only [spec_Character.l0]; rw [if_pos (by omega), w64s (n := i) (m := j) (by omega), if_pos (by omega), if_pos (by omega), w64_1 (n := j) (by omega)]
  split
  ·exact ⟨_, _, _, rfl, fun h => by cases h⟩
  split
  ·exact ⟨_, _, _, rfl, fun h => by cases h⟩
  exact ih k (j + 1) _ (by omega) (by omega)
theorem char_j2 (a : ByteArray) (hn : a.size ≤ 65536) (i more : Nat) (c least : Int) (hm : more ≤ 3) (hi : i < a.size) (k : Nat) (hk : 10 ≤ k) : ∃ r n ok, spec_Character.j2 k a (i : Int) c (more : Int) least = some (r, n, ok) ∧ (ok = true → n = ((more + 1 : Nat) : Int)) := by
 obtain ⟨k, rfl⟩ : ∃ m, k = m + 1 := ⟨k - 1, by omega⟩
 simp only [spec_Character.j2]; rw [Go.IntWalk.wrap64_in _ (by omega)]
 split
 ·exact ⟨_, _, _, rfl, fun h => by cases h⟩
 ·exact char_l0 a hn i more least hm (by omega) more k 1 c (by omega) (by omega)
theorem char_f (a : ByteArray) (hn : a.size ≤ 65536) (i : Nat) (hi : i < a.size) (k : Nat) (hk : 20 ≤ k) : ∃ r n ok, spec_Character.f k a (i : Int) = some (r, n, ok) ∧ (ok = true → ∃ m : Nat, n = (m : Int) ∧ 1 ≤ m ∧ m ≤ 4) := by
 obtain ⟨k, rfl⟩ : ∃ m, k = m + 2 := ⟨k - 2, by omega⟩
 have fin : ∀ (g : Option (Int × Int × Bool)) (more : Nat), more ≤ 3 → (∃ r n ok, g = some (r, n, ok) ∧ (ok = true → n = ((more + 1 : Nat) : Int))) → ∃ r n ok, g = some (r, n, ok) ∧ (ok = true → ∃ m : Nat, n = (m : Int) ∧ 1 ≤ m ∧ m ≤ 4) :=
  fun g more hm ⟨r, n, ok, h1, h2⟩ => ⟨r, n, ok, h1, fun h => ⟨more + 1, h2 h, by omega, by omega⟩⟩
 have j1 : ∀ (c : Int) (b : Bool), ∃ r n ok, spec_Character.j1 (k + 1) a (i : Int) c b = some (r, n, ok) ∧ (ok = true → ∃ m : Nat, n = (m : Int) ∧ 1 ≤ m ∧ m ≤ 4) := by
  intro c b; simp only [spec_Character.j1]
  split
  ·exact fin _ 2 (by decide) (char_j2 a hn i 2 _ 2048 (by decide) hi k (by omega))
  split
  ·split
   ·exact fin _ 3 (by decide) (char_j2 a hn i 3 _ 65536 (by decide) hi k (by omega))
   ·exact ⟨_, _, _, rfl, fun h => by cases h⟩
  ·exact ⟨_, _, _, rfl, fun h => by cases h⟩
 have j0 : ∀ (c : Int) (b : Bool), ∃ r n ok, spec_Character.j0 (k + 2) a (i : Int) c b = some (r, n, ok) ∧ (ok = true → ∃ m : Nat, n = (m : Int) ∧ 1 ≤ m ∧ m ≤ 4) := by
  intro c b; simp only [spec_Character.j0]
  split
  ·exact fin _ 1 (by decide) (char_j2 a hn i 1 _ 128 (by decide) hi (k + 1) (by omega))
  split
  ·exact j1 _ _
  ·exact j1 _ _
 unfold spec_Character.f; rw [if_pos (by omega), if_pos (by omega)]
 split
 ·exact ⟨_, _, _, rfl, fun _ => ⟨1, rfl, by decide, by decide⟩⟩
 split
 ·exact j0 _ _
 ·exact j0 _ _
theorem utf8_l0 (a : ByteArray) (hn : a.size ≤ 65536) : ∀ (m i k : Nat), a.size + 4 - i ≤ m → i ≤ a.size + 3 → m + 30 ≤ k → ∃ b, spec_UTF8.l0 k a (i : Int) = some b := by
 intro m
 induction m with
 | zero => intro i k h1 h2; omega
 | succ m ih =>
  intro i k h1 h2 hk; obtain ⟨k, rfl⟩ : ∃ m, k = m + 1 := ⟨k - 1, by omega⟩
  simp only [spec_UTF8.l0]
  by_cases hlt : i < a.size
  ·rw [if_pos (by omega)]; obtain ⟨r, n, ok, hc, hok⟩ := char_f a hn i hlt k (by omega); rw [hc, Option.bind_some]; dsimp only
   split
   ·rename_i h
    obtain ⟨q, rfl, h3, h4⟩ := hok h; rw [w64s (n := i) (m := q) (by omega)]; exact ih (i + q) k (by omega) (by omega) (by omega)
   ·exact ⟨_, rfl⟩
  ·rw [if_neg (by omega)]; exact ⟨_, rfl⟩
theorem utf8_tot (a : ByteArray) (hn : a.size ≤ 65536) (k : Nat) (hk : 100000 ≤ k) : ∃ b, spec_UTF8.f k a = some b := by
 unfold spec_UTF8.f; exact utf8_l0 a hn (a.size + 4) 0 k (by omega) (by omega) (by omega)
theorem unit_l0 (a : ByteArray) (hn : a.size ≤ 65536) (i : Nat) (hi : i + 6 ≤ a.size) : ∀ (m k j : Nat) (v : Int), j + m = i + 6 → m + 4 ≤ k → ∃ n ok, spec_unit.l0 k a (i : Int) v (j : Int) = some (n, ok) := by
 intro m
 induction m with
 | zero =>
  intro k j v hj hk; obtain ⟨k, rfl⟩ : ∃ m, k = m + 1 := ⟨k - 1, by omega⟩
  simp only [spec_unit.l0]; rw [show wrap64 ((i : Int) + 6) = ((i + 6 : Nat) : Int) from w64s (m := 6) (by omega), if_neg (by omega)]; exact ⟨_, _, rfl⟩
 | succ m ih =>
  intro k j v hj hk; obtain ⟨k, rfl⟩ : ∃ m, k = m + 1 := ⟨k - 1, by omega⟩
  simp only [spec_unit.l0]; obtain ⟨x, hx, _⟩ := hexDigit_f k (by omega) (bt a (j : Int)) (bt_range a _).1 (bt_range a _).2; rw [show wrap64 ((i : Int) + 6) = ((i + 6 : Nat) : Int) from w64s (m := 6) (by omega), if_pos (by omega), if_pos (by omega), if_pos (by omega), hx, Option.bind_some, w64_1 (n := j) (by omega)]
  split
  ·exact ih k (j + 1) _ (by omega) (by omega)
  ·exact ⟨_, _, rfl⟩
theorem unit_tot (a : ByteArray) (hn : a.size ≤ 65536) (i : Nat) (hi : i ≤ a.size + 20) (k : Nat) (hk : 20 ≤ k) : ∃ n ok, spec_unit.f k a (i : Int) = some (n, ok) := by
 obtain ⟨k, rfl⟩ : ∃ m, k = m + 1 := ⟨k - 1, by omega⟩
 unfold spec_unit.f; rw [Go.IntWalk.wrap64_in _ (by omega)]; have j0 : i + 6 ≤ a.size → ∀ b, ∃ n ok, spec_unit.j0 (k + 1) a (i : Int) b = some (n, ok) := by
  intro h6 b; simp only [spec_unit.j0]
  split
  ·exact ⟨_, _, rfl⟩
  ·rw [show wrap64 ((i : Int) + 2) = ((i + 2 : Nat) : Int) from w64s (m := 2) (by omega)]; exact unit_l0 a hn i h6 4 k (i + 2) 0 (by omega) (by omega)
 by_cases h : (a.size : Int) - (i : Int) < 6
 ·rw [if_pos h]; simp only [spec_unit.j0]; rw [if_pos trivial]; exact ⟨_, _, rfl⟩
 ·rw [if_neg h, if_pos (by omega), if_pos (by omega), w64_1 (by omega)]
  split
  ·rw [if_pos (by omega), if_pos (by omega)]; exact j0 (by omega) _
  ·exact j0 (by omega) _
theorem paired_l0 (a : ByteArray) (hn : a.size ≤ 65536) : ∀ (m i k : Nat), a.size + 12 - i ≤ m → i ≤ a.size + 11 → m + 30 ≤ k → ∃ b, spec_Paired.l0 k a (i : Int) = some b := by
 intro m
 induction m with
 | zero => intro i k h1 h2; omega
 | succ m ih =>
  intro i k h1 h2 hk; obtain ⟨k, rfl⟩ : ∃ m, k = m + 1 := ⟨k - 1, by omega⟩
  simp only [spec_Paired.l0]
  by_cases hlt : i < a.size
  ·rw [if_pos (by omega), if_pos (by omega)]; obtain ⟨n, ok, hu⟩ := unit_tot a hn i (by omega) k (by omega); obtain ⟨n2, ok2, hu2⟩ := unit_tot a hn (i + 6) (by omega) k (by omega); obtain ⟨b1, hb1⟩ := high_tot n; obtain ⟨b2, hb2⟩ := low_tot n; obtain ⟨b3, hb3⟩ := low_tot n2; have w1 := w64_1 (n := i) (by omega); have w2 : wrap64 ((i : Int) + 2) = ((i + 2 : Nat) : Int) := w64s (m := 2) (by omega); have w6 : wrap64 ((i : Int) + 6) = ((i + 6 : Nat) : Int) := w64s (m := 6) (by omega); have w12 : wrap64 ((i : Int) + 12) = ((i + 12 : Nat) : Int) := w64s (m := 12) (by omega); have i1 := ih (i + 1) k (by omega) (by omega) (by omega); have i2 := ih (i + 2) k (by omega) (by omega) (by omega); have i6 := ih (i + 6) k (by omega) (by omega) (by omega); have i12 := ih (i + 12) k (by omega) (by omega) (by omega); rw [w1, w2, w6, w12, hu, hu2]; simp only [Option.bind_some, hb1, hb2, hb3]
   repeat' split
   all_goals first | exact i1 | exact i2 | exact i6 | exact i12 | exact ⟨_, rfl⟩
  ·rw [if_neg (by omega)]; exact ⟨_, rfl⟩
theorem paired_tot (a : ByteArray) (hn : a.size ≤ 65536) (k : Nat) (hk : 100000 ≤ k) : ∃ b, spec_Paired.f k a = some b := by
 unfold spec_Paired.f; exact paired_l0 a hn (a.size + 12) 0 k (by omega) (by omega) (by omega)
theorem utf8_len3 (r : Int) (h : r ≤ 65535) : (utf8 r).length ≤ 3 := by
 unfold utf8
 repeat' split
 all_goals simp
 omega
theorem un_len {s u : List Int} (h : Un s u) : u.length ≤ s.length := by
 induction h with
 | nil => simp
 | chr c s u _ _ _ _ _ ih => simp; omega
 | esc e s u _ _ ih => simp; omega
 | uni a b c d s u ha hb hc hd _ _ ih =>
  have := utf8_len3 (hex4 a b c d) (hex4_range ha hb hc hd).2; simp only [List.length_append, List.length_cons]; omega
 | pair a b c d a' b' c' d' s u _ _ _ _ _ _ _ _ _ _ _ ih =>
  have := utf8_len (pairR (hex4 a b c d) (hex4 a' b' c' d')); simp only [List.length_append, List.length_cons]; omega
theorem name_len {t : List Int} {n : S54} {u : List Int} (h : NameAt t n u) : u.length ≤ t.length := by
 obtain ⟨b, s, r, _, hd, hu⟩ := h; have h1 := un_len hu; have h2 := congrArg List.length hd; simp only [List.length_drop, List.length_cons, List.length_append] at h2; omega
def DepOk (n : S25) : Prop := (∃ K b, ∀ k, K ≤ k → spec_Unique.f k n.f0 n.f1 n.f2 n.f3 = some b) ∧ ∃ K, ∀ k, K ≤ k → spec_Same.f k n.f0 n.f1 n.f2 n.f3 n.f0 n.f1 n.f2 n.f3 = some true
theorem eta25 (n : S25) : (⟨n.f0, n.f1, n.f2, n.f3⟩ : S25) = n := by cases n; rfl
theorem rd25 {l : List S25} {i : Nat} {p : S25} {r : List S25} (h : l.drop i = p :: r) : rd_T25 l (i : Int) = p := by
 have hl := drop_lt h; rw [List.drop_eq_getElem_cons hl] at h; unfold rd_T25; rw [Int.toNat_natCast, List.getD_eq_getElem?_getD, List.getElem?_eq_getElem hl]; exact (List.cons.inj h).1
theorem rd60 {l : List S31} {i : Nat} {p : S31} {r : List S31} (h : l.drop i = p :: r) : rd_T31 l (i : Int) = p := by
 have hl := drop_lt h; rw [List.drop_eq_getElem_cons hl] at h; unfold rd_T31; rw [Int.toNat_natCast, List.getD_eq_getElem?_getD, List.getElem?_eq_getElem hl]; exact (List.cons.inj h).1
theorem rd90 {l : List S54} {i : Nat} {p : S54} {r : List S54} (h : l.drop i = p :: r) : rd_T54 l (i : Int) = p := by
 have hl := drop_lt h; rw [List.drop_eq_getElem_cons hl] at h; unfold rd_T54; rw [Int.toNat_natCast, List.getD_eq_getElem?_getD, List.getElem?_eq_getElem hl]; exact (List.cons.inj h).1
theorem at_l0 (key : ByteArray) (f0 : Int) (f1 : ByteArray) (f2 : List ByteArray) (f3 : List S25) (hl : f2.length ≤ 100000) : ∀ m : Nat, m ≤ f2.length → ∃ v, ∀ k, m + 1 ≤ k → spec_at.l0 k key ((m : Int) - 1) f0 f1 f2 f3 = some v := by
 intro m
 induction m with
 | zero =>
  intro _; refine ⟨-1, fun k hk => ?_⟩; obtain ⟨k, rfl⟩ : ∃ m, k = m + 1 := ⟨k - 1, by omega⟩
  simp only [spec_at.l0]; rw [if_neg (by omega)]
 | succ m ih =>
  intro hm; obtain ⟨v, hv⟩ := ih (by omega)
  by_cases he : (rdOf ByteArray.empty f2 ((m + 1 : Nat) - 1 : Int)).toList = key.toList
  ·refine ⟨((m + 1 : Nat) : Int) - 1, fun k hk => ?_⟩; obtain ⟨k, rfl⟩ : ∃ m, k = m + 1 := ⟨k - 1, by omega⟩
   simp only [spec_at.l0]; rw [if_pos (by omega), if_pos (by omega), if_pos (by omega), if_pos he]
  ·refine ⟨v, fun k hk => ?_⟩; obtain ⟨k, rfl⟩ : ∃ m, k = m + 1 := ⟨k - 1, by omega⟩
   simp only [spec_at.l0]; rw [if_pos (by omega), if_pos (by omega), if_pos (by omega), if_neg he, show wrap64 (((m + 1 : Nat) : Int) - 1 - 1) = (m : Int) - 1 by rw [Go.IntWalk.wrap64_in _ (by omega)]; omega]; exact hv k (by omega)
theorem at_tot (key : ByteArray) (f0 : Int) (f1 : ByteArray) (f2 : List ByteArray) (f3 : List S25) (hl : f2.length ≤ 100000) : ∃ v, ∀ k, f2.length + 1 ≤ k → spec_at.f k f0 f1 f2 f3 key = some v := by
 obtain ⟨v, hv⟩ := at_l0 key f0 f1 f2 f3 hl f2.length (Nat.le_refl _); refine ⟨v, fun k hk => ?_⟩; unfold spec_at.f; rw [Go.IntWalk.wrap64_in _ (by omega)]; exact hv k hk
theorem uni_l1 (f0 : Int) (f1 : ByteArray) (f2 : List ByteArray) (f3 : List S25) (hl : f3.length ≤ 100000) : ∀ (s : List S25) (i : Nat), f3.drop i = s → (∀ n ∈ s, DepOk n) → ∃ K b, ∀ k, K ≤ k → spec_Unique.l1 k (i : Int) f0 f1 f2 f3 = some b := by
 intro s
 induction s with
 | nil =>
  intro i hs _; have hi : f3.length ≤ i := List.drop_eq_nil_iff.mp hs; refine ⟨1, true, fun k hk => ?_⟩; obtain ⟨k, rfl⟩ : ∃ m, k = m + 1 := ⟨k - 1, by omega⟩
  simp only [spec_Unique.l1]; rw [if_neg (by omega)]
 | cons n s ih =>
  intro i hs hall; have hlt := drop_lt hs; obtain ⟨⟨K1, d1, h1⟩, _⟩ := hall n List.mem_cons_self; obtain ⟨K2, d2, h2⟩ := ih (i + 1) (drop_next hs) (fun x hx => hall x (List.mem_cons_of_mem _ hx))
  cases d1 with
  | true =>
   refine ⟨K1 + K2 + 1, d2, fun k hk => ?_⟩; obtain ⟨k, rfl⟩ : ∃ m, k = m + 1 := ⟨k - 1, by omega⟩
   simp only [spec_Unique.l1]; rw [if_pos (by omega), if_pos (by omega), rd25 hs, h1 k (by omega), Option.bind_some, if_pos rfl, w64_1 (by omega)]; exact h2 k (by omega)
  | false =>
   refine ⟨K1 + K2 + 1, false, fun k hk => ?_⟩; obtain ⟨k, rfl⟩ : ∃ m, k = m + 1 := ⟨k - 1, by omega⟩
   simp only [spec_Unique.l1]; rw [if_pos (by omega), if_pos (by omega), rd25 hs, h1 k (by omega), Option.bind_some, if_neg (by decide)]
theorem uni_l0 (f0 : Int) (f1 : ByteArray) (f2 : List ByteArray) (f3 : List S25) (hl2 : f2.length ≤ 100000) (hl : f3.length ≤ 100000) (hall : ∀ n ∈ f3, DepOk n) : ∀ m i : Nat, i + m = f2.length → ∃ K b, ∀ k, K ≤ k → spec_Unique.l0 k (i : Int) f0 f1 f2 f3 = some b := by
 intro m
 induction m with
 | zero =>
  intro i hi; obtain ⟨K, b, h⟩ := uni_l1 f0 f1 f2 f3 hl f3 0 rfl hall; refine ⟨K + 1, b, fun k hk => ?_⟩; obtain ⟨k, rfl⟩ : ∃ m, k = m + 1 := ⟨k - 1, by omega⟩
  simp only [spec_Unique.l0]; rw [if_neg (by omega)]; exact h k (by omega)
 | succ m ih =>
  intro i hi; obtain ⟨K, b, h⟩ := ih (i + 1) (by omega); obtain ⟨v, hv⟩ := at_tot (rdOf ByteArray.empty f2 (i : Int)) f0 f1 f2 f3 hl2
  by_cases he : v = (i : Int)
  ·refine ⟨K + f2.length + 2, b, fun k hk => ?_⟩; obtain ⟨k, rfl⟩ : ∃ m, k = m + 1 := ⟨k - 1, by omega⟩
   simp only [spec_Unique.l0]; rw [if_pos (by omega), if_pos (by omega), hv k (by omega), Option.bind_some, if_pos he, w64_1 (by omega)]; exact h k (by omega)
  ·refine ⟨K + f2.length + 2, false, fun k hk => ?_⟩; obtain ⟨k, rfl⟩ : ∃ m, k = m + 1 := ⟨k - 1, by omega⟩
   simp only [spec_Unique.l0]; rw [if_pos (by omega), if_pos (by omega), hv k (by omega), Option.bind_some, if_neg he]
theorem same_l1 (f0 : Int) (f1 : ByteArray) (f2 : List ByteArray) (f3 : List S25) (hl : f3.length ≤ 100000) : ∀ (s : List S25) (i : Nat), f3.drop i = s → (∀ n ∈ s, DepOk n) → ∃ K, ∀ k, K ≤ k → spec_Same.l1 k (i : Int) f0 f1 f2 f3 f0 f1 f2 f3 = some true := by
 intro s
 induction s with
 | nil =>
  intro i hs _; have hi : f3.length ≤ i := List.drop_eq_nil_iff.mp hs; refine ⟨1, fun k hk => ?_⟩; obtain ⟨k, rfl⟩ : ∃ m, k = m + 1 := ⟨k - 1, by omega⟩
  simp only [spec_Same.l1]; rw [if_neg (by omega)]
 | cons n s ih =>
  intro i hs hall; have hlt := drop_lt hs; obtain ⟨_, K1, h1⟩ := hall n List.mem_cons_self; obtain ⟨K2, h2⟩ := ih (i + 1) (drop_next hs) (fun x hx => hall x (List.mem_cons_of_mem _ hx)); refine ⟨K1 + K2 + 1, fun k hk => ?_⟩; obtain ⟨k, rfl⟩ : ∃ m, k = m + 1 := ⟨k - 1, by omega⟩
  simp only [spec_Same.l1]; rw [if_pos (by omega), if_pos (by omega), if_pos (by omega), rd25 hs, h1 k (by omega), Option.bind_some, if_pos rfl, w64_1 (by omega)]; exact h2 k (by omega)
theorem same_l0 (f0 : Int) (f1 : ByteArray) (f2 : List ByteArray) (f3 : List S25) (hl2 : f2.length ≤ 100000) (hl : f3.length ≤ 100000) (hall : ∀ n ∈ f3, DepOk n) : ∀ m i : Nat, i + m = f2.length → ∃ K, ∀ k, K ≤ k → spec_Same.l0 k (i : Int) f0 f1 f2 f3 f0 f1 f2 f3 = some true := by
 intro m
 induction m with
 | zero =>
  intro i hi; obtain ⟨K, h⟩ := same_l1 f0 f1 f2 f3 hl f3 0 rfl hall; refine ⟨K + 1, fun k hk => ?_⟩; obtain ⟨k, rfl⟩ : ∃ m, k = m + 1 := ⟨k - 1, by omega⟩
  simp only [spec_Same.l0]; rw [if_neg (by omega)]; exact h k (by omega)
 | succ m ih =>
  intro i hi; obtain ⟨K, h⟩ := ih (i + 1) (by omega); refine ⟨K + 1, fun k hk => ?_⟩; obtain ⟨k, rfl⟩ : ∃ m, k = m + 1 := ⟨k - 1, by omega⟩
  simp only [spec_Same.l0]; rw [if_pos (by omega), if_pos (by omega), if_pos (by omega), if_pos trivial, w64_1 (by omega)]; exact h k (by omega)
theorem dep_of (n : S25) (hl2 : n.f2.length ≤ 100000) (hl : n.f3.length ≤ 100000) (h : ∀ x ∈ n.f3, DepOk x) : DepOk n := by
 obtain ⟨K, b, h1⟩ := uni_l0 n.f0 n.f1 n.f2 n.f3 hl2 hl h n.f2.length 0 (by omega); obtain ⟨K2, h2⟩ := same_l0 n.f0 n.f1 n.f2 n.f3 hl2 hl h n.f2.length 0 (by omega); refine ⟨⟨K + 1, b, fun k hk => ?_⟩, K2 + 2, fun k hk => ?_⟩
 ·obtain ⟨k, rfl⟩ : ∃ m, k = m + 1 := ⟨k - 1, by omega⟩
  simp only [spec_Unique.f]; exact h1 k (by omega)
 ·obtain ⟨k, rfl⟩ : ∃ m, k = m + 2 := ⟨k - 2, by omega⟩
  simp only [spec_Same.f]; rw [if_pos trivial, if_pos trivial, if_pos trivial]; simp only [spec_Same.j0]; rw [if_neg (by simp)]; exact h2 k (by omega)
def TreeOk (a : ByteArray) (p : S31) : Prop := ∃ K, ∃ n : S25, (∀ k, K ≤ k → spec_Tree.f k a p.f0 p.f1 p.f2 p.f3 p.f4 = some (n.f0, n.f1, n.f2, n.f3)) ∧ DepOk n ∧ n.f0 = p.f0 ∧ n.f1.size ≤ 65536 ∧ (p.f0 = 3 → n.f1 = a.extract p.f1.toNat p.f2.toNat)
theorem tree_l1 (a : ByteArray) (p : S31) (f0 : Int) (f1 : ByteArray) (f2 : List ByteArray) (hl : p.f4.length ≤ 65536) : ∀ (s : List S31) (i : Nat), p.f4.drop i = s → (∀ q ∈ s, TreeOk a q) → ∀ acc : List S25, acc.length ≤ i → (∀ n ∈ acc, DepOk n) →
  ∃ K out, (∀ k, K ≤ k → spec_Tree.l1 k a (i : Int) p.f0 p.f1 p.f2 p.f3 p.f4 f0 f1 f2 acc = some (f0, f1, f2, out)) ∧ (∀ n ∈ out, DepOk n) ∧ out.length ≤ i + s.length := by
 intro s
 induction s with
 | nil =>
  intro i hs _ acc hacc hd; have hi : p.f4.length ≤ i := List.drop_eq_nil_iff.mp hs; refine ⟨1, acc, fun k hk => ?_, hd, by simpa using hacc⟩; obtain ⟨k, rfl⟩ : ∃ m, k = m + 1 := ⟨k - 1, by omega⟩
  simp only [spec_Tree.l1]; rw [if_neg (by omega)]
 | cons q s ih =>
  intro i hs hall acc hacc hd; have hlt := drop_lt hs; obtain ⟨K1, n, h1, h2, _⟩ := hall q List.mem_cons_self; obtain ⟨K2, out, g1, g2, g3⟩ := ih (i + 1) (drop_next hs) (fun x hx => hall x (List.mem_cons_of_mem _ hx)) (acc ++ [n]) (by simp; omega) (fun x hx => by
   rcases List.mem_append.mp hx with hx | hx
   ·exact hd x hx
   ·rw [List.mem_singleton.mp hx]; exact h2)
  refine ⟨K1 + K2 + 1, out, fun k hk => ?_, g2, by simp at g3 ⊢; omega⟩; obtain ⟨k, rfl⟩ : ∃ m, k = m + 1 := ⟨k - 1, by omega⟩
  simp only [spec_Tree.l1]; rw [if_pos (by omega), if_pos (by omega), rd60 hs, h1 k (by omega), Option.bind_some, if_pos (by omega), w64_1 (by omega)]; dsimp only; rw [eta25]; exact g1 k (by omega)
theorem tree_l0 (a : ByteArray) (hn : a.size ≤ 65536) (p : S31) (f0 : Int) (f1 : ByteArray) (hl3 : p.f3.length ≤ 65536) (hl : p.f4.length ≤ 65536) (hk : ∀ q ∈ p.f4, TreeOk a q) : ∀ (s : List S54) (i : Nat), p.f3.drop i = s → (∀ n ∈ s, ∃ u, NameAt (bytesOf a) n u) → ∀ acc : List ByteArray, acc.length ≤ i →
  ∃ K f2 out, (∀ k, K ≤ k → spec_Tree.l0 k a (i : Int) p.f0 p.f1 p.f2 p.f3 p.f4 f0 f1 acc = some (f0, f1, f2, out)) ∧ (∀ n ∈ out, DepOk n) ∧ out.length ≤ p.f4.length ∧ f2.length ≤ i + s.length := by
 intro s
 induction s with
 | nil =>
  intro i hs _ acc hacc; have hi : p.f3.length ≤ i := List.drop_eq_nil_iff.mp hs; obtain ⟨K, out, h1, h2, h3⟩ := tree_l1 a p f0 f1 acc hl p.f4 0 rfl hk [] (by simp) (fun n hn => by cases hn); refine ⟨K + 1, acc, out, fun k hk => ?_, h2, by omega, by simpa using hacc⟩; obtain ⟨k, rfl⟩ : ∃ m, k = m + 1 := ⟨k - 1, by omega⟩
  simp only [spec_Tree.l0]; rw [if_neg (by omega)]; exact h1 k (by omega)
 | cons q s ih =>
  intro i hs hall acc hacc; have hlt := drop_lt hs; obtain ⟨u, hu⟩ := hall q List.mem_cons_self; obtain ⟨K2, f2, out, g1, g2, g3, g4⟩ := ih (i + 1) (drop_next hs) (fun x hx => hall x (List.mem_cons_of_mem _ hx)) (acc ++ [strOfNums u]) (by simp; omega); refine ⟨K2 + 100001, f2, out, fun k hk => ?_, g2, g3, by simp only [List.length_cons]; omega⟩; obtain ⟨k, rfl⟩ : ∃ m, k = m + 1 := ⟨k - 1, by omega⟩
  obtain ⟨q1, q2, q3, q4⟩ := unquote_at a hn q u hu k (by omega); simp only [spec_Tree.l0]; rw [if_pos (by omega), if_pos (by omega), rd90 hs, if_pos q1, if_pos q2, if_pos q3, q4, Option.bind_some, if_pos (by omega), w64_1 (by omega)]; exact g1 k (by omega)
theorem tree_j0 (a : ByteArray) (hn : a.size ≤ 65536) (p : S31) (f1 : ByteArray) (hl3 : p.f3.length ≤ 65536) (hl : p.f4.length ≤ 65536) (hk : ∀ q ∈ p.f4, TreeOk a q) (hnm : ∀ n ∈ p.f3, ∃ u, NameAt (bytesOf a) n u) :
  ∃ K, ∃ n : S25, (∀ k, K ≤ k → spec_Tree.j0 k a p.f0 p.f1 p.f2 p.f3 p.f4 p.f0 f1 = some (n.f0, n.f1, n.f2, n.f3)) ∧ DepOk n ∧ n.f0 = p.f0 ∧ n.f1 = f1 := by
 obtain ⟨K, f2, out, h1, h2, h3, h4⟩ := tree_l0 a hn p p.f0 f1 hl3 hl hk p.f3 0 rfl hnm [] (by simp); refine ⟨K + 1, ⟨p.f0, f1, f2, out⟩, fun k hk => ?_, dep_of _ (by show f2.length ≤ 100000; omega) (by show out.length ≤ 100000; omega) h2, rfl, rfl⟩; obtain ⟨k, rfl⟩ : ∃ m, k = m + 1 := ⟨k - 1, by omega⟩
 simp only [spec_Tree.j0]; exact h1 k (by omega)
theorem tree_of (a : ByteArray) (hn : a.size ≤ 65536) (p : S31) (hl3 : p.f3.length ≤ 65536) (hl : p.f4.length ≤ 65536) (hk : ∀ q ∈ p.f4, TreeOk a q) (hnm : ∀ n ∈ p.f3, ∃ u, NameAt (bytesOf a) n u) (hleaf : LeafK (bytesOf a) p ∨ p.f0 = 5 ∨ p.f0 = 6) : TreeOk a p := by
 have plain : p.f0 ≠ 3 → p.f0 ≠ 4 → TreeOk a p := fun h3 h4 => by
  obtain ⟨K, n, h1, h2, h5, h6⟩ := tree_j0 a hn p ⟨#[]⟩ hl3 hl hk hnm; refine ⟨K + 1, n, fun k hk => ?_, h2, h5, by rw [h6]; decide, fun h => absurd h h3⟩; obtain ⟨k, rfl⟩ : ∃ m, k = m + 1 := ⟨k - 1, by omega⟩
  simp only [spec_Tree.f]; rw [if_neg h3, if_neg h4]; exact h1 k (by omega)
 rcases hleaf with (⟨h3, i, l, r, e1, e2, hd, hle⟩ | ⟨h4, u, hu⟩ | h0 | h0 | h0) | h0 | h0
 ·have hi : i + l.length ≤ a.size := by
   have h := congrArg List.length hd; rw [List.length_drop, List.length_append, bytesOf_length] at h; rw [bytesOf_length] at hle; omega
  obtain ⟨K, n, h1, h2, h5, h6⟩ := tree_j0 a hn p (a.extract p.f1.toNat p.f2.toNat) hl3 hl hk hnm; refine ⟨K + 1, n, fun k hk => ?_, h2, h5, ?_, fun _ => h6⟩
  ·obtain ⟨k, rfl⟩ : ∃ m, k = m + 1 := ⟨k - 1, by omega⟩
   simp only [spec_Tree.f]; rw [if_pos h3, if_pos (by omega), if_pos (by omega), if_pos (by omega)]; exact h1 k (by omega)
  ·rw [h6]; simp; omega
 ·obtain ⟨K, n, h1, h2, h5, h6⟩ := tree_j0 a hn p (strOfNums u) hl3 hl hk hnm; have hul : (strOfNums u).size ≤ 65536 := by rw [strOfNums_size]; have := name_len hu; rw [bytesOf_length] at this; omega
  refine ⟨K + 100001, n, fun k hk => ?_, h2, h5, by rw [h6]; exact hul, fun h => by omega⟩; obtain ⟨k, rfl⟩ : ∃ m, k = m + 1 := ⟨k - 1, by omega⟩
  obtain ⟨q1, q2, q3, q4⟩ := unquote_at a hn _ u hu k (by omega); simp only [spec_Tree.f]; rw [if_neg (by omega), if_pos h4, if_pos q1, if_pos q2, if_pos q3, q4, Option.bind_some]; exact h1 k (by omega)
 all_goals exact plain (by omega) (by omega)
theorem rlL_len {t : List Int} {ps : List S31} {ks : List J} (h : RlL t ps ks) : ps.length = ks.length := by
 induction ps generalizing ks with
 | nil => cases h; rfl
 | cons p ps ih =>
  cases h with
  | cons p j ps ks _ h => simp [ih h]
theorem rlM_len {t : List Int} {ns : List S54} {ps : List S31} {ms : List (List Int × J)} (h : RlM t ns ps ms) : ps.length = ms.length ∧ ns.length = ms.length := by
 induction ms generalizing ps ns with
 | nil => cases h; exact ⟨rfl, rfl⟩
 | cons m ms ih =>
  cases h with
  | cons n u p j ns ps ms _ _ h => simp [ih h]
mutual
theorem tree_all (a : ByteArray) (hn : a.size ≤ 65536) : ∀ {p : S31} {j : J}, Rl (bytesOf a) p j → TreeOk a p
 | _, _, .leaf p j h3 h4 hl _ => tree_of a hn p (by rw [h3]; simp) (by rw [h4]; simp) (by rw [h4]; intro q hq; cases hq) (by rw [h3]; intro q hq; cases hq) (.inl hl)
 | _, _, .arr p ks h5 h3 hl h => tree_of a hn p (by rw [h3]; simp) (by rw [rlL_len h]; exact hl) (tree_els a hn h) (by rw [h3]; intro q hq; cases hq) (.inr (.inl h5))
 | _, _, .obj p ms h6 hl h => tree_of a hn p (by rw [(rlM_len h).2]; exact hl) (by rw [(rlM_len h).1]; exact hl) (tree_mem a hn h).1 (tree_mem a hn h).2 (.inr (.inr h6))
theorem tree_els (a : ByteArray) (hn : a.size ≤ 65536) : ∀ {ps : List S31} {ks : List J}, RlL (bytesOf a) ps ks → ∀ q ∈ ps, TreeOk a q
 | _, _, .nil => fun q hq => by cases hq
 | _, _, .cons p j ps ks h hs => fun q hq => by
  rcases List.mem_cons.mp hq with rfl | hq
  ·exact tree_all a hn h
  ·exact tree_els a hn hs q hq
theorem tree_mem (a : ByteArray) (hn : a.size ≤ 65536) : ∀ {ns : List S54} {ps : List S31} {ms : List (List Int × J)}, RlM (bytesOf a) ns ps ms → (∀ q ∈ ps, TreeOk a q) ∧ (∀ n ∈ ns, ∃ u, NameAt (bytesOf a) n u)
 | _, _, _, .nil => ⟨fun q hq => (by cases hq), fun q hq => (by cases hq)⟩
 | _, _, _, .cons n u p j ns ps ms hu h hs => ⟨fun q hq => by
  rcases List.mem_cons.mp hq with rfl | hq
  ·exact tree_all a hn h
  ·exact (tree_mem a hn hs).1 q hq, fun q hq => by
  rcases List.mem_cons.mp hq with rfl | hq
  ·exact ⟨u, hu⟩
  ·exact (tree_mem a hn hs).2 q hq⟩
end
end Go.Proofs.YtdacgdjjdifneaaGreatDoor.PFnGjFlattenOften
