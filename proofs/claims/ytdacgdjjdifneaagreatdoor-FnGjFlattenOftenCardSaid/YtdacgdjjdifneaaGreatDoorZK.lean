/- Part of the proof of the card in text ZF. -/
import Derived.Test.YtdacgdjjdifneaaGreatDoorV0
import Derived.Test.YtdacgdjjdifneaaGreatDoorV1
import Derived.Test.YtdacgdjjdifneaaGreatDoorV4
import Derived.Test.YtdacgdjjdifneaaGreatDoorV5
import Derived.Test.YtdacgdjjdifneaaGreatDoorZD
import Derived.Test.YtdacgdjjdifneaaGreatDoorV6
set_option linter.all false
namespace Go.Proofs.YtdacgdjjdifneaaGreatDoor.PFnGjFlattenOften
open Go.RowKit Go.Proofs.YtdacgdjjdifneaaGreatDoorW.PrintWords Go.Proofs.YtdacgdjjdifneaaGreatDoorW.PrintLast Go.Proofs.YtdacgdjjdifneaaGreatDoorW.PrintMore
def NameAt (t : List Int) (n : S54) (u : List Int) : Prop := ∃ (b : Nat) (s r : List Int), n = ⟨(b : Int), ((b + s.length + 2 : Nat) : Int)⟩ ∧ t.drop b = 34 :: (s ++ 34 :: r) ∧ Un s u
def LeafK (t : List Int) (p : S31) : Prop := (p.f0 = 3 ∧ ∃ (i : Nat) (l r : List Int), p.f1 = (i : Int) ∧ p.f2 = ((i + l.length : Nat) : Int) ∧ t.drop i = l ++ r ∧ i ≤ t.length) ∨ (p.f0 = 4 ∧ ∃ u, NameAt t ⟨p.f1, p.f2⟩ u) ∨ p.f0 = 0 ∨ p.f0 = 1 ∨ p.f0 = 2
def TopK (p : S31) (i : Nat) (w : List Int) : Prop := (p.f0 = 3 ∧ p.f1 = (i : Int) ∧ p.f2 = ((i + w.length : Nat) : Int) ∧ (∀ c ∈ w, NumC c) ∧ ∃ c r, w = c :: r ∧ (c = 45 ∨ (48 ≤ c ∧ c ≤ 57))) ∨
 (p.f0 ≠ 3 ∧ ((∃ c r, w = c :: r ∧ (c = 123 ∨ c = 91 ∨ c = 34)) ∨ w = [110, 117, 108, 108] ∨ w = [102, 97, 108, 115, 101] ∨ w = [116, 114, 117, 101]))
theorem els_len {l : List Int} {ks : List J} (h : Els l ks) : ks.length ≤ l.length := by
 refine Els.rec (motive_1 := fun _ _ _ => True) (motive_2 := fun l ks _ => ks.length ≤ l.length) (motive_3 := fun _ _ _ => True) ?_ ?_ ?_ ?_ ?_ ?_ ?_ ?_ ?_ ?_ h
 all_goals first | (intros; trivial) | skip
 ·intro l j w _ _ _; simp only [List.length_cons, List.length_nil, List.length_append]; omega
 ·intro l j w1 w2 r ks _ _ _ _ _ ih; simp only [List.length_cons, List.length_append]; omega
theorem mbs_len {l : List Int} {ms : List (List Int × J)} (h : Mbs l ms) : ms.length ≤ l.length := by
 refine Mbs.rec (motive_1 := fun _ _ _ => True) (motive_2 := fun _ _ _ => True) (motive_3 := fun l ms _ => ms.length ≤ l.length) ?_ ?_ ?_ ?_ ?_ ?_ ?_ ?_ ?_ ?_ h
 all_goals first | (intros; trivial) | skip
 ·intro s u w1 w2 l j w3 _ _ _ _ _ _; simp only [List.length_cons, List.length_nil, List.length_append]; omega
 ·intro s u w1 w2 l j w3 w4 r ms _ _ _ _ _ _ _ _ ih; simp only [List.length_cons, List.length_append]; omega
theorem v_arr_len {l : List Int} {ks : List J} (h : V l (.arr ks)) : ks.length ≤ l.length := by
 cases h with
 | arr0 w _ => simp
 | arr w l ks _ h => have := els_len h; simp only [List.length_cons, List.length_append]; omega
theorem v_obj_len {l : List Int} {ks : List (List Int × J)} (h : V l (.obj ks)) : ks.length ≤ l.length := by
 cases h with
 | obj0 w _ => simp
 | obj w l ks _ h => have := mbs_len h; simp only [List.length_cons, List.length_append]; omega
mutual
inductive Rl (t : List Int) : S31 → J → Prop
 | leaf (p : S31) (j : J) : p.f3 = [] → p.f4 = [] → LeafK t p → (j = .atom ∨ j = .str) → Rl t p j
 | arr (p : S31) (ks : List J) : p.f0 = 5 → p.f3 = [] → ks.length ≤ 65536 → RlL t p.f4 ks → Rl t p (.arr ks)
 | obj (p : S31) (ms : List (List Int × J)) : p.f0 = 6 → ms.length ≤ 65536 → RlM t p.f3 p.f4 ms → Rl t p (.obj ms)
inductive RlL (t : List Int) : List S31 → List J → Prop
 | nil : RlL t [] []
 | cons (p : S31) (j : J) (ps : List S31) (ks : List J) : Rl t p j → RlL t ps ks → RlL t (p :: ps) (j :: ks)
inductive RlM (t : List Int) : List S54 → List S31 → List (List Int × J) → Prop
 | nil : RlM t [] [] []
 | cons (n : S54) (u : List Int) (p : S31) (j : J) (ns : List S54) (ps : List S31) (ms : List (List Int × J)) : NameAt t n u → Rl t p j → RlM t ns ps ms → RlM t (n :: ns) (p :: ps) ((u, j) :: ms)
end
theorem eta31 (p : S31) : (⟨p.f0, p.f1, p.f2, p.f3, p.f4⟩ : S31) = p := by cases p; rfl
abbrev ValT := Int × Int × Int × (List S54) × (List S31) × Bool × ByteArray × Int
def ValOk (a : ByteArray) (i : Nat) (r : ValT) : Prop :=
 ∃ (p : S31) (w rest : List Int) (j : J), (bytesOf a).drop i = w ++ rest ∧ r = (p.f0, p.f1, p.f2, p.f3, p.f4, true, a, ((i + w.length : Nat) : Int)) ∧ V w j ∧ Rl (bytesOf a) p j ∧ TopK p i w
theorem dlen (a : ByteArray) (i : Nat) : ((bytesOf a).drop i).length = a.size - i := by rw [List.length_drop, bytesOf_length]
theorem here_f (a : ByteArray) (i : Nat) : ∃ c, spec_reader_here.f a (i : Int) = some (c, a, (i : Int)) ∧ (∀ d r', (bytesOf a).drop i = d :: r' → c = d) ∧ ((bytesOf a).drop i = [] → c = 0) := by
 cases hr : (bytesOf a).drop i with
 | nil => exact ⟨0, here_nil hr, fun _ _ e => (by cases e), fun _ => rfl⟩
 | cons d' r' => exact ⟨d', here_cons hr, fun _ _ e => by injection e, fun e => (by cases e)⟩
theorem here_is {a : ByteArray} {i : Nat} {c x : Int} (h1 : ∀ d r', (bytesOf a).drop i = d :: r' → c = d) (h2 : (bytesOf a).drop i = [] → c = 0) (hc : c = x) (hx : x ≠ 0) : ∃ r, (bytesOf a).drop i = x :: r := by
 cases hr : (bytesOf a).drop i with
 | nil => exact absurd ((h2 hr).symm.trans hc) (Ne.symm hx)
 | cons d r => exact ⟨r, by rw [← hc, h1 d r hr]⟩
theorem value_j0 (a : ByteArray) (hn : a.size ≤ 65536) (i k : Nat) (hi : i ≤ a.size) (hk : a.size + 10 ≤ k) (num : Bool) (hnum : num = true → ∃ c r, (bytesOf a).drop i = c :: r ∧ (c = 45 ∨ (48 ≤ c ∧ c ≤ 57))) :
  ∃ r, spec_reader_value.j0 k true num a (i : Int) 0 (i : Int) 0 = some r ∧ (r.2.2.2.2.2.1 = true → ValOk a i r) := by
 obtain ⟨k, rfl⟩ : ∃ m, k = m + 1 := ⟨k - 1, by omega⟩
 simp only [spec_reader_value.j0]
 cases num with
 | true =>
  rw [if_pos rfl]; obtain ⟨b, w, r, e, he, hb⟩ := number_f a hn i k (by omega); rw [he]; refine ⟨_, rfl, fun ok => ?_⟩; have ok : b = true := ok; subst ok; have hN := hb rfl; obtain ⟨hw, hhd⟩ := hN.c; exact ⟨⟨3, (i : Int), ((i + w.length : Nat) : Int), [], []⟩, w, r, .atom, e, rfl, .atom w (.inr (.inr (.inr hN))), .leaf _ _ rfl rfl (.inl ⟨rfl, i, w, r, rfl, rfl, e, by rw [bytesOf_length]; exact hi⟩) (.inl rfl), .inl ⟨rfl, rfl, rfl, hw, hhd⟩⟩
 | false =>
  rw [if_neg (by decide)]; obtain ⟨b, w, r, e, he, hw⟩ := word_f a hn i hi (⟨#[110, 117, 108, 108]⟩ : ByteArray) (by decide); rw [he]; simp only [Option.bind_some]
  rcases hw with ⟨rfl, hw⟩ | ⟨rfl, rfl⟩
  ·rw [if_pos rfl]; exact ⟨_, rfl, fun ok => ⟨⟨0, (i : Int), ((i + w.length : Nat) : Int), [], []⟩, w, r, .atom, e, rfl, .atom w (.inl hw), .leaf _ _ rfl rfl (.inr (.inr (.inl rfl))) (.inl rfl), .inr ⟨by simp, .inr (.inl hw)⟩⟩⟩
  rw [if_neg (by decide)]; simp only [List.length_nil, Nat.add_zero]; obtain ⟨b, w, r, e, he, hw⟩ := word_f a hn i hi (⟨#[102, 97, 108, 115, 101]⟩ : ByteArray) (by decide); rw [he]; simp only [Option.bind_some]
  rcases hw with ⟨rfl, hw⟩ | ⟨rfl, rfl⟩
  ·rw [if_pos rfl]; exact ⟨_, rfl, fun ok => ⟨⟨1, (i : Int), ((i + w.length : Nat) : Int), [], []⟩, w, r, .atom, e, rfl, .atom w (.inr (.inl hw)), .leaf _ _ rfl rfl (.inr (.inr (.inr (.inl rfl)))) (.inl rfl), .inr ⟨by simp, .inr (.inr (.inl hw))⟩⟩⟩
  rw [if_neg (by decide)]; simp only [List.length_nil, Nat.add_zero]; obtain ⟨b, w, r, e, he, hw⟩ := word_f a hn i hi (⟨#[116, 114, 117, 101]⟩ : ByteArray) (by decide); rw [he]; simp only [Option.bind_some]
  rcases hw with ⟨rfl, hw⟩ | ⟨rfl, rfl⟩
  ·rw [if_pos rfl]; exact ⟨_, rfl, fun ok => ⟨⟨2, (i : Int), ((i + w.length : Nat) : Int), [], []⟩, w, r, .atom, e, rfl, .atom w (.inr (.inr (.inl hw))), .leaf _ _ rfl rfl (.inr (.inr (.inr (.inr rfl)))) (.inl rfl), .inr ⟨by simp, .inr (.inr (.inr hw))⟩⟩⟩
  rw [if_neg (by decide)]; exact ⟨_, rfl, fun ok => (by cases ok)⟩
def MemOk (a : ByteArray) (i : Nat) (x5 : List S54) (x6 : List S31) (r : List S54 × List S31 × Bool × ByteArray × Int) : Prop :=
 ∃ (ns : List S54) (ps : List S31) (w rest : List Int) (ms : List (List Int × J)), (bytesOf a).drop i = w ++ rest ∧ r = (x5 ++ ns, x6 ++ ps, true, a, ((i + w.length : Nat) : Int)) ∧ Mbs w ms ∧ RlM (bytesOf a) ns ps ms
def ElsOk (a : ByteArray) (i : Nat) (x6 : List S31) (r : List S31 × Bool × ByteArray × Int) : Prop :=
 ∃ (ps : List S31) (w rest : List Int) (ks : List J), (bytesOf a).drop i = w ++ rest ∧ r = (x6 ++ ps, true, a, ((i + w.length : Nat) : Int)) ∧ Els w ks ∧ RlL (bytesOf a) ps ks
def ReadsM (a : ByteArray) (m : Nat) : Prop :=
 (∀ i k, i ≤ a.size → a.size - i < m → 10 * m + a.size + 100 ≤ k → ∃ r, spec_reader_value.f k a (i : Int) = some r ∧ (r.2.2.2.2.2.1 = true → ValOk a i r)) ∧
 (∀ i k (x5 : List S54) (x6 : List S31), i ≤ a.size → a.size - i < m → 10 * m + a.size + 100 ≤ k → x5.length ≤ i → x6.length ≤ i → ∃ r, spec_reader_members.l0 k x5 x6 a (i : Int) = some r ∧ (r.2.2.1 = true → MemOk a i x5 x6 r)) ∧
 (∀ i k (x6 : List S31), i ≤ a.size → a.size - i < m → 10 * m + a.size + 100 ≤ k → x6.length ≤ i → ∃ r, spec_reader_elements.l0 k x6 a (i : Int) = some r ∧ (r.2.1 = true → ElsOk a i x6 r))
theorem Stp.le {a : ByteArray} {i : Nat} {w r : List Int} (e : (bytesOf a).drop i = w ++ r) (hi : i ≤ a.size) : i + w.length ≤ a.size := by
 have h1 := dlen a i; rw [e, List.length_append] at h1; omega
theorem reads_members (a : ByteArray) (hn : a.size ≤ 65536) (m : Nat) (ih : ReadsM a m) (i k : Nat) (s : List Int) (hs : (bytesOf a).drop i = 123 :: s) (him : a.size - i < m + 1) (hk : 10 * m + a.size + 105 ≤ k) :
  ∃ r, spec_reader_members.f k a (i : Int) = some r ∧ (r.2.2.1 = true → ∃ (w rest : List Int) (ms : List (List Int × J)), (bytesOf a).drop i = w ++ rest ∧ r.2.2.2 = (a, ((i + w.length : Nat) : Int)) ∧ V w (.obj ms) ∧ RlM (bytesOf a) r.1 r.2.1 ms ∧ ∃ z, w = 123 :: z) := by
 obtain ⟨k, rfl⟩ : ∃ m, k = m + 1 := ⟨k - 1, by omega⟩
 have hlt := sz_lt hs; simp only [spec_reader_members.f]; rw [w64_1 (by omega)]; have h1 := drop_next hs; obtain ⟨w, r, e, hw, hnb, he⟩ := blanks_f a hn (k := k) h1 (by have := dlen a (i + 1); rw [h1] at this; omega); rw [he]; simp only [Option.bind_some]; rw [e] at h1; have hle := Stp.le h1 (by omega); obtain ⟨b, v, r2, e2, he2, hv⟩ := take_f a hn (i + 1 + w.length) 125; rw [he2]; simp only [Option.bind_some]
 rcases hv with ⟨rfl, rfl⟩ | ⟨rfl, rfl, hno⟩
 ·rw [if_pos rfl]; rw [drop_app h1] at e2; refine ⟨_, rfl, fun _ => ⟨123 :: (w ++ [125]), r2, [], ?_, ?_, .obj0 w hw, .nil, _, rfl⟩⟩
  ·rw [hs, e, e2]; simp
  ·simp only [List.length_cons, List.length_append, List.length_nil]; rw [show i + 1 + w.length + (0 + 1) = i + (w.length + (0 + 1) + 1) by omega]
 ·rw [if_neg (by decide)]; simp only [List.length_nil, Nat.add_zero]; obtain ⟨r3, hr3, hok⟩ := ih.2.1 (i + 1 + w.length) k [] [] hle (by omega) (by omega) (by simp) (by simp); refine ⟨r3, hr3, fun ok => ?_⟩; obtain ⟨ns, ps, w4, rest, ms, e4, he4, hM, hR⟩ := hok ok; subst he4; rw [drop_app h1] at e4; refine ⟨123 :: (w ++ w4), rest, ms, ?_, ?_, .obj w w4 ms hw hM, hR, _, rfl⟩
  ·rw [hs, e, e4]; simp
  ·simp only [List.length_cons, List.length_append]; rw [show i + 1 + w.length + w4.length = i + (w.length + w4.length + 1) by omega]
theorem reads_elements (a : ByteArray) (hn : a.size ≤ 65536) (m : Nat) (ih : ReadsM a m) (i k : Nat) (s : List Int) (hs : (bytesOf a).drop i = 91 :: s) (him : a.size - i < m + 1) (hk : 10 * m + a.size + 105 ≤ k) :
  ∃ r, spec_reader_elements.f k a (i : Int) = some r ∧ (r.2.1 = true → ∃ (w rest : List Int) (ks : List J), (bytesOf a).drop i = w ++ rest ∧ r.2.2 = (a, ((i + w.length : Nat) : Int)) ∧ V w (.arr ks) ∧ RlL (bytesOf a) r.1 ks ∧ ∃ z, w = 91 :: z) := by
 obtain ⟨k, rfl⟩ : ∃ m, k = m + 1 := ⟨k - 1, by omega⟩
 have hlt := sz_lt hs; simp only [spec_reader_elements.f]; rw [w64_1 (by omega)]; have h1 := drop_next hs; obtain ⟨w, r, e, hw, hnb, he⟩ := blanks_f a hn (k := k) h1 (by have := dlen a (i + 1); rw [h1] at this; omega); rw [he]; simp only [Option.bind_some]; rw [e] at h1; have hle := Stp.le h1 (by omega); obtain ⟨b, v, r2, e2, he2, hv⟩ := take_f a hn (i + 1 + w.length) 93; rw [he2]; simp only [Option.bind_some]
 rcases hv with ⟨rfl, rfl⟩ | ⟨rfl, rfl, hno⟩
 ·rw [if_pos rfl]; rw [drop_app h1] at e2; refine ⟨_, rfl, fun _ => ⟨91 :: (w ++ [93]), r2, [], ?_, ?_, .arr0 w hw, .nil, _, rfl⟩⟩
  ·rw [hs, e, e2]; simp
  ·simp only [List.length_cons, List.length_append, List.length_nil]; rw [show i + 1 + w.length + (0 + 1) = i + (w.length + (0 + 1) + 1) by omega]
 ·rw [if_neg (by decide)]; simp only [List.length_nil, Nat.add_zero]; obtain ⟨r3, hr3, hok⟩ := ih.2.2 (i + 1 + w.length) k [] hle (by omega) (by omega) (by simp); refine ⟨r3, hr3, fun ok => ?_⟩; obtain ⟨ps, w4, rest, ks, e4, he4, hM, hR⟩ := hok ok; subst he4; rw [drop_app h1] at e4; refine ⟨91 :: (w ++ w4), rest, ks, ?_, ?_, .arr w w4 ks hw hM, hR, _, rfl⟩
  ·rw [hs, e, e4]; simp
  ·simp only [List.length_cons, List.length_append]; rw [show i + 1 + w.length + w4.length = i + (w.length + w4.length + 1) by omega]
theorem reads_value (a : ByteArray) (hn : a.size ≤ 65536) (m : Nat) (ih : ReadsM a m) (i k : Nat) (hi : i ≤ a.size) (him : a.size - i < m + 1) (hk : 10 * m + a.size + 107 ≤ k) :
  ∃ r, spec_reader_value.f k a (i : Int) = some r ∧ (r.2.2.2.2.2.1 = true → ValOk a i r) := by
 obtain ⟨k, rfl⟩ : ∃ m, k = m + 1 := ⟨k - 1, by omega⟩
 simp only [spec_reader_value.f]; obtain ⟨c, hc, h1, h2⟩ := here_f a i; rw [hc]; simp only [Option.bind_some]
 by_cases c1 : c = 123
 ·rw [if_pos c1]; obtain ⟨s, hs⟩ := here_is h1 h2 c1 (by decide); obtain ⟨r, hr, hok⟩ := reads_members a hn m ih i k s hs him (by omega); rw [hr]; refine ⟨_, rfl, fun ok => ?_⟩; obtain ⟨w, rest, ms, e, he, hV, hR, z, hz⟩ := hok ok; have ok : r.2.2.1 = true := ok; refine ⟨⟨6, (i : Int), r.2.2.2.2, r.1, r.2.1⟩, w, rest, .obj ms, e, ?_, hV, .obj _ ms rfl (Nat.le_trans (v_obj_len hV) (by have := Stp.le e hi; omega)) hR, .inr ⟨by simp, .inl ⟨_, z, hz, by decide⟩⟩⟩; simp only [ok, he]
 rw [if_neg c1]
 by_cases c2 : c = 91
 ·rw [if_pos c2]; obtain ⟨s, hs⟩ := here_is h1 h2 c2 (by decide); obtain ⟨r, hr, hok⟩ := reads_elements a hn m ih i k s hs him (by omega); rw [hr]; refine ⟨_, rfl, fun ok => ?_⟩; obtain ⟨w, rest, ms, e, he, hV, hR, z, hz⟩ := hok ok; have ok : r.2.1 = true := ok; refine ⟨⟨5, (i : Int), r.2.2.2, [], r.1⟩, w, rest, .arr ms, e, ?_, hV, .arr _ ms rfl rfl (Nat.le_trans (v_arr_len hV) (by have := Stp.le e hi; omega)) hR, .inr ⟨by simp, .inl ⟨_, z, hz, by decide⟩⟩⟩; simp only [ok, he]
 rw [if_neg c2]
 by_cases c3 : c = 34
 ·rw [if_pos c3]; obtain ⟨s, hs⟩ := here_is h1 h2 c3 (by decide); obtain ⟨b, w, r, e, he, hq⟩ := quoted_f a hn i k (by omega) (by have := sz_lt hs; omega) s hs; rw [he]; refine ⟨_, rfl, fun ok => ?_⟩; have ok : b = true := ok; subst ok; obtain ⟨q, rfl, hq2⟩ := hq rfl; obtain ⟨u, hu⟩ := SB.un q.length (Nat.le_refl _) hq2; exact ⟨⟨4, (i : Int), _, [], []⟩, _, r, .str, e, rfl, .str q hq2, .leaf _ _ rfl rfl (.inr (.inl ⟨rfl, u, i, q, r, by rw [show (34 :: (q ++ [34])).length = q.length + 2 by simp]; rfl, by rw [e]; simp, hu⟩)) (.inr rfl), .inr ⟨by simp, .inl ⟨_, _, rfl, by decide⟩⟩⟩
 rw [if_neg c3]
 by_cases c4 : c = 45
 ·rw [if_pos c4]; obtain ⟨s, hs⟩ := here_is h1 h2 c4 (by decide); exact value_j0 a hn i k hi (by omega) true (fun _ => ⟨45, s, hs, .inl rfl⟩)
 rw [if_neg c4]
 by_cases c5 : 48 ≤ c
 ·rw [if_pos c5]; refine value_j0 a hn i k hi (by omega) _ (fun h => ?_); have h57 : c ≤ 57 := by simpa using h
  obtain ⟨s, hs⟩ := here_is h1 h2 rfl (by omega); exact ⟨c, s, hs, .inr ⟨c5, h57⟩⟩
 ·rw [if_neg c5]; exact value_j0 a hn i k hi (by omega) false (fun h => by cases h)
theorem reads_els (a : ByteArray) (hn : a.size ≤ 65536) (m : Nat) (ih : ReadsM a m) (i k : Nat) (x6 : List S31) (hi : i ≤ a.size) (him : a.size - i < m + 1) (hk : 10 * m + a.size + 110 ≤ k) (h6 : x6.length ≤ i)
  (hv : ∃ r, spec_reader_value.f (k - 1) a (i : Int) = some r ∧ (r.2.2.2.2.2.1 = true → ValOk a i r)) :
  ∃ r, spec_reader_elements.l0 k x6 a (i : Int) = some r ∧ (r.2.1 = true → ElsOk a i x6 r) := by
 obtain ⟨k, rfl⟩ : ∃ m, k = m + 1 := ⟨k - 1, by omega⟩
 simp only [spec_reader_elements.l0]; obtain ⟨r, hr, hok⟩ := hv; rw [show k + 1 - 1 = k by omega] at hr; rw [hr]; simp only [Option.bind_some]
 by_cases ok : r.2.2.2.2.2.1 = true
 rotate_left
 ·rw [if_neg ok]; exact ⟨_, rfl, fun h => (by cases h)⟩
 obtain ⟨p, w, r1, j, e1, rfl, hV, hRl, _⟩ := hok ok; simp only [if_true]; have hle1 := Stp.le e1 hi; rw [if_pos (by omega)]; have hd1 := drop_app e1; obtain ⟨w1, r2, e2, hw1, hnb, he2⟩ := blanks_f a hn (k := k) hd1 (by have := dlen a (i + w.length); rw [hd1] at this; omega); rw [he2]; simp only [Option.bind_some]; rw [e2] at hd1; have hle2 := Stp.le hd1 hle1; have hd2 := drop_app hd1; obtain ⟨b, v, r3, e3, he3, hv⟩ := take_f a hn (i + w.length + w1.length) 93; rw [he3]; simp only [Option.bind_some]; rw [hd2] at e3
 rcases hv with ⟨rfl, rfl⟩ | ⟨rfl, rfl, hno⟩
 ·rw [if_pos rfl]; refine ⟨_, rfl, fun _ => ⟨[p], w ++ (w1 ++ [93]), r3, [j], ?_, ?_, .last w j w1 hV hw1, .cons p j [] [] hRl .nil⟩⟩
  ·rw [e1, e2, e3]; simp
  ·simp only [List.length_cons, List.length_append, List.length_nil]; rw [show i + w.length + w1.length + (0 + 1) = i + (w.length + (w1.length + (0 + 1))) by omega]; rw [eta31]
 ·rw [if_neg (by decide)]; simp only [List.length_nil, Nat.add_zero]; obtain ⟨b, v, r3, e3, he3, hv⟩ := take_f a hn (i + w.length + w1.length) 44; rw [he3]; simp only [Option.bind_some]; rw [hd2] at e3
  rcases hv with ⟨rfl, rfl⟩ | ⟨rfl, rfl, hno⟩
  rotate_left
  ·rw [if_neg (by decide)]; exact ⟨_, rfl, fun h => (by cases h)⟩
  rw [if_pos rfl]; have hd3 : (bytesOf a).drop (i + w.length + w1.length + [(44 : Int)].length) = r3 := drop_app (by rw [hd2]; exact e3); have hlt3 : i + w.length + w1.length < a.size := sz_lt (by rw [hd2]; exact e3); obtain ⟨w2, r4, e4, hw2, hnb2, he4⟩ := blanks_f a hn (k := k) hd3 (by have := dlen a (i + w.length + w1.length + [(44 : Int)].length); rw [hd3] at this; omega); rw [he4]; simp only [Option.bind_some]; rw [e4] at hd3; have hle4 := Stp.le hd3 (by simp; omega); obtain ⟨r5, hr5, hok5⟩ := ih.2.2 (i + w.length + w1.length + [(44 : Int)].length + w2.length) k (x6 ++ [⟨p.f0, p.f1, p.f2, p.f3, p.f4⟩]) hle4 (by simp; omega) (by omega) (by simp; omega); refine ⟨r5, hr5, fun ok5 => ?_⟩; obtain ⟨ps, w6, rest, ks, e6, rfl, hE, hL⟩ := hok5 ok5; rw [drop_app hd3] at e6
  refine ⟨p :: ps, w ++ (w1 ++ 44 :: (w2 ++ w6)), rest, j :: ks, ?_, ?_, .more w j w1 w2 w6 ks hV hw1 hw2 hE, .cons p j ps ks hRl hL⟩
  ·rw [e1, e2, e3, e4, e6]; simp
  ·simp only [List.length_cons, List.length_append, List.length_nil, List.append_assoc, List.cons_append, List.nil_append]; rw [show i + w.length + w1.length + (0 + 1) + w2.length + w6.length = i + (w.length + (w1.length + (w2.length + w6.length + 1))) by omega]; rw [eta31]
theorem reads_mem (a : ByteArray) (hn : a.size ≤ 65536) (m : Nat) (ih : ReadsM a m) (i k : Nat) (x5 : List S54) (x6 : List S31) (hi : i ≤ a.size) (him : a.size - i < m + 1) (hk : 10 * m + a.size + 110 ≤ k) (h5 : x5.length ≤ i) (h6 : x6.length ≤ i) :
  ∃ r, spec_reader_members.l0 k x5 x6 a (i : Int) = some r ∧ (r.2.2.1 = true → MemOk a i x5 x6 r) := by
 obtain ⟨k, rfl⟩ : ∃ m, k = m + 2 := ⟨k - 2, by omega⟩
 simp only [spec_reader_members.l0]; obtain ⟨c, hc, h1, h2⟩ := here_f a i; rw [hc]; simp only [Option.bind_some]
 by_cases c1 : c = 34
 rotate_left
 ·rw [if_neg c1]; simp only [spec_reader_members.j1]; exact ⟨_, rfl, fun h => (by cases h)⟩
 rw [if_pos c1]; obtain ⟨s, hs⟩ := here_is h1 h2 c1 (by decide); have hlt := sz_lt hs; obtain ⟨b, q, r0, e0, he0, hq⟩ := quoted_f a hn i (k + 1) (by omega) (by omega) s hs; rw [he0]; simp only [Option.bind_some, spec_reader_members.j1]
 cases b with
 | false => exact ⟨_, rfl, fun h => (by cases h)⟩
 | true =>
 obtain ⟨q, rfl, hq2⟩ := hq rfl; obtain ⟨u, hu⟩ := SB.un q.length (Nat.le_refl _) hq2; rw [if_neg (by decide), if_pos (by omega)]; have hle0 := Stp.le e0 hi; have hd0 := drop_app e0; have hql : (34 :: (q ++ [34])).length = q.length + 2 := by simp
 obtain ⟨w1, r1, e1, hw1, hnb1, he1⟩ := blanks_f a hn (k := k) hd0 (by have := dlen a (i + (34 :: (q ++ [34])).length); rw [hd0] at this; omega); rw [he1]; simp only [Option.bind_some]; rw [e1] at hd0; have hle1 := Stp.le hd0 hle0; have hd1 := drop_app hd0; obtain ⟨b, v, r2, e2, he2, hv⟩ := take_f a hn (i + (34 :: (q ++ [34])).length + w1.length) 58; rw [he2]; simp only [Option.bind_some]; rw [hd1] at e2
 rcases hv with ⟨rfl, rfl⟩ | ⟨rfl, rfl, hno⟩
 rotate_left
 ·rw [if_neg (by decide)]; exact ⟨_, rfl, fun h => (by cases h)⟩
 rw [if_pos rfl]; have hlt2 : i + (34 :: (q ++ [34])).length + w1.length < a.size := sz_lt (by rw [hd1]; exact e2); have hd2 : (bytesOf a).drop (i + (34 :: (q ++ [34])).length + w1.length + [(58 : Int)].length) = r2 := drop_app (by rw [hd1]; exact e2); obtain ⟨w2, r3, e3, hw2, hnb2, he3⟩ := blanks_f a hn (k := k) hd2 (by have := dlen a (i + (34 :: (q ++ [34])).length + w1.length + [(58 : Int)].length); rw [hd2] at this; omega); rw [he3]; simp only [Option.bind_some]; rw [e3] at hd2; have hle3 := Stp.le hd2 (by simp at hlt2 ⊢; omega); have hd3 := drop_app hd2; generalize hI : i + (34 :: (q ++ [34])).length + w1.length + [(58 : Int)].length + w2.length = I at hle3 hd3 ⊢; have hI' : I = i + q.length + w1.length + w2.length + 3 := by rw [← hI, hql]; simp; omega
 obtain ⟨r, hr, hok⟩ := ih.1 I k hle3 (by omega) (by omega); rw [hr]; simp only [Option.bind_some]
 by_cases ok : r.2.2.2.2.2.1 = true
 rotate_left
 ·rw [if_neg ok]; exact ⟨_, rfl, fun h => (by cases h)⟩
 obtain ⟨p, w, r4, j, e4, rfl, hV, hRl, _⟩ := hok ok; simp only [if_true]; have hle4 := Stp.le e4 hle3; rw [if_pos (by omega)]; have hd4 := drop_app e4; obtain ⟨w3, r5, e5, hw3, hnb3, he5⟩ := blanks_f a hn (k := k) hd4 (by have := dlen a (I + w.length); rw [hd4] at this; omega); rw [he5]; simp only [Option.bind_some]; rw [e5] at hd4; have hle5 := Stp.le hd4 hle4; have hd5 := drop_app hd4; have hname : NameAt (bytesOf a) ⟨(i : Int), ((i + (34 :: (q ++ [34])).length : Nat) : Int)⟩ u := ⟨i, q, r0, by rw [hql]; rfl, by rw [e0]; simp, hu⟩
 rw [hd3] at e4; obtain ⟨b, v, r6, e6, he6, hv⟩ := take_f a hn (I + w.length + w3.length) 125; rw [he6]; simp only [Option.bind_some]; rw [hd5] at e6
 rcases hv with ⟨rfl, rfl⟩ | ⟨rfl, rfl, hno⟩
 ·rw [if_pos rfl]; refine ⟨_, rfl, fun _ => ⟨[⟨(i : Int), ((i + (34 :: (q ++ [34])).length : Nat) : Int)⟩], [p], 34 :: (q ++ 34 :: (w1 ++ 58 :: (w2 ++ (w ++ (w3 ++ [125]))))), r6, [(u, j)], ?_, ?_, .last q u w1 w2 w j w3 hu hw1 hw2 hV hw3, .cons _ u p j [] [] [] hname hRl .nil⟩⟩
  ·rw [e0, e1, e2, e3, e4, e5, e6]; simp
  ·simp only [List.length_cons, List.length_append, List.length_nil]; rw [show I + w.length + w3.length + (0 + 1) = i + (q.length + (w1.length + (w2.length + (w.length + (w3.length + (0 + 1))) + 1) + 1) + 1) by omega]; rw [eta31]
 ·rw [if_neg (by decide)]; simp only [List.length_nil, Nat.add_zero]; obtain ⟨b, v, r6, e6, he6, hv⟩ := take_f a hn (I + w.length + w3.length) 44; rw [he6]; simp only [Option.bind_some]; rw [hd5] at e6
  rcases hv with ⟨rfl, rfl⟩ | ⟨rfl, rfl, hno⟩
  rotate_left
  ·rw [if_neg (by decide)]; exact ⟨_, rfl, fun h => (by cases h)⟩
  rw [if_pos rfl]; have hlt6 : I + w.length + w3.length < a.size := sz_lt (by rw [hd5]; exact e6); have hd6 : (bytesOf a).drop (I + w.length + w3.length + [(44 : Int)].length) = r6 := drop_app (by rw [hd5]; exact e6); obtain ⟨w4, r7, e7, hw4, hnb4, he7⟩ := blanks_f a hn (k := k) hd6 (by have := dlen a (I + w.length + w3.length + [(44 : Int)].length); rw [hd6] at this; omega); rw [he7]; simp only [Option.bind_some]; rw [e7] at hd6; have hle7 := Stp.le hd6 (by simp; omega); obtain ⟨r8, hr8, hok8⟩ := ih.2.1 (I + w.length + w3.length + [(44 : Int)].length + w4.length) k (x5 ++ [⟨(i : Int), ((i + (34 :: (q ++ [34])).length : Nat) : Int)⟩]) (x6 ++ [⟨p.f0, p.f1, p.f2, p.f3, p.f4⟩]) hle7 (by simp; omega) (by omega) (by simp; omega) (by simp; omega); refine ⟨r8, hr8, fun ok8 => ?_⟩; obtain ⟨ns, ps, w9, rest, ms, e9, rfl, hM, hR⟩ := hok8 ok8; rw [drop_app hd6] at e9
  refine ⟨⟨(i : Int), ((i + (34 :: (q ++ [34])).length : Nat) : Int)⟩ :: ns, p :: ps, 34 :: (q ++ 34 :: (w1 ++ 58 :: (w2 ++ (w ++ (w3 ++ 44 :: (w4 ++ w9)))))), rest, (u, j) :: ms, ?_, ?_, .more q u w1 w2 w j w3 w4 w9 ms hu hw1 hw2 hV hw3 hw4 hM, .cons _ u p j ns ps ms hname hRl hR⟩
  ·rw [e0, e1, e2, e3, e4, e5, e6, e7, e9]; simp
  ·simp only [List.length_cons, List.length_append, List.length_nil, List.append_assoc, List.cons_append, List.nil_append]; rw [show I + w.length + w3.length + (0 + 1) + w4.length + w9.length = i + (q.length + (w1.length + (w2.length + (w.length + (w3.length + (w4.length + w9.length + 1))) + 1) + 1) + 1) by omega]; rw [eta31]
theorem reads_all (a : ByteArray) (hn : a.size ≤ 65536) : ∀ m, ReadsM a m
 | 0 => ⟨fun i k _ h _ => by omega, fun i k x5 x6 _ h _ _ _ => by omega, fun i k x6 _ h _ _ => by omega⟩
 | m + 1 => by
  have ih := reads_all a hn m; exact ⟨fun i k hi him hk => reads_value a hn m ih i k hi him (by omega), fun i k x5 x6 hi him hk h5 h6 => reads_mem a hn m ih i k x5 x6 hi him (by omega) h5 h6, fun i k x6 hi him hk h6 => reads_els a hn m ih i k x6 hi him (by omega) h6 (reads_value a hn m ih i (k - 1) hi him (by omega))⟩
theorem places_all (a : ByteArray) (hn : a.size ≤ 65536) (k : Nat) (hk : 1000000 ≤ k) : ∃ r, spec_Places.f k a = some r ∧ (r.2.2.2.2.2 = true → ∃ (p : S31) (w l v : List Int) (j : J), bytesOf a = w ++ (l ++ v) ∧ Ws w ∧ Ws v ∧ V l j ∧ r = (p.f0, p.f1, p.f2, p.f3, p.f4, true) ∧ Rl (bytesOf a) p j ∧ TopK p w.length l) := by
 unfold spec_Places.f; obtain ⟨w, r, e, hw, hnb, he⟩ := blanks_f a hn (i := 0) (k := k) (s := bytesOf a) rfl (by rw [bytesOf_length]; omega); have he : spec_reader_blanks.f k a 0 = some (a, ((0 + w.length : Nat) : Int)) := he; rw [he]; simp only [Option.bind_some]; have hd : (bytesOf a).drop 0 = w ++ r := e; have hle := Stp.le hd (by omega); obtain ⟨r1, hr1, hok⟩ := (reads_all a hn (a.size + 1)).1 (0 + w.length) k hle (by omega) (by omega); rw [hr1]; simp only [Option.bind_some]
 by_cases ok : r1.2.2.2.2.2.1 = true
 rotate_left
 ·rw [if_neg ok]; exact ⟨_, rfl, fun h => (by cases h)⟩
 obtain ⟨p, l, r2, j, e2, rfl, hV, hRl, hT⟩ := hok ok; simp only [if_true]; have hle2 := Stp.le e2 hle; have hd2 := drop_app e2; obtain ⟨v, r3, e3, hv, hnb3, he3⟩ := blanks_f a hn (k := k) hd2 (by have := dlen a (0 + w.length + l.length); rw [hd2] at this; omega); rw [he3]; simp only [Option.bind_some]
 by_cases hend : ((0 + w.length + l.length + v.length : Nat) : Int) = (a.size : Int)
 rotate_left
 ·rw [if_neg hend]; exact ⟨_, rfl, fun h => (by cases h)⟩
 rw [if_pos hend]; refine ⟨_, rfl, fun _ => ⟨p, w, l, v, j, ?_, hw, hv, hV, rfl, hRl, by rw [Nat.zero_add] at hT; exact hT⟩⟩; rw [drop_app hd] at e2; rw [e, e2, e3]; have : r3 = [] := by
  have h1 := bytesOf_length a; rw [e, e2, e3] at h1; simp at h1; exact List.length_eq_zero_iff.mp (by omega)
 rw [this]; simp
theorem w64i {n : Int} (h : 0 ≤ n ∧ n < 9223372036854775808) : wrap64 n = n := Go.IntWalk.wrap64_in _ (by omega)
theorem unit_round (a : ByteArray) (hn : a.size ≤ 65536) (i k m : Nat) (v c : Int) (r : List Int) (hk : 3 ≤ k) (hm : m < 6) (h : (bytesOf a).drop (i + m) = c :: r) (hc : HexD c) (hv : 0 ≤ v ∧ v < 65536) :
  spec_unit.l0 (k + 1) a (i : Int) v ((i + m : Nat) : Int) = spec_unit.l0 k a (i : Int) (v * 16 + hexV c) ((i + (m + 1) : Nat) : Int) := by
 have hlt := sz_lt h; have hr := byte_drop h; simp only [spec_unit.l0]; obtain ⟨x, hx, hxv⟩ := hexDigit_f k (by omega) c hr.1 hr.2; rw [show wrap64 ((i : Int) + 6) = ((i + 6 : Nat) : Int) from w64s (m := 6) (by omega), if_pos (by omega), if_pos (by omega), if_pos (by omega), bt_drop h, hx]; simp only [Option.bind_some]; have := hexV_range hc; rw [if_pos (by simpa using hc), hxv hc, w64i (n := v * 16) (by omega), w64i (by omega), w64_1 (by omega)]; rfl
theorem unit_last (a : ByteArray) (i k : Nat) (v : Int) (hi : i ≤ 65536) : spec_unit.l0 (k + 1) a (i : Int) v ((i + 6 : Nat) : Int) = some (v, true) := by
 simp only [spec_unit.l0]; rw [show wrap64 ((i : Int) + 6) = ((i + 6 : Nat) : Int) from w64s (m := 6) (by omega), if_neg (by omega)]
theorem unit_yes (a : ByteArray) (hn : a.size ≤ 65536) (i k : Nat) (hk : 20 ≤ k) (p q s t : Int) (r : List Int) (h : (bytesOf a).drop i = 92 :: 117 :: p :: q :: s :: t :: r) (hp : HexD p) (hq : HexD q) (hs : HexD s) (ht : HexD t) :
  spec_unit.f k a (i : Int) = some (hex4 p q s t, true) := by
 have h1 := drop_next h; have h2 := drop_next h1; have h3 := drop_next h2; have h4 := drop_next h3; have h5 := drop_next h4; have l5 := sz_lt h5; have := hexV_range hp; have := hexV_range hq; have := hexV_range hs; have := hexV_range ht; unfold spec_unit.f; rw [Go.IntWalk.wrap64_in _ (by omega), if_neg (by omega), if_pos (by omega), if_pos (by omega), bt_drop h, if_pos rfl, w64_1 (by omega), if_pos (by omega), if_pos (by omega), bt_drop h1]; obtain ⟨k, rfl⟩ : ∃ m, k = m + 10 := ⟨k - 10, by omega⟩
 simp only [spec_unit.j0]; rw [if_neg (by decide), show wrap64 ((i : Int) + 2) = ((i + 2 : Nat) : Int) from w64s (m := 2) (by omega)]; rw [unit_round a hn i _ 2 0 p _ (by omega) (by omega) h2 hp (by omega), unit_round a hn i _ (2 + 1) _ q _ (by omega) (by omega) h3 hq (by omega),
  unit_round a hn i _ (2 + 1 + 1) _ s _ (by omega) (by omega) h4 hs (by omega), unit_round a hn i _ (2 + 1 + 1 + 1) _ t _ (by omega) (by omega) h5 ht (by omega)]
 rw [unit_last a i _ _ (by omega)]; unfold hex4; rw [show ((((0 : Int) * 16 + hexV p) * 16 + hexV q) * 16 + hexV s) * 16 + hexV t = hexV p * 4096 + hexV q * 256 + hexV s * 16 + hexV t by omega]
theorem unit_no (a : ByteArray) (hn : a.size ≤ 65536) (i k : Nat) (hk : 1 ≤ k) (hi : i ≤ a.size + 10) (s : List Int) (h : (bytesOf a).drop i = s) (hs : (∀ r, s ≠ 92 :: r) ∨ ∃ e r, s = 92 :: e :: r ∧ e ≠ 117) :
  spec_unit.f k a (i : Int) = some (0, false) := by
 obtain ⟨k, rfl⟩ : ∃ m, k = m + 1 := ⟨k - 1, by omega⟩
 unfold spec_unit.f; rw [Go.IntWalk.wrap64_in _ (by omega)]
 by_cases h6 : (a.size : Int) - (i : Int) < 6
 ·rw [if_pos h6]; simp only [spec_unit.j0]; rfl
 rw [if_neg h6, if_pos (by omega), if_pos (by omega)]
 cases hc : s with
 | nil => rw [hc] at h; have := sz_ge h; omega
 | cons c r =>
  rw [hc] at h; rw [bt_drop h]
  by_cases h92 : c = 92
  ·subst h92
   rcases hs with hs | ⟨e, r', hs, he⟩
   ·exact absurd hc (hs r)
   ·rw [if_pos rfl, w64_1 (by omega), if_pos (by omega), if_pos (by omega)]; rw [hc] at hs; injection hs with _ hs
    rw [hs] at h; rw [bt_drop (drop_next h)]; simp only [spec_unit.j0]; rw [if_pos (by simpa using he)]
  ·rw [if_neg h92]; simp only [spec_unit.j0]; rfl
theorem utf8_len (r : Int) : (utf8 r).length ≤ 4 := by
 unfold utf8
 split
 ·simp
 split
 ·simp
 split
 ·simp
 split <;> simp
theorem bmod {n : Int} (h : 0 ≤ n ∧ n < 256) : wrap64 n % 256 = n := by rw [w64i (by omega)]; omega
theorem cont0 {r : Int} (h0 : 0 ≤ r) : wrap64 (128 + Int.tmod r 64) % 256 = 128 + r % 64 := by rw [Int.tmod_eq_emod_of_nonneg h0]; exact bmod (by omega)
theorem cont1 {r : Int} (h0 : 0 ≤ r) (h1 : r ≤ 1114111) : wrap64 (128 + Int.tmod (wrap64 (Int.tdiv r 64)) 64) % 256 = 128 + r / 64 % 64 := by
 rw [Int.tdiv_eq_ediv_of_nonneg h0, w64i (n := r / 64) (by omega)]; exact cont0 (by omega)
theorem cont2 {r : Int} (h0 : 0 ≤ r) (h1 : r ≤ 1114111) : wrap64 (128 + Int.tmod (wrap64 (Int.tdiv r 4096)) 64) % 256 = 128 + r / 4096 % 64 := by
 rw [Int.tdiv_eq_ediv_of_nonneg h0, w64i (n := r / 4096) (by omega)]; exact cont0 (by omega)
theorem lead2 {r : Int} (h0 : 0 ≤ r) (h1 : r < 2048) : wrap64 (192 + wrap64 (Int.tdiv r 64)) % 256 = 192 + r / 64 := by
 rw [Int.tdiv_eq_ediv_of_nonneg h0, w64i (n := r / 64) (by omega)]; exact bmod (by omega)
theorem lead3 {r : Int} (h0 : 0 ≤ r) (h1 : r < 65536) : wrap64 (224 + wrap64 (Int.tdiv r 4096)) % 256 = 224 + r / 4096 := by
 rw [Int.tdiv_eq_ediv_of_nonneg h0, w64i (n := r / 4096) (by omega)]; exact bmod (by omega)
theorem lead4 {r : Int} (h0 : 0 ≤ r) (h1 : r ≤ 1114111) : wrap64 (240 + wrap64 (Int.tdiv r 262144)) % 256 = 240 + r / 262144 := by
 rw [Int.tdiv_eq_ediv_of_nonneg h0, w64i (n := r / 262144) (by omega)]; exact bmod (by omega)
def utf8b (r : Int) : List Int := if HighS r ∨ LowS r then [239, 191, 189] else if r < 65536 then [224 + r / 4096, 128 + r / 64 % 64, 128 + r % 64] else [240 + r / 262144, 128 + r / 4096 % 64, 128 + r / 64 % 64, 128 + r % 64]
theorem room (l : List Int) (n : Nat) (h : l.length < 100000000) (hn : n ≤ 4) : l.length + n < 140737488355328 := by omega
theorem append_j0 (k : Nat) (l : List Int) (r : Int) (h0 : 0 ≤ r) (h1 : r ≤ 1114111) (hl : l.length < 100000000) (b : Bool) (hb : b = decide (HighS r ∨ LowS r)) : spec_appendUTF8.j0 (k + 1) l r b = some (l ++ utf8b r) := by
 simp only [spec_appendUTF8.j0]; unfold utf8b
 by_cases hs : HighS r ∨ LowS r
 ·rw [if_pos hs, if_pos (by rw [hb]; simpa using hs)]; simp only [Option.bind_some]; rw [if_pos (by first | exact room l 3 hl (by decide) | (have := room l 3 hl (by decide); simpa using this))]
 ·rw [if_neg hs, if_neg (by rw [hb]; simpa using hs)]
  by_cases c3 : r < 65536
  ·rw [if_pos c3, if_pos c3]; simp only [Option.bind_some]; rw [if_pos (by first | exact room l 3 hl (by decide) | (have := room l 3 hl (by decide); simpa using this)), lead3 h0 c3, cont1 h0 h1, cont0 h0]
  ·rw [if_neg c3, if_neg c3]; simp only [Option.bind_some]; rw [if_pos (by first | exact room l 4 hl (by decide) | (have := room l 4 hl (by decide); simpa using this)), lead4 h0 h1, cont2 h0 h1, cont1 h0 h1, cont0 h0]
theorem append_utf8 (k : Nat) (hk : 1 ≤ k) (l : List Int) (r : Int) (h0 : 0 ≤ r) (h1 : r ≤ 1114111) (hl : l.length < 100000000) : spec_appendUTF8.f k l r = some (l ++ utf8 r) := by
 obtain ⟨k, rfl⟩ : ∃ m, k = m + 1 := ⟨k - 1, by omega⟩
 unfold spec_appendUTF8.f utf8
 by_cases c1 : r < 128
 ·rw [if_pos c1, if_pos c1, if_pos (by have := room l 0 hl (by decide); omega), show r % 256 = r by omega]
 rw [if_neg c1, if_neg c1]
 by_cases c2 : r < 2048
 ·rw [if_pos c2, if_pos c2]; simp only [Option.bind_some]; rw [if_pos (by first | exact room l 2 hl (by decide) | (have := room l 2 hl (by decide); simpa using this)), lead2 h0 c2, cont0 h0]
 rw [if_neg c2, if_neg c2]; have rest := append_j0 k l r h0 h1 hl; unfold utf8b at rest; unfold spec_high.f spec_low.f
 by_cases c4 : 55296 ≤ r
 ·rw [if_pos c4]; simp only [Option.bind_some]
  by_cases c5 : r ≤ 56319
  ·rw [if_pos (by simpa using c5)]; exact rest true (by symm; rw [decide_eq_true_iff]; exact .inl ⟨c4, c5⟩)
  ·rw [if_neg (by simpa using c5), if_pos (by omega)]; simp only [Option.bind_some]; refine rest _ ?_; have : (HighS r ∨ LowS r) ↔ r ≤ 57343 := by unfold HighS LowS; omega
   simp only [this]
 ·rw [if_neg c4]; simp only [Option.bind_some]; rw [if_neg (by decide), if_neg (by omega)]; simp only [Option.bind_some]; exact rest false (by symm; rw [decide_eq_false_iff_not]; unfold HighS LowS; omega)
def NoUni (s : List Int) : Prop := (∀ r, s ≠ 92 :: r) ∨ ∃ e r, s = 92 :: e :: r ∧ e ≠ 117
theorem lowNext_or {s : List Int} (h : SB s) : NoUni s ∨ ∃ a b c d r, s = 92 :: 117 :: a :: b :: c :: d :: r ∧ HexD a ∧ HexD b ∧ HexD c ∧ HexD d := by
 cases h with
 | nil => exact .inl (.inl fun r h => by cases h)
 | chr c s h1 h2 h3 h4 hs => exact .inl (.inl fun r h => by injection h with h _; exact h4 h)
 | esc e s he hs => exact .inl (.inr ⟨e, s, rfl, by unfold Esc1 at he; omega⟩)
 | uni a b c d s ha hb hc hd hs => exact .inr ⟨a, b, c, d, s, rfl, ha, hb, hc, hd⟩
theorem short_f (e : Int) : spec_short.f e = some (shortB e) := by
 unfold spec_short.f shortB
 repeat' split
 all_goals rfl
theorem high_f (r : Int) : spec_high.f r = some (decide (HighS r)) := by
 unfold spec_high.f HighS
 by_cases h : 55296 ≤ r
 ·rw [if_pos h]; simp [h]
 ·rw [if_neg h]; simp [h]
theorem low_f (r : Int) : spec_low.f r = some (decide (LowS r)) := by
 unfold spec_low.f LowS
 by_cases h : 56320 ≤ r
 ·rw [if_pos h]; simp [h]
 ·rw [if_neg h]; simp [h]
section
theorem unq_chr (a : ByteArray) (hn : a.size ≤ 65536) (i : Nat) (k : Nat) (acc : List Int) (hk : 20 ≤ k) (hacc : acc.length ≤ 100000) (R : ByteArray) (c : Int) (r : List Int) (h : (bytesOf a).drop i = c :: r) (h4 : c ≠ 92) (next : spec_Unquote.l0 k (acc ++ [c]) a ((i + 1 : Nat) : Int) = some R) : spec_Unquote.l0 (k + 1) acc a (i : Int) = some R := by
 have hlt := sz_lt h; simp only [spec_Unquote.l0]; rw [if_pos (by omega), if_pos (by omega), bt_drop h, if_neg h4, if_pos (by omega), w64_1 (by omega), next]
theorem unq_esc (a : ByteArray) (hn : a.size ≤ 65536) (i : Nat) (k : Nat) (acc : List Int) (hk : 20 ≤ k) (hacc : acc.length ≤ 100000) (R : ByteArray) (e : Int) (r : List Int) (h : (bytesOf a).drop i = 92 :: e :: r) (he : Esc1 e) (next : spec_Unquote.l0 k (acc ++ [shortB e]) a ((i + 2 : Nat) : Int) = some R) : spec_Unquote.l0 (k + 1) acc a (i : Int) = some R := by
 have hlt := sz_lt h; have hlt1 := sz_lt (drop_next h); have h2 := unit_no a hn i k (by omega) (by omega) _ h (.inr ⟨e, r, rfl, by unfold Esc1 at he; omega⟩); have w2 : wrap64 ((i : Int) + 2) = ((i + 2 : Nat) : Int) := w64s (m := 2) (by omega); simp only [spec_Unquote.l0]; rw [if_pos (by omega), if_pos (by omega), bt_drop h, if_pos rfl, h2]; rw [Option.bind_some, if_neg (by decide), w64_1 (by omega), if_pos (by omega), if_pos (by omega), bt_drop (drop_next h), short_f]; rw [Option.bind_some, if_pos (by omega), w2, next]
theorem unq_one (a : ByteArray) (hn : a.size ≤ 65536) (i : Nat) (k : Nat) (acc : List Int) (hk : 20 ≤ k) (hacc : acc.length ≤ 100000) (R : ByteArray) (p q r t : Int) (s : List Int) (h : (bytesOf a).drop i = 92 :: 117 :: p :: q :: r :: t :: s) (hs : SB s) (hp : HexD p) (hq : HexD q) (hr : HexD r) (ht : HexD t) (hno : ¬ (HighS (hex4 p q r t) ∧ LowNext s)) (next : spec_Unquote.l0 k (acc ++ utf8 (hex4 p q r t)) a ((i + 6 : Nat) : Int) = some R) : spec_Unquote.l0 (k + 1) acc a (i : Int) = some R := by
 have hlt := sz_lt h; have h6 : (bytesOf a).drop (i + 6) = s := drop_app (w := [92, 117, p, q, r, t]) h; have hle : i + 6 ≤ a.size := Stp.le (w := [92, 117, p, q, r, t]) h (by omega); have hx := hex4_range hp hq hr ht; have fin : (spec_appendUTF8.f k acc (hex4 p q r t)).bind (fun t => spec_Unquote.l0 k t a ((i + 6 : Nat) : Int)) = some R := by
  rw [append_utf8 k (by omega) acc _ hx.1 (by omega) (by omega), Option.bind_some, next]
 have w6 : wrap64 ((i : Int) + 6) = ((i + 6 : Nat) : Int) := w64s (m := 6) (by omega); have hy := unit_yes a hn i k (by omega) p q r t s h hp hq hr ht; simp only [spec_Unquote.l0]; rw [if_pos (by omega), if_pos (by omega), bt_drop h, if_pos rfl, hy]; rw [Option.bind_some, if_pos rfl, w6]
 rcases lowNext_or hs with hN | ⟨a', b', c', d', s', hs', ha', hb', hc', hd'⟩
 ·rw [unit_no a hn (i + 6) k (by omega) (by omega) s h6 hN]; rw [Option.bind_some, if_neg (by decide)]; exact fin
 ·rw [hs'] at h6; rw [unit_yes a hn (i + 6) k (by omega) a' b' c' d' s' h6 ha' hb' hc' hd']; rw [Option.bind_some, if_pos rfl, high_f]; rw [Option.bind_some]
  by_cases hH : HighS (hex4 p q r t)
  ·rw [if_pos (by simpa using hH), low_f]; simp only [Option.bind_some]; have hL : ¬ LowS (hex4 a' b' c' d') := fun hL => hno ⟨hH, a', b', c', d', s', hs', ha', hb', hc', hd', hL⟩; rw [if_neg (by simpa using hL)]; exact fin
  ·rw [if_neg (by simpa using hH)]; exact fin
theorem unq_pair (a : ByteArray) (hn : a.size ≤ 65536) (i : Nat) (k : Nat) (acc : List Int) (hk : 20 ≤ k) (hacc : acc.length ≤ 100000) (R : ByteArray) (p q r t p' q' r' t' : Int) (s : List Int) (h : (bytesOf a).drop i = 92 :: 117 :: p :: q :: r :: t :: 92 :: 117 :: p' :: q' :: r' :: t' :: s) (hp : HexD p) (hq : HexD q) (hr : HexD r) (ht : HexD t) (hp' : HexD p') (hq' : HexD q') (hr' : HexD r') (ht' : HexD t') (hH : HighS (hex4 p q r t)) (hL : LowS (hex4 p' q' r' t'))
  (next : spec_Unquote.l0 k (acc ++ utf8 (pairR (hex4 p q r t) (hex4 p' q' r' t'))) a ((i + 12 : Nat) : Int) = some R) : spec_Unquote.l0 (k + 1) acc a (i : Int) = some R := by
 have hlt := sz_lt h; have h6 : (bytesOf a).drop (i + 6) = 92 :: 117 :: p' :: q' :: r' :: t' :: s := drop_app (w := [92, 117, p, q, r, t]) h; have hle : i + 12 ≤ a.size := Stp.le (w := [92, 117, p, q, r, t, 92, 117, p', q', r', t']) h (by omega); have w6 : wrap64 ((i : Int) + 6) = ((i + 6 : Nat) : Int) := w64s (m := 6) (by omega); have w12 : wrap64 (((i + 6 : Nat) : Int) + 6) = ((i + 12 : Nat) : Int) := w64s (n := i + 6) (m := 6) (by omega); have hy := unit_yes a hn i k (by omega) p q r t _ h hp hq hr ht; have hy' := unit_yes a hn (i + 6) k (by omega) p' q' r' t' s h6 hp' hq' hr' ht'; generalize hA : hex4 p q r t = A at *; generalize hB : hex4 p' q' r' t' = B at *; have hH' := hH; have hL' := hL; unfold HighS at hH'; unfold LowS at hL'; have e : wrap64 (wrap64 (65536 + wrap64 (wrap64 (A - 55296) * 1024)) + wrap64 (B - 56320)) = pairR A B := by
  unfold pairR; rw [w64i (n := A - 55296) (by omega), w64i (n := (A - 55296) * 1024) (by omega), w64i (n := 65536 + (A - 55296) * 1024) (by omega), w64i (n := B - 56320) (by omega), w64i (by omega)]
 have hP : 0 ≤ pairR A B ∧ pairR A B ≤ 1114111 := by unfold pairR; omega
 simp only [spec_Unquote.l0]; rw [if_pos (by omega), if_pos (by omega), bt_drop h, if_pos rfl, hy]; rw [Option.bind_some, if_pos rfl, w6, hy']; rw [Option.bind_some, if_pos rfl, high_f]; rw [Option.bind_some, if_pos (by simpa using hH), low_f]; rw [Option.bind_some, if_pos (by simpa using hL), e, append_utf8 k (by omega) acc _ hP.1 hP.2 (by omega), Option.bind_some, w12, next]
end
theorem unquote_l0 (a : ByteArray) (hn : a.size ≤ 65536) {s u : List Int} (hu : Un s u) : ∀ (i k : Nat) (acc : List Int), (bytesOf a).drop i = s → i ≤ a.size → s.length + 30 ≤ k → acc.length ≤ i →
  spec_Unquote.l0 k acc a (i : Int) = some (strOfNums (acc ++ u)) := by
 induction hu with
 | nil =>
  intro i k acc h hi hk hacc; obtain ⟨k, rfl⟩ : ∃ m, k = m + 1 := ⟨k - 1, by omega⟩
  have := sz_ge h; simp only [spec_Unquote.l0]; rw [if_neg (by omega), List.append_nil]
 | chr c s u h1 h2 h3 h4 hu ih =>
  intro i k acc h hi hk hacc; obtain ⟨k, rfl⟩ : ∃ m, k = m + 1 := ⟨k - 1, by omega⟩
  have hlt := sz_lt h; refine unq_chr a hn i k acc (by omega) (by omega) _ c s h h4 ?_; rw [ih (i + 1) k _ (drop_next h) (by omega) (by simp at hk; omega) (by simp; omega), List.append_assoc]; rfl
 | esc e s u he hu ih =>
  intro i k acc h hi hk hacc; obtain ⟨k, rfl⟩ : ∃ m, k = m + 1 := ⟨k - 1, by omega⟩
  have hlt1 := sz_lt (drop_next h); refine unq_esc a hn i k acc (by omega) (by omega) _ e s h he ?_; rw [ih (i + 2) k _ (drop_next (drop_next h)) (by omega) (by simp at hk; omega) (by simp; omega), List.append_assoc]; rfl
 | uni p q r t s u hp hq hr ht hno hu ih =>
  intro i k acc h hi hk hacc; obtain ⟨k, rfl⟩ : ∃ m, k = m + 1 := ⟨k - 1, by omega⟩
  have h6 : (bytesOf a).drop (i + 6) = s := drop_app (w := [92, 117, p, q, r, t]) h; have hle : i + 6 ≤ a.size := Stp.le (w := [92, 117, p, q, r, t]) h hi; have hl := utf8_len (hex4 p q r t); refine unq_one a hn i k acc (by omega) (by omega) _ p q r t s h hu.SB hp hq hr ht hno ?_; rw [ih (i + 6) k _ h6 hle (by simp at hk; omega) (by rw [List.length_append]; omega), List.append_assoc]
 | pair p q r t p' q' r' t' s u hp hq hr ht hp' hq' hr' ht' hH hL hu ih =>
  intro i k acc h hi hk hacc; obtain ⟨k, rfl⟩ : ∃ m, k = m + 1 := ⟨k - 1, by omega⟩
  have h12 : (bytesOf a).drop (i + 12) = s := drop_app (w := [92, 117, p, q, r, t, 92, 117, p', q', r', t']) h; have hle : i + 12 ≤ a.size := Stp.le (w := [92, 117, p, q, r, t, 92, 117, p', q', r', t']) h hi; have hl := utf8_len (pairR (hex4 p q r t) (hex4 p' q' r' t')); refine unq_pair a hn i k acc (by omega) (by omega) _ p q r t p' q' r' t' s h hp hq hr ht hp' hq' hr' ht' hH hL ?_; rw [ih (i + 12) k _ h12 hle (by simp at hk; omega) (by rw [List.length_append]; omega), List.append_assoc]
theorem toNat_cast (n : Nat) : ((n : Int)).toNat = n := Int.toNat_natCast n
theorem unquote_at (a : ByteArray) (hn : a.size ≤ 65536) (n : S54) (u : List Int) (h : NameAt (bytesOf a) n u) (k : Nat) (hk : 100000 ≤ k) :
  0 ≤ n.f0 ∧ n.f0 ≤ n.f1 ∧ n.f1 ≤ (a.size : Int) ∧ spec_Unquote.f k (a.extract n.f0.toNat n.f1.toNat) = some (strOfNums u) := by
 obtain ⟨b, s, r, rfl, hd, hu⟩ := h; have hb : b < a.size := sz_lt hd; have hle : b + (s.length + 2) ≤ a.size := by
  have h1 := dlen a b; rw [hd] at h1; simp at h1; omega
 refine ⟨by simp, by simp; omega, by simp; omega, ?_⟩; simp only [toNat_cast]; have hx : bytesOf (a.extract b (b + s.length + 2)) = 34 :: (s ++ [34]) := by
  rw [bytesOf_extract, List.drop_take, hd, show b + s.length + 2 - b = s.length + 1 + 1 by omega]; simp [List.take_append, List.take_of_length_le]
 generalize a.extract b (b + s.length + 2) = x at hx; have hxs : x.size = s.length + 2 := by rw [← bytesOf_length, hx]; simp
 unfold spec_Unquote.f; rw [Go.IntWalk.wrap64_in _ (by omega), if_pos (by omega), if_pos (by omega), show ((x.size : Int) - 1).toNat = s.length + 1 by omega]; have hy : bytesOf (x.extract 1 (s.length + 1)) = s := by
  rw [bytesOf_extract, hx, List.drop_take, show s.length + 1 - 1 = s.length by omega]; simp
 have hys : (x.extract 1 (s.length + 1)).size = s.length := by rw [← bytesOf_length, hy]
 exact unquote_l0 _ (by omega) hu 0 k [] (by rw [List.drop_zero, hy]) (by omega) (by omega) (by simp)
end Go.Proofs.YtdacgdjjdifneaaGreatDoor.PFnGjFlattenOften
