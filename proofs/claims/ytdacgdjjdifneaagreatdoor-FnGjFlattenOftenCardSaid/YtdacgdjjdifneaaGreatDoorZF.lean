/- The law laws.FnGjFlattenOften answers true for every input and leaves its argument as it reads. The row and its tied card. CONDITIONS: the listed package-level variables start as the program text lays them (the card ties them; three great tables of the library are pinned by name). -/
import Derived.Test.YtdacgdjjdifneaaGreatDoorRows
import Derived.Test.YtdacgdjjdifneaaGreatDoorTie
import Derived.Test.YtdacgdjjdifneaaGreatDoorCards
import Derived.Test.YtdacgdjjdifneaaGreatDoorZ3
import Derived.Test.YtdacgdjjdifneaaGreatDoorZ5
import Derived.Test.YtdacgdjjdifneaaGreatDoorZ4
import Derived.ProofKit
import Derived.OpenShut
import Derived.ShutString
import Derived.SliceStrings
import Derived.ChangeOld
import Derived.Below
import Derived.LaidMore
import Derived.Lay
import Derived.SevenTiedAt
import Derived.Stop.Joined
set_option linter.all false
set_option maxRecDepth 100000
namespace Go.Proofs.YtdacgdjjdifneaaGreatDoor
open Go Go.ChangeShapes Go.WideShapes Go.ChangeAt Go.RowKit Go.Proofs.YtdacgdjjdifneaaGreatDoorW.PrintWords Go.Proofs.YtdacgdjjdifneaaGreatDoorW.PrintLast Go.Proofs.YtdacgdjjdifneaaGreatDoorW.PrintMore
open Go.ChangeMaps (open_string shut_string)
theorem own : ownKnob Tryz.prog.godebug = none := by kernel_rfl
theorem lifted (os : Os) (started : os.Started) (H : Type) (enc : TypeId × Value → H) :
  ReturnsInHanded {} Tryz.checked os 3 .any (fun w args => (Rows.fnGjFlattenOftenSpec.pre enc Tryz.prog Tryz.f3 Rows.fnGjFlattenOftenRow.domain false w args ∧ laidMetH Tryz.prog Rows.fnGjFlattenOftenRow.laid w) ∧ sizedMet enc Tryz.prog Tryz.f3 (OpenSpec.ofChange Rows.fnGjFlattenOftenSpec) false w args)
   (Rows.fnGjFlattenOftenSpec.post enc Tryz.prog Tryz.f3 false true false false) := by
 refine returnsInHanded_of_change_and (C := Tryz.checked) (X := fun w _ => laidMetH Tryz.prog Rows.fnGjFlattenOftenRow.laid w) (fun _ _ _ hh h => h.of_heap hh) own started (by kernel_rfl) Tryz.func3
  (ChangeSpec.witness_shaped (enc := enc) (C := Tryz.checked) (os := os) (X := fun w _ => laidMetH Tryz.prog Rows.fnGjFlattenOftenRow.laid w) false (World.laidAll Tryz.prog os Rows.fnGjFlattenOftenRow.laid) #[.string ByteArray.empty] 8 (World.laidAll_os _ _ _)
   (World.shaped_of_ZipB (by as_aux_lemma => kernel_rfl) (by as_aux_lemma => kernel_rfl)) (by as_aux_lemma => kernel_rfl) (by as_aux_lemma => kernel_rfl) (by as_aux_lemma => kernel_rfl)
   (by rw [MakeChecks.laidMetH_plain _ _ _ (by kernel_rfl)]; exact laidMet_laidAll _ (by as_aux_lemma => kernel_rfl) (by as_aux_lemma => kernel_rfl))) ?_
 intro W base args ds gs before hval0 hW hc _ hL _; have hval : ∀ (j : Nat) t v, Tryz.f3.params[j]? = some t → args[j]? = some v → Value.okWide Tryz.prog W .any base t v := hval0; have hW' := hW; obtain ⟨p, q, hA0, hV, rfl, hfz, hnd⟩ := hW; have hA : DataW.TrodAll enc Tryz.prog W 0 (fun _ => true) true Tryz.f3.params.toList args.toList ds p := hA0; rw [Tryz.params3] at hA hval; obtain ⟨v0, vs0, d0, ds0, p0, q0, hargs, rfl, rfl, h0, r0⟩ := trodAll_cons hA; obtain ⟨rfl, rfl, rfl⟩ := trodAll_nil r0; obtain rfl : args = #[v0] := by cases args; simp_all
 obtain ⟨rfl, rfl⟩ := trodVars_none hV; obtain ⟨s, rfl, rfl, rfl, y0⟩ := open_string Tryz.underlying9 (hval 0 9 v0 rfl rfl) h0; clear hA0 hval0; refine (PFnGjFlattenOften.law_calls PFnGjFlattenOften.unesc_calls s W (PFnGjFlattenOften.pw_w hL)).mono fun e W' ⟨he, bel⟩ => ?_; subst he; exact ⟨_, rfl, _, _, _, [], _, [], hW', trodAll_mk1 (shut_bool Tryz.underlying4 _), trodAll_cons_mk (shut_string Tryz.underlying9 y0) trodAll_mk0, rfl, bel.frame _, fun h => by cases h⟩
theorem fnGjFlattenOften_over : Rows.FnGjFlattenOftenSaid :=
 OpenClaim.holds_of_wide 3 Tryz.f3 rfl rfl rfl rfl rfl rfl rfl ⟨rfl, rfl, rfl, rfl, rfl⟩ rfl rfl rfl rfl rfl (by kernel_rfl) Tryz.func3 (by kernel_rfl)
  (of_decide_eq_true (by kernel_rfl)) (by unfold Func.isWrapper; first | (rw [if_pos (by decide +kernel)]; kernel_rfl) | (rw [if_neg (by decide +kernel)]; exact ⟨rfl, rfl⟩))
  (fun os started H enc _ => lifted os started H enc)
theorem fnGjFlattenOften_holds : Rows.FnGjFlattenOftenCardSaid :=
 Claim7.holds_tied_plain_at .later [] [.data, .data, .widerDeep, .widerDeep, .data, .data, .data, .data, .data, .data, .sentinel, .sentinel, .data, .pinned, .pinned, .pinned] true (true, "4e38ce68962f71aa26922f59566d317b400044ec8a998374c62f55e07f531ca0") true
  fnGjFlattenOften_over (fun _ h => by cases h) (by kernel_rfl) (fun _ h => by cases h) fnGjFlattenOften_row_tie rfl ⟨rfl, rfl⟩ (by kernel_rfl) rfl
  (fun f fn hf hfn => by
   obtain rfl : f = 3 := Option.some.inj ((show Tryz.prog.funcNamed "pub-tetrapla/laws.FnGjFlattenOften" = some 3 by kernel_rfl).symm.trans hf) |>.symm
   obtain rfl : fn = Tryz.f3 := (Option.some.inj (Tryz.func3.symm.trans hfn)).symm; exact ⟨by kernel_rfl, fun j t ht => by
    rw [Tryz.params3] at ht; have hm : t ∈ [9] := by simpa using Array.mem_of_getElem? ht
    have hall : ([9].all fun u => !Tryz.prog.wantsStandIn u) = true := by kernel_rfl
    exact (show Tryz.prog.wantsStandIn t = false by simpa using List.all_eq_true.1 hall t hm)⟩)
  (by kernel_rfl)
#print axioms fnGjFlattenOften_holds
end Go.Proofs.YtdacgdjjdifneaaGreatDoor
