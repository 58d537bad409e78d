/- FnBindElements: the law's function returns true at every input, and the input reads as it did. No condition. -/
import Derived.Test.YtdnfnobgeddbfaaDoorEFnBindElements
import Derived.Test.YtdnfnobgeddbfaaDoorGFnBindElements
import Derived.Test.YtdnfnobgeddbfaaDoorCards
import Derived.Test.YtdnfnobgeddbfaaDoorTie
import Derived.LaidMore
import Derived.SevenTiedAt
import Derived.Stop.Joined
import Derived.Test.YtdnfnobgeddbfaaDoorLDocFits
import Derived.Test.YtdnfnobgeddbfaaDoorRows
import Derived.WalkKit
import Derived.ProofKit
import Derived.OpenShut
import Derived.ChangeOld
import Derived.Below
import Derived.SizedLaws
namespace Go.Proofs.YtdnfnobgeddbfaaDoor.fnBindElements
open Go.ChangeShapes Go.WideShapes Go.ChangeAt Go.RowKit
open Go.Proofs.YtdnfnobgeddbfaaDoor.Abs
open Go.Proofs.YtdnfnobgeddbfaaDoor.Abs0
set_option linter.unusedVariables false
theorem own : ownKnob Tryd.prog.godebug = none := by kernel_rfl
theorem closed : closedB Tryd.prog [26, 3, 9, 2, 22, 23, 5, 24, 53] = true := by kernel_rfl
theorem hlaw (s : Nat → Nat × Nat) (hs : SNe s) (xs : List AV) (h : FitsAll Tryd.prog [26] xs) : CW fns 5 xs ⟨0, [], Γ0 s⟩ fun q => q.1 = .bool true := by
  obtain ⟨x0, r0, rfl, h0, g0⟩ := h
  have hr' : r0 = [] := g0
  subst hr'
  obtain ⟨v0, rfl, hw0⟩ := val_fits h0
  exact law_FnBindElements v0 hw0 _ (gam s hs)
/-- The door's own heap meets the condition. -/
theorem door_met (os : Os) (args : Array Value) : laidMetH Tryd.prog Rows.fnBindElementsRow.laid ((World.doorLaid Tryd.prog 85 os).forCall (fun _ _ => 0) ⟨#[], args, []⟩).memory :=
  laidMetH_of_parts3 (fuel := 8) (laidMet_of_run' 8 (by kernel_rfl) (by kernel_rfl)) (by kernel_rfl) (by kernel_rfl)
set_option maxRecDepth 100000 in
theorem lifted (os : Os) (started : os.Started) (H : Type) (enc : TypeId × Value → H) :
    ReturnsInHanded {} Tryd.checked os 5 .any (fun w args => (Rows.fnBindElementsSpec.pre enc Tryd.prog Tryd.f5 Rows.fnBindElementsRow.domain false w args ∧ laidMetH Tryd.prog Rows.fnBindElementsRow.laid w) ∧ sizedMet enc Tryd.prog Tryd.f5 (OpenSpec.ofChange Rows.fnBindElementsSpec) false w args)
      (Rows.fnBindElementsSpec.post enc Tryd.prog Tryd.f5 false true false false) := by
  refine returnsInHanded_of_change_and (C := Tryd.checked) (X := fun w _ => laidMetH Tryd.prog Rows.fnBindElementsRow.laid w) (fun _ _ _ hh h => h.of_heap hh) own started (by kernel_rfl) Tryd.func5
    (ChangeSpec.witness_shaped (enc := enc) (C := Tryd.checked) (os := os) (X := fun w _ => laidMetH Tryd.prog Rows.fnBindElementsRow.laid w) false (World.doorLaid Tryd.prog 85 os) #[.agg #[.int .i64 0, .string .empty, .string .empty, .int .i64 0, .int .u64 0, .int .u64 0, .slice none 0 0, .slice none 0 0]] 8 rfl (World.shaped_of_RefB (by kernel_rfl) (by kernel_rfl)) (by kernel_rfl) (by kernel_rfl) (by kernel_rfl) (door_met os _)) ?_
  intro W base args ds gs before hval0 hW hcnd hsz0 hL _
  have hW' := hW
  have hlt := hW.lt
  obtain ⟨p, q, hA0, hV, rfl, hfz, hnd⟩ := hW
  obtain ⟨rfl, rfl⟩ := trodVars_none hV
  have hA := hA0
  rw [Tryd.params5] at hA
  obtain ⟨v0, vs0, d0, ds0, p0, q0, hargs, rfl, rfl, h0, r0⟩ := trodAll_cons hA
  obtain ⟨rfl, rfl, rfl⟩ := trodAll_nil r0
  obtain ⟨s, hs, hg⟩ := globs hL
  refine (law_calls fnsOk (by kernel_rfl) closed Tryd.func5 (by rw [Tryd.params5]; decide) hA0 hval0 hsz0 (Γ := Γ0 s) hg (by rw [Tryd.params5]; exact hlaw s hs)).mono fun e W' ⟨he, bel⟩ => ?_
  subst he
  exact ⟨_, rfl, _, _, _, [], _, [], hW', trodAll_mk1 (shut_bool Tryd.underlying4 _), trodAll_below (by kernel_rfl) bel (by kernel_rfl) hA0 (fun x hx => hlt x (List.mem_append_left _ hx)), rfl, bel.frame _, fun h => by cases h⟩
theorem over : Rows.fnBindElementsRow.holds Tryd.pinned (OpenSpec.ofChange Rows.fnBindElementsSpec) :=
  OpenClaim.holds_of_wide 5 Tryd.f5 rfl rfl rfl rfl rfl rfl rfl ⟨rfl, rfl, rfl, rfl, rfl⟩ rfl rfl rfl rfl rfl (by kernel_rfl) Tryd.func5 (by kernel_rfl)
    (of_decide_eq_true (by kernel_rfl)) (by unfold Func.isWrapper; first | (rw [if_pos (by decide +kernel)]; kernel_rfl) | (rw [if_neg (by decide +kernel)]; exact ⟨rfl, rfl⟩))
    (fun os started H enc _ => lifted os started H enc)
theorem proved : Rows.FnBindElementsSaid := over
theorem card : Rows.FnBindElementsCardSaid :=
  Claim7.holds_tied_plain_at .later [] [.sentinel, .sentinel, .sentinel, .sentinel] true (true, "e3507c564b3528ce3fd9c5f60058f65dde7f83f38ac82818e082fee4f3bce096") true
    proved (fun _ h => by cases h) (by kernel_rfl) (fun _ h => by cases h) fnBindElements_row_tie rfl ⟨rfl, rfl⟩ (by kernel_rfl) rfl
    (fun f fn hf hfn => by
      obtain rfl : f = 5 := Option.some.inj ((show Tryd.prog.funcNamed "pub-gunnysack/laws.FnBindElements" = some 5 by kernel_rfl).symm.trans hf) |>.symm
      obtain rfl : fn = Tryd.f5 := (Option.some.inj (Tryd.func5.symm.trans hfn)).symm
      exact ⟨by kernel_rfl, fun j t ht => by
        have hall : (Tryd.f5.params.toList.all fun t => !Tryd.prog.wantsStandIn t) = true := by kernel_rfl
        have := List.all_eq_true.1 hall t (by have := Array.mem_of_getElem? ht; simpa using this)
        have h2 : Tryd.prog.wantsStandIn t = false := by simpa using this
        exact h2⟩)
    (by kernel_rfl)
#print axioms card
end Go.Proofs.YtdnfnobgeddbfaaDoor.fnBindElements
namespace Go.Proofs.YtdnfnobgeddbfaaDoor
/-- The card, under a short name, for the claim. -/
theorem fnBindElements_holds : Rows.FnBindElementsCardSaid := fnBindElements.card
end Go.Proofs.YtdnfnobgeddbfaaDoor
