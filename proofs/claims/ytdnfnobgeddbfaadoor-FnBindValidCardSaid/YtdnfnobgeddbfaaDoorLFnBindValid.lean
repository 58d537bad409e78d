/- FnBindValid: the law's function returns true at every input, and the input reads as it did. No condition. -/
import Derived.Test.YtdnfnobgeddbfaaDoorEFnBindValid
import Derived.Test.YtdnfnobgeddbfaaDoorGFnBindValid
import Derived.Test.YtdnfnobgeddbfaaDoorCards
import Derived.Test.YtdnfnobgeddbfaaDoorTie
import Derived.LaidMore
import Derived.SevenTiedAt
import Derived.Stop.Joined
import Derived.Test.YtdnfnobgeddbfaaDoorLDocFits
import Derived.Test.YtdnfnobgeddbfaaDoorRows
import Derived.WalkKit
import Derived.ProofKit
import Derived.OpenShut
import Derived.ChangeOld
import Derived.Below
import Derived.SizedLaws
namespace Go.Proofs.YtdnfnobgeddbfaaDoor.fnBindValid
open Go.ChangeShapes Go.WideShapes Go.ChangeAt Go.RowKit
open Go.Proofs.YtdnfnobgeddbfaaDoor.Abs
open Go.Proofs.YtdnfnobgeddbfaaDoor.Abs0
set_option linter.unusedVariables false
theorem own : ownKnob Tryd.prog.godebug = none := by kernel_rfl
theorem closed : closedB Tryd.prog [23, 5] = true := by kernel_rfl
theorem hlaw (xs : List AV) (h : FitsAll Tryd.prog [23] xs) : CW fns 6 xs ⟨0, [], Γ0⟩ fun q => q.1 = .bool true := by
  obtain ⟨x0, r0, rfl, h0, g0⟩ := h
  have hr' : r0 = [] := g0
  subst hr'
  obtain ⟨o0, rfl, hl0⟩ := bytes_fits h0
  exact law_FnBindValid o0 _
/-- The door's own heap meets the condition. -/
theorem door_met (os : Os) (args : Array Value) : laidMetH Tryd.prog Rows.fnBindValidRow.laid ((World.doorLaid Tryd.prog 85 os).forCall (fun _ _ => 0) ⟨#[], args, []⟩).memory :=
  laidMetH_of_parts3 (fuel := 8) (laidMet_of_run' 8 (by kernel_rfl) (by kernel_rfl)) (by kernel_rfl) (by kernel_rfl)
set_option maxRecDepth 100000 in
theorem lifted (os : Os) (started : os.Started) (H : Type) (enc : TypeId × Value → H) :
    ReturnsInHanded {} Tryd.checked os 6 .any (fun w args => (Rows.fnBindValidSpec.pre enc Tryd.prog Tryd.f6 Rows.fnBindValidRow.domain false w args ∧ laidMetH Tryd.prog Rows.fnBindValidRow.laid w) ∧ sizedMet enc Tryd.prog Tryd.f6 (OpenSpec.ofChange Rows.fnBindValidSpec) false w args)
      (Rows.fnBindValidSpec.post enc Tryd.prog Tryd.f6 false true false false) := by
  refine returnsInHanded_of_change_and (C := Tryd.checked) (X := fun w _ => laidMetH Tryd.prog Rows.fnBindValidRow.laid w) (fun _ _ _ hh h => h.of_heap hh) own started (by kernel_rfl) Tryd.func6
    (ChangeSpec.witness_shaped (enc := enc) (C := Tryd.checked) (os := os) (X := fun w _ => laidMetH Tryd.prog Rows.fnBindValidRow.laid w) false (World.doorLaid Tryd.prog 85 os) #[.slice none 0 0] 8 rfl (World.shaped_of_RefB (by kernel_rfl) (by kernel_rfl)) (by kernel_rfl) (by kernel_rfl) (by kernel_rfl) (door_met os _)) ?_
  intro W base args ds gs before hval0 hW hcnd hsz0 hL _
  have hW' := hW
  have hlt := hW.lt
  obtain ⟨p, q, hA0, hV, rfl, hfz, hnd⟩ := hW
  obtain ⟨rfl, rfl⟩ := trodVars_none hV
  have hA := hA0
  rw [Tryd.params6] at hA
  obtain ⟨v0, vs0, d0, ds0, p0, q0, hargs, rfl, rfl, h0, r0⟩ := trodAll_cons hA
  obtain ⟨rfl, rfl, rfl⟩ := trodAll_nil r0
  refine (law_calls fnsOk (by kernel_rfl) closed Tryd.func6 (by rw [Tryd.params6]; decide) hA0 hval0 hsz0 (Γ := Γ0) (globs hL) (by rw [Tryd.params6]; exact hlaw)).mono fun e W' ⟨he, bel⟩ => ?_
  subst he
  exact ⟨_, rfl, _, _, _, [], _, [], hW', trodAll_mk1 (shut_bool Tryd.underlying4 _), trodAll_below (by kernel_rfl) bel (by kernel_rfl) hA0 (fun x hx => hlt x (List.mem_append_left _ hx)), rfl, bel.frame _, fun h => by cases h⟩
theorem over : Rows.fnBindValidRow.holds Tryd.pinned (OpenSpec.ofChange Rows.fnBindValidSpec) :=
  OpenClaim.holds_of_wide 6 Tryd.f6 rfl rfl rfl rfl rfl rfl rfl ⟨rfl, rfl, rfl, rfl, rfl⟩ rfl rfl rfl rfl rfl (by kernel_rfl) Tryd.func6 (by kernel_rfl)
    (of_decide_eq_true (by kernel_rfl)) (by unfold Func.isWrapper; first | (rw [if_pos (by decide +kernel)]; kernel_rfl) | (rw [if_neg (by decide +kernel)]; exact ⟨rfl, rfl⟩))
    (fun os started H enc _ => lifted os started H enc)
theorem proved : Rows.FnBindValidSaid := over
theorem card : Rows.FnBindValidCardSaid :=
  Claim7.holds_tied_plain_at .later [] [.sentinel, .sentinel, .sentinel, .sentinel] true (true, "e3507c564b3528ce3fd9c5f60058f65dde7f83f38ac82818e082fee4f3bce096") true
    proved (fun _ h => by cases h) (by kernel_rfl) (fun _ h => by cases h) fnBindValid_row_tie rfl ⟨rfl, rfl⟩ (by kernel_rfl) rfl
    (fun f fn hf hfn => by
      obtain rfl : f = 6 := Option.some.inj ((show Tryd.prog.funcNamed "pub-gunnysack/laws.FnBindValid" = some 6 by kernel_rfl).symm.trans hf) |>.symm
      obtain rfl : fn = Tryd.f6 := (Option.some.inj (Tryd.func6.symm.trans hfn)).symm
      exact ⟨by kernel_rfl, fun j t ht => by
        have hall : (Tryd.f6.params.toList.all fun t => !Tryd.prog.wantsStandIn t) = true := by kernel_rfl
        have := List.all_eq_true.1 hall t (by have := Array.mem_of_getElem? ht; simpa using this)
        have h2 : Tryd.prog.wantsStandIn t = false := by simpa using this
        exact h2⟩)
    (by kernel_rfl)
#print axioms card
end Go.Proofs.YtdnfnobgeddbfaaDoor.fnBindValid
namespace Go.Proofs.YtdnfnobgeddbfaaDoor
/-- The card, under a short name, for the claim. -/
theorem fnBindValid_holds : Rows.FnBindValidCardSaid := fnBindValid.card
end Go.Proofs.YtdnfnobgeddbfaaDoor
