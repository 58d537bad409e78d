/- FnBindLookup: the law's function returns true at every input, and the input reads as it did. No condition. -/
import Derived.Test.YtdnfnobgeddbfaaDoorEFnBindLookup
import Derived.Test.YtdnfnobgeddbfaaDoorGFnBindLookup
import Derived.Test.YtdnfnobgeddbfaaDoorCards
import Derived.Test.YtdnfnobgeddbfaaDoorTie
import Derived.LaidMore
import Derived.SevenTiedAt
import Derived.Stop.Joined
import Derived.Test.YtdnfnobgeddbfaaDoorLStrFits
import Derived.Test.YtdnfnobgeddbfaaDoorRows
import Derived.WalkKit
import Derived.ProofKit
import Derived.OpenShut
import Derived.ChangeOld
import Derived.Below
import Derived.SizedLaws
namespace Go.Proofs.YtdnfnobgeddbfaaDoor.fnBindLookup
open Go.ChangeShapes Go.WideShapes Go.ChangeAt Go.RowKit
open Go.Proofs.YtdnfnobgeddbfaaDoor.Abs
open Go.Proofs.YtdnfnobgeddbfaaDoor.Abs0
set_option linter.unusedVariables false
theorem own : ownKnob Tryd.prog.godebug = none := by kernel_rfl
theorem closed : closedB Tryd.prog [26, 3, 9, 2, 22, 23, 5, 24, 53, 33] = true := by kernel_rfl
theorem hlaw (s : Nat → Nat × Nat) (hs : SNe s) (xs : List AV) (h : FitsAll Tryd.prog [26, 33] xs) : CW fns 4 xs ⟨0, [], Γ0 s⟩ fun q => q.1 = .bool true := by
  obtain ⟨x0, r0, rfl, h0, g0⟩ := h
  obtain ⟨x1, r1, rfl, h1, g1⟩ := g0
  have hr' : r1 = [] := g1
  subst hr'
  obtain ⟨v0, rfl, hw0⟩ := val_fits h0
  obtain ⟨b1, l1, rfl, hb1, hl1⟩ := strs_fits h1
  exact law_FnBindLookup v0 hw0 b1 l1 hb1 _ (gam s hs)
/-- The door's own heap meets the condition. -/
theorem door_met (os : Os) (args : Array Value) : laidMetH Tryd.prog Rows.fnBindLookupRow.laid ((World.doorLaid Tryd.prog 85 os).forCall (fun _ _ => 0) ⟨#[], args, []⟩).memory :=
  laidMetH_of_parts3 (fuel := 8) (laidMet_of_run' 8 (by kernel_rfl) (by kernel_rfl)) (by kernel_rfl) (by kernel_rfl)
set_option maxRecDepth 100000 in
theorem lifted (os : Os) (started : os.Started) (H : Type) (enc : TypeId × Value → H) :
    ReturnsInHanded {} Tryd.checked os 4 .any (fun w args => (Rows.fnBindLookupSpec.pre enc Tryd.prog Tryd.f4 Rows.fnBindLookupRow.domain false w args ∧ laidMetH Tryd.prog Rows.fnBindLookupRow.laid w) ∧ sizedMet enc Tryd.prog Tryd.f4 (OpenSpec.ofChange Rows.fnBindLookupSpec) false w args)
      (Rows.fnBindLookupSpec.post enc Tryd.prog Tryd.f4 false true false false) := by
  refine returnsInHanded_of_change_and (C := Tryd.checked) (X := fun w _ => laidMetH Tryd.prog Rows.fnBindLookupRow.laid w) (fun _ _ _ hh h => h.of_heap hh) own started (by kernel_rfl) Tryd.func4
    (ChangeSpec.witness_shaped (enc := enc) (C := Tryd.checked) (os := os) (X := fun w _ => laidMetH Tryd.prog Rows.fnBindLookupRow.laid w) false (World.doorLaid Tryd.prog 85 os) #[.agg #[.int .i64 0, .string .empty, .string .empty, .int .i64 0, .int .u64 0, .int .u64 0, .slice none 0 0, .slice none 0 0], .slice none 0 0] 8 rfl (World.shaped_of_RefB (by kernel_rfl) (by kernel_rfl)) (by kernel_rfl) (by kernel_rfl) (by kernel_rfl) (door_met os _)) ?_
  intro W base args ds gs before hval0 hW hcnd hsz0 hL _
  have hW' := hW
  have hlt := hW.lt
  obtain ⟨p, q, hA0, hV, rfl, hfz, hnd⟩ := hW
  obtain ⟨rfl, rfl⟩ := trodVars_none hV
  have hA := hA0
  rw [Tryd.params4] at hA
  obtain ⟨v0, vs0, d0, ds0, p0, q0, hargs, rfl, rfl, h0, r0⟩ := trodAll_cons hA
  obtain ⟨v1, vs1, d1, ds1, p1, q1, rfl, rfl, rfl, h1, r1⟩ := trodAll_cons r0
  obtain ⟨rfl, rfl, rfl⟩ := trodAll_nil r1
  obtain ⟨s, hs, hg⟩ := globs hL
  refine (law_calls fnsOk (by kernel_rfl) closed Tryd.func4 (by rw [Tryd.params4]; decide) hA0 hval0 hsz0 (Γ := Γ0 s) hg (by rw [Tryd.params4]; exact hlaw s hs)).mono fun e W' ⟨he, bel⟩ => ?_
  subst he
  exact ⟨_, rfl, _, _, _, [], _, [], hW', trodAll_mk1 (shut_bool Tryd.underlying4 _), trodAll_below (by kernel_rfl) bel (by kernel_rfl) hA0 (fun x hx => hlt x (List.mem_append_left _ hx)), rfl, bel.frame _, fun h => by cases h⟩
theorem over : Rows.fnBindLookupRow.holds Tryd.pinned (OpenSpec.ofChange Rows.fnBindLookupSpec) :=
  OpenClaim.holds_of_wide 4 Tryd.f4 rfl rfl rfl rfl rfl rfl rfl ⟨rfl, rfl, rfl, rfl, rfl⟩ rfl rfl rfl rfl rfl (by kernel_rfl) Tryd.func4 (by kernel_rfl)
    (of_decide_eq_true (by kernel_rfl)) (by unfold Func.isWrapper; first | (rw [if_pos (by decide +kernel)]; kernel_rfl) | (rw [if_neg (by decide +kernel)]; exact ⟨rfl, rfl⟩))
    (fun os started H enc _ => lifted os started H enc)
theorem proved : Rows.FnBindLookupSaid := over
theorem card : Rows.FnBindLookupCardSaid :=
  Claim7.holds_tied_plain_at .later [] [.sentinel, .sentinel, .sentinel, .sentinel] true (true, "e3507c564b3528ce3fd9c5f60058f65dde7f83f38ac82818e082fee4f3bce096") true
    proved (fun _ h => by cases h) (by kernel_rfl) (fun _ h => by cases h) fnBindLookup_row_tie rfl ⟨rfl, rfl⟩ (by kernel_rfl) rfl
    (fun f fn hf hfn => by
      obtain rfl : f = 4 := Option.some.inj ((show Tryd.prog.funcNamed "pub-gunnysack/laws.FnBindLookup" = some 4 by kernel_rfl).symm.trans hf) |>.symm
      obtain rfl : fn = Tryd.f4 := (Option.some.inj (Tryd.func4.symm.trans hfn)).symm
      exact ⟨by kernel_rfl, fun j t ht => by
        have hall : (Tryd.f4.params.toList.all fun t => !Tryd.prog.wantsStandIn t) = true := by kernel_rfl
        have := List.all_eq_true.1 hall t (by have := Array.mem_of_getElem? ht; simpa using this)
        have h2 : Tryd.prog.wantsStandIn t = false := by simpa using this
        exact h2⟩)
    (by kernel_rfl)
#print axioms card
end Go.Proofs.YtdnfnobgeddbfaaDoor.fnBindLookup
namespace Go.Proofs.YtdnfnobgeddbfaaDoor
/-- The card, under a short name, for the claim. -/
theorem fnBindLookup_holds : Rows.FnBindLookupCardSaid := fnBindLookup.card
end Go.Proofs.YtdnfnobgeddbfaaDoor
