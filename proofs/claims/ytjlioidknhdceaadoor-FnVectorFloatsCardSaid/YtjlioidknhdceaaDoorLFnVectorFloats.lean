/- FnVectorFloats: the law's function returns true at every input, and the input reads as it did. No condition. -/
import Derived.Test.YtjlioidknhdceaaDoorEFnVectorFloats
import Derived.Test.YtjlioidknhdceaaDoorGFnVectorFloats
import Derived.Test.YtjlioidknhdceaaDoorCards
import Derived.Test.YtjlioidknhdceaaDoorTie
import Derived.LaidMore
import Derived.SevenTiedAt
import Derived.Stop.Joined
import Derived.Test.YtjlioidknhdceaaDoorLU32sFits
import Derived.Test.YtjlioidknhdceaaDoorRows
import Derived.WalkKit
import Derived.ProofKit
import Derived.OpenShut
import Derived.ChangeOld
import Derived.Below
import Derived.SizedLaws
namespace Go.Proofs.YtjlioidknhdceaaDoor.fnVectorFloats
open Go.ChangeShapes Go.WideShapes Go.ChangeAt Go.RowKit
open Go.Proofs.YtjlioidknhdceaaDoor.Abs
open Go.Proofs.YtjlioidknhdceaaDoor.Abs0
set_option linter.unusedVariables false
theorem own : ownKnob Tryd.prog.godebug = none := by kernel_rfl
theorem closed : closedB Tryd.prog [22, 23] = true := by kernel_rfl
theorem hlaw (xs : List AV) (h : FitsAll Tryd.prog [22] xs) : CW fns 3 xs ⟨0, [], Γ0⟩ fun q => q.1 = .bool true := by
  obtain ⟨x0, r0, rfl, h0, g0⟩ := h
  have hr' : r0 = [] := g0
  subst hr'
  obtain ⟨b0, l0, rfl, hb0, hl0⟩ := u32s_fits h0
  exact law_FnVectorFloats b0 l0 hb0 hl0 _
theorem door_met (os : Os) (args : Array Value) : laidMetH Tryd.prog Rows.fnVectorFloatsRow.laid ((World.doorLaid Tryd.prog 66 os).forCall (fun _ _ => 0) ⟨#[], args, []⟩).memory :=
  laidMetH_of_parts3 (fuel := 8) (laidMet_of_run' 8 (by kernel_rfl) (by kernel_rfl)) (by kernel_rfl) (by kernel_rfl)
set_option maxRecDepth 100000 in
theorem lifted (os : Os) (started : os.Started) (H : Type) (enc : TypeId × Value → H) :
    ReturnsInHanded {} Tryd.checked os 3 .any (fun w args => (Rows.fnVectorFloatsSpec.pre enc Tryd.prog Tryd.f3 Rows.fnVectorFloatsRow.domain false w args ∧ laidMetH Tryd.prog Rows.fnVectorFloatsRow.laid w) ∧ sizedMet enc Tryd.prog Tryd.f3 (OpenSpec.ofChange Rows.fnVectorFloatsSpec) false w args)
      (Rows.fnVectorFloatsSpec.post enc Tryd.prog Tryd.f3 false true false false) := by
  refine returnsInHanded_of_change_and (C := Tryd.checked) (X := fun w _ => laidMetH Tryd.prog Rows.fnVectorFloatsRow.laid w) (fun _ _ _ hh h => h.of_heap hh) own started (by kernel_rfl) Tryd.func3
    (ChangeSpec.witness_shaped (enc := enc) (C := Tryd.checked) (os := os) (X := fun w _ => laidMetH Tryd.prog Rows.fnVectorFloatsRow.laid w) false (World.doorLaid Tryd.prog 66 os) #[.slice none 0 0] 8 rfl (World.shaped_of_RefB (by kernel_rfl) (by kernel_rfl)) (by kernel_rfl) (by kernel_rfl) (by kernel_rfl) (door_met os _)) ?_
  intro W base args ds gs before hval0 hW hcnd hsz0 hL _
  have hW' := hW
  have hlt := hW.lt
  obtain ⟨p, q, hA0, hV, rfl, hfz, hnd⟩ := hW
  obtain ⟨rfl, rfl⟩ := trodVars_none hV
  have hA := hA0
  rw [Tryd.params3] at hA
  obtain ⟨v0, vs0, d0, ds0, p0, q0, hargs, rfl, rfl, h0, r0⟩ := trodAll_cons hA
  obtain ⟨rfl, rfl, rfl⟩ := trodAll_nil r0
  refine (law_calls fnsOk (by kernel_rfl) closed Tryd.func3 (by rw [Tryd.params3]; decide) hA0 hval0 hsz0 (Γ := Γ0) (globs hL) (by rw [Tryd.params3]; exact hlaw)).mono fun e W' ⟨he, bel⟩ => ?_
  subst he
  exact ⟨_, rfl, _, _, _, [], _, [], hW', trodAll_mk1 (shut_bool Tryd.underlying4 _), trodAll_below (by kernel_rfl) bel (by kernel_rfl) hA0 (fun x hx => hlt x (List.mem_append_left _ hx)), rfl, bel.frame _, fun h => by cases h⟩
theorem over : Rows.fnVectorFloatsRow.holds Tryd.pinned (OpenSpec.ofChange Rows.fnVectorFloatsSpec) :=
  OpenClaim.holds_of_wide 3 Tryd.f3 rfl rfl rfl rfl rfl rfl rfl ⟨rfl, rfl, rfl, rfl, rfl⟩ rfl rfl rfl rfl rfl (by kernel_rfl) Tryd.func3 (by kernel_rfl)
    (of_decide_eq_true (by kernel_rfl)) (by unfold Func.isWrapper; first | (rw [if_pos (by decide +kernel)]; kernel_rfl) | (rw [if_neg (by decide +kernel)]; exact ⟨rfl, rfl⟩))
    (fun os started H enc _ => lifted os started H enc)
theorem proved : Rows.FnVectorFloatsSaid := over
theorem card : Rows.FnVectorFloatsCardSaid :=
  Claim7.holds_tied_plain_at .later [] [.sentinel, .sentinel, .sentinel] true (true, "ee482b33f29886c425c08f0865fb5f660f05d5d3d4eb87fd7602bbfe66cb32de") true
    proved (fun _ h => by cases h) (by kernel_rfl) (fun _ h => by cases h) fnVectorFloats_row_tie rfl ⟨rfl, rfl⟩ (by kernel_rfl) rfl
    (fun f fn hf hfn => by
      obtain rfl : f = 3 := Option.some.inj ((show Tryd.prog.funcNamed "pub-gunnysack/laws.FnVectorFloats" = some 3 by kernel_rfl).symm.trans hf) |>.symm
      obtain rfl : fn = Tryd.f3 := (Option.some.inj (Tryd.func3.symm.trans hfn)).symm
      exact ⟨by kernel_rfl, fun j t ht => by
        have hall : (Tryd.f3.params.toList.all fun t => !Tryd.prog.wantsStandIn t) = true := by kernel_rfl
        have := List.all_eq_true.1 hall t (by have := Array.mem_of_getElem? ht; simpa using this)
        have h2 : Tryd.prog.wantsStandIn t = false := by simpa using this
        exact h2⟩)
    (by kernel_rfl)
#print axioms card
end Go.Proofs.YtjlioidknhdceaaDoor.fnVectorFloats
namespace Go.Proofs.YtjlioidknhdceaaDoor
theorem fnVectorFloats_holds : Rows.FnVectorFloatsCardSaid := fnVectorFloats.card
end Go.Proofs.YtjlioidknhdceaaDoor
