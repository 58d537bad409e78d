/- FnBindLayers: the law's function returns true at every input, and the input reads as it did. No condition. -/
import Derived.Test.YtdnfnobgeddbfaaGreatDoorEFnBindLayers
import Derived.Test.YtdnfnobgeddbfaaGreatDoorGFnBindLayers
import Derived.Test.YtdnfnobgeddbfaaGreatDoorCards
import Derived.Test.YtdnfnobgeddbfaaGreatDoorTie
import Derived.LaidMore
import Derived.SevenTiedAt
import Derived.Stop.Joined
import Derived.Test.YtdnfnobgeddbfaaGreatDoorLStrFits2
import Derived.Test.YtdnfnobgeddbfaaGreatDoorRows
import Derived.WalkKit
import Derived.ProofKit
import Derived.OpenShut
import Derived.ChangeOld
import Derived.Below
import Derived.SizedLaws
namespace Go.Proofs.YtdnfnobgeddbfaaGreatDoor.fnBindLayers
open Go.ChangeShapes Go.WideShapes Go.ChangeAt Go.RowKit
open Go.Proofs.YtdnfnobgeddbfaaGreatDoor.Abs
open Go.Proofs.YtdnfnobgeddbfaaGreatDoor.Abs0
set_option linter.unusedVariables false
theorem own : ownKnob Tryz.prog.godebug = none := by kernel_rfl
theorem closed : closedB Tryz.prog [22, 5, 3, 23, 9] = true := by kernel_rfl
theorem hlaw (s : Nat → Nat × Nat) (hs : SNe s) (xs : List AV) (h : FitsAll Tryz.prog [22, 3, 23] xs) : CW fns 3 xs ⟨0, [], Γ0 s⟩ fun q => q.1 = .bool true := by
  obtain ⟨x0, r0, rfl, h0, g0⟩ := h
  obtain ⟨x1, r1, rfl, h1, g1⟩ := g0
  obtain ⟨x2, r2, rfl, h2, g2⟩ := g1
  have hr' : r2 = [] := g2
  subst hr'
  obtain ⟨o0, rfl, hl0⟩ := bytes_fits h0
  obtain ⟨n1, rfl, hl1, hm1⟩ := int_fits h1
  obtain ⟨b2, l2, rfl, hb2, hl2⟩ := strs_fits h2
  exact law_FnBindLayers o0 hl0 n1 hl1 hm1 b2 l2 hb2 hl2 _ (gam s hs)
theorem door_met (os : Os) (args : Array Value) : laidMetH Tryz.prog Rows.fnBindLayersRow.laid ((World.doorLaid Tryz.prog 85 os).forCall (fun _ _ => 0) ⟨#[], args, []⟩).memory :=
  laidMetH_of_parts3 (fuel := 8) (laidMet_of_run' 8 (by kernel_rfl) (by kernel_rfl)) (by kernel_rfl) (by kernel_rfl)
set_option maxRecDepth 100000 in
theorem lifted (os : Os) (started : os.Started) (H : Type) (enc : TypeId × Value → H) :
    ReturnsInHanded {} Tryz.checked os 3 .any (fun w args => (Rows.fnBindLayersSpec.pre enc Tryz.prog Tryz.f3 Rows.fnBindLayersRow.domain false w args ∧ laidMetH Tryz.prog Rows.fnBindLayersRow.laid w) ∧ sizedMet enc Tryz.prog Tryz.f3 (OpenSpec.ofChange Rows.fnBindLayersSpec) false w args)
      (Rows.fnBindLayersSpec.post enc Tryz.prog Tryz.f3 false true false false) := by
  refine returnsInHanded_of_change_and (C := Tryz.checked) (X := fun w _ => laidMetH Tryz.prog Rows.fnBindLayersRow.laid w) (fun _ _ _ hh h => h.of_heap hh) own started (by kernel_rfl) Tryz.func3
    (ChangeSpec.witness_shaped (enc := enc) (C := Tryz.checked) (os := os) (X := fun w _ => laidMetH Tryz.prog Rows.fnBindLayersRow.laid w) false (World.doorLaid Tryz.prog 85 os) #[.slice none 0 0, .int .i64 0, .slice none 0 0] 8 rfl (World.shaped_of_RefB (by kernel_rfl) (by kernel_rfl)) (by kernel_rfl) (by kernel_rfl) (by kernel_rfl) (door_met os _)) ?_
  intro W base args ds gs before hval0 hW hcnd hsz0 hL _
  have hW' := hW
  have hlt := hW.lt
  obtain ⟨p, q, hA0, hV, rfl, hfz, hnd⟩ := hW
  obtain ⟨rfl, rfl⟩ := trodVars_none hV
  have hA := hA0
  rw [Tryz.params3] at hA
  obtain ⟨v0, vs0, d0, ds0, p0, q0, hargs, rfl, rfl, h0, r0⟩ := trodAll_cons hA
  obtain ⟨v1, vs1, d1, ds1, p1, q1, rfl, rfl, rfl, h1, r1⟩ := trodAll_cons r0
  obtain ⟨v2, vs2, d2, ds2, p2, q2, rfl, rfl, rfl, h2, r2⟩ := trodAll_cons r1
  obtain ⟨rfl, rfl, rfl⟩ := trodAll_nil r2
  obtain ⟨s, hs, hg⟩ := globs hL
  refine (law_calls fnsOk (by kernel_rfl) closed Tryz.func3 (by rw [Tryz.params3]; decide) hA0 hval0 hsz0 (Γ := Γ0 s) hg (by rw [Tryz.params3]; exact hlaw s hs)).mono fun e W' ⟨he, bel⟩ => ?_
  subst he
  exact ⟨_, rfl, _, _, _, [], _, [], hW', trodAll_mk1 (shut_bool Tryz.underlying4 _), trodAll_below (by kernel_rfl) bel (by kernel_rfl) hA0 (fun x hx => hlt x (List.mem_append_left _ hx)), rfl, bel.frame _, fun h => by cases h⟩
theorem over : Rows.fnBindLayersRow.holds Tryz.pinned (OpenSpec.ofChange Rows.fnBindLayersSpec) :=
  OpenClaim.holds_of_wide 3 Tryz.f3 rfl rfl rfl rfl rfl rfl rfl ⟨rfl, rfl, rfl, rfl, rfl⟩ rfl rfl rfl rfl rfl (by kernel_rfl) Tryz.func3 (by kernel_rfl)
    (of_decide_eq_true (by kernel_rfl)) (by unfold Func.isWrapper; first | (rw [if_pos (by decide +kernel)]; kernel_rfl) | (rw [if_neg (by decide +kernel)]; exact ⟨rfl, rfl⟩))
    (fun os started H enc _ => lifted os started H enc)
theorem proved : Rows.FnBindLayersSaid := over
theorem card : Rows.FnBindLayersCardSaid :=
  Claim7.holds_tied_plain_at .later [] [.sentinel, .sentinel, .sentinel, .sentinel] true (true, "ef8be73a77a6b24aec848762a281cb203de5c56ebc82c6acde09be9e88714f25") true
    proved (fun _ h => by cases h) (by kernel_rfl) (fun _ h => by cases h) fnBindLayers_row_tie rfl ⟨rfl, rfl⟩ (by kernel_rfl) rfl
    (fun f fn hf hfn => by
      obtain rfl : f = 3 := Option.some.inj ((show Tryz.prog.funcNamed "pub-gunnysack/laws.FnBindLayers" = some 3 by kernel_rfl).symm.trans hf) |>.symm
      obtain rfl : fn = Tryz.f3 := (Option.some.inj (Tryz.func3.symm.trans hfn)).symm
      exact ⟨by kernel_rfl, fun j t ht => by
        have hall : (Tryz.f3.params.toList.all fun t => !Tryz.prog.wantsStandIn t) = true := by kernel_rfl
        have := List.all_eq_true.1 hall t (by have := Array.mem_of_getElem? ht; simpa using this)
        have h2 : Tryz.prog.wantsStandIn t = false := by simpa using this
        exact h2⟩)
    (by kernel_rfl)
#print axioms card
end Go.Proofs.YtdnfnobgeddbfaaGreatDoor.fnBindLayers
namespace Go.Proofs.YtdnfnobgeddbfaaGreatDoor
theorem fnBindLayers_holds : Rows.FnBindLayersCardSaid := fnBindLayers.card
end Go.Proofs.YtdnfnobgeddbfaaGreatDoor
