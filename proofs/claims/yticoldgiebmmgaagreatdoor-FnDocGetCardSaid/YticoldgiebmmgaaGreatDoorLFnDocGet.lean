/- FnDocGet: the law's function returns true at every input, and the input reads as it did. No condition. -/
import Derived.Test.YticoldgiebmmgaaGreatDoorEFnDocGet
import Derived.Test.YticoldgiebmmgaaGreatDoorGFnDocGet
import Derived.Test.YticoldgiebmmgaaGreatDoorCards
import Derived.Test.YticoldgiebmmgaaGreatDoorTie
import Derived.LaidMore
import Derived.SevenTiedAt
import Derived.Stop.Joined
import Derived.Test.YticoldgiebmmgaaGreatDoorLRawFits
import Derived.Test.YticoldgiebmmgaaGreatDoorRows
import Derived.WalkKit
import Derived.ProofKit
import Derived.OpenShut
import Derived.ChangeOld
import Derived.Below
import Derived.SizedLaws
namespace Go.Proofs.YticoldgiebmmgaaGreatDoor.fnDocGet
open Go.ChangeShapes Go.WideShapes Go.ChangeAt Go.RowKit
open Go.Proofs.YticoldgiebmmgaaGreatDoor.Abs
open Go.Proofs.YticoldgiebmmgaaGreatDoor.Abs0
set_option linter.unusedVariables false
theorem own : ownKnob Tryz.prog.godebug = none := by kernel_rfl
theorem closed : closedB Tryz.prog [24, 3, 22, 5] = true := by kernel_rfl
theorem hlaw (s : Nat → Nat × Nat) (hs : SNe s) (xs : List AV) (h : FitsAll Tryz.prog [24, 5] xs) : CW fns 3 xs ⟨0, [], Γ0 s⟩ fun q => q.1 = .bool true := by
  obtain ⟨x0, r0, rfl, h0, g0⟩ := h
  obtain ⟨x1, r1, rfl, h1, g1⟩ := g0
  have hr' : r1 = [] := g1
  subst hr'
  obtain ⟨n0, o0, rfl, hl0, hm0, ho0⟩ := raw_fits h0
  obtain ⟨n1, rfl, hl1, hm1⟩ := u8_fits h1
  exact law_FnDocGet n0 o0 n1 hl1 hm1 _ (gam s hs)
theorem door_met (os : Os) (args : Array Value) : laidMetH Tryz.prog Rows.fnDocGetRow.laid ((World.doorLaid Tryz.prog 100 os).forCall (fun _ _ => 0) ⟨#[], args, []⟩).memory :=
  laidMetH_of_parts3 (fuel := 8) (laidMet_of_run' 8 (by kernel_rfl) (by kernel_rfl)) (by kernel_rfl) (by kernel_rfl)
set_option maxRecDepth 100000 in
theorem lifted (os : Os) (started : os.Started) (H : Type) (enc : TypeId × Value → H) :
    ReturnsInHanded {} Tryz.checked os 3 .any (fun w args => (Rows.fnDocGetSpec.pre enc Tryz.prog Tryz.f3 Rows.fnDocGetRow.domain false w args ∧ laidMetH Tryz.prog Rows.fnDocGetRow.laid w) ∧ sizedMet enc Tryz.prog Tryz.f3 (OpenSpec.ofChange Rows.fnDocGetSpec) false w args)
      (Rows.fnDocGetSpec.post enc Tryz.prog Tryz.f3 false true false false) := by
  refine returnsInHanded_of_change_and (C := Tryz.checked) (X := fun w _ => laidMetH Tryz.prog Rows.fnDocGetRow.laid w) (fun _ _ _ hh h => h.of_heap hh) own started (by kernel_rfl) Tryz.func3
    (ChangeSpec.witness_shaped (enc := enc) (C := Tryz.checked) (os := os) (X := fun w _ => laidMetH Tryz.prog Rows.fnDocGetRow.laid w) false (World.doorLaid Tryz.prog 100 os) #[.agg #[.int .i64 0, .slice none 0 0], .int .u8 0] 8 rfl (World.shaped_of_RefB (by kernel_rfl) (by kernel_rfl)) (by kernel_rfl) (by kernel_rfl) (by kernel_rfl) (door_met os _)) ?_
  intro W base args ds gs before hval0 hW hcnd hsz0 hL _
  have hW' := hW
  have hlt := hW.lt
  obtain ⟨p, q, hA0, hV, rfl, hfz, hnd⟩ := hW
  obtain ⟨rfl, rfl⟩ := trodVars_none hV
  have hA := hA0
  rw [Tryz.params3] at hA
  obtain ⟨v0, vs0, d0, ds0, p0, q0, hargs, rfl, rfl, h0, r0⟩ := trodAll_cons hA
  obtain ⟨v1, vs1, d1, ds1, p1, q1, rfl, rfl, rfl, h1, r1⟩ := trodAll_cons r0
  obtain ⟨rfl, rfl, rfl⟩ := trodAll_nil r1
  obtain ⟨s, hs, hg⟩ := globs hL
  refine (law_calls fnsOk (by kernel_rfl) closed Tryz.func3 (by rw [Tryz.params3]; decide) hA0 hval0 hsz0 (Γ := Γ0 s) hg (by rw [Tryz.params3]; exact hlaw s hs)).mono fun e W' ⟨he, bel⟩ => ?_
  subst he
  exact ⟨_, rfl, _, _, _, [], _, [], hW', trodAll_mk1 (shut_bool Tryz.underlying4 _), trodAll_below (by kernel_rfl) bel (by kernel_rfl) hA0 (fun x hx => hlt x (List.mem_append_left _ hx)), rfl, bel.frame _, fun h => by cases h⟩
theorem bAnd {a b : Bool} (ha : a = true) (hb : b = true) : (a && b) = true := by rw [ha, hb]; rfl
set_option maxHeartbeats 40000000 in
theorem jf : joinedFacts Tryz.pinned.checked.prog 3 Tryz.f3 Rows.fnDocGetSpec Rows.fnDocGetRow = true := by
  delta joinedFacts
  repeat' (with_reducible refine bAnd ?_ ?_)
  all_goals as_aux_lemma => kernel_rfl
theorem over : Rows.fnDocGetRow.holds Tryz.pinned (OpenSpec.ofChange Rows.fnDocGetSpec) :=
  OpenClaim.holds_of_wide 3 Tryz.f3 rfl rfl rfl rfl rfl rfl rfl ⟨rfl, rfl, rfl, rfl, rfl⟩ rfl rfl rfl rfl rfl (by as_aux_lemma => kernel_rfl) Tryz.func3 jf
    (of_decide_eq_true (by as_aux_lemma => kernel_rfl)) (by unfold Func.isWrapper; first | (rw [if_pos (by decide +kernel)]; kernel_rfl) | (rw [if_neg (by decide +kernel)]; exact ⟨rfl, rfl⟩))
    (fun os started H enc _ => lifted os started H enc)
theorem proved : Rows.FnDocGetSaid := over
set_option maxHeartbeats 40000000 in
theorem card : Rows.FnDocGetCardSaid :=
  Claim7.holds_tied_plain_at .later [] [.data, .data, .data, .sentinel, .sentinel, .sentinel, .sentinel] true (true, "220a09db9b6f67c89fe18ab86a945cdc67246b7e3b1060d624a2c711becadedc") true
    proved (fun _ h => by cases h) (by as_aux_lemma => kernel_rfl) (fun _ h => by cases h) fnDocGet_row_tie rfl ⟨rfl, rfl⟩ (by as_aux_lemma => kernel_rfl) rfl
    (fun f fn hf hfn => by
      obtain rfl : f = 3 := Option.some.inj ((show Tryz.prog.funcNamed "pub-gunnysack/laws.FnDocGet" = some 3 by as_aux_lemma => kernel_rfl).symm.trans hf) |>.symm
      obtain rfl : fn = Tryz.f3 := (Option.some.inj (Tryz.func3.symm.trans hfn)).symm
      exact ⟨by as_aux_lemma => kernel_rfl, fun j t ht => by
        have hall : (Tryz.f3.params.toList.all fun t => !Tryz.prog.wantsStandIn t) = true := by as_aux_lemma => kernel_rfl
        have := List.all_eq_true.1 hall t (by have := Array.mem_of_getElem? ht; simpa using this)
        have h2 : Tryz.prog.wantsStandIn t = false := by simpa using this
        exact h2⟩)
    (by as_aux_lemma => kernel_rfl)
#print axioms card
end Go.Proofs.YticoldgiebmmgaaGreatDoor.fnDocGet
namespace Go.Proofs.YticoldgiebmmgaaGreatDoor
theorem fnDocGet_holds : Rows.FnDocGetCardSaid := fnDocGet.card
end Go.Proofs.YticoldgiebmmgaaGreatDoor
