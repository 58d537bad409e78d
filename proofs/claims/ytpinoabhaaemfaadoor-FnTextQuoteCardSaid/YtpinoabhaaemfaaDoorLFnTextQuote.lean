/- FnTextQuote: the law's function returns true at every input, and the input reads as it did. No condition. -/
import Derived.Test.YtpinoabhaaemfaaDoorEFnTextQuote
import Derived.Test.YtpinoabhaaemfaaDoorGFnTextQuote
import Derived.Test.YtpinoabhaaemfaaDoorCards
import Derived.Test.YtpinoabhaaemfaaDoorTie
import Derived.LaidMore
import Derived.Lay
import Derived.MakeChecks
import Derived.SevenTiedAt
import Derived.Stop.Joined
import Derived.Test.YtpinoabhaaemfaaDoorLSimpleFits
import Derived.Test.YtpinoabhaaemfaaDoorRows
import Derived.WalkKit
import Derived.ProofKit
import Derived.OpenShut
import Derived.ChangeOld
import Derived.Below
import Derived.SizedLaws
namespace Go.Proofs.YtpinoabhaaemfaaDoor.fnTextQuote
open Go.ChangeShapes Go.WideShapes Go.ChangeAt Go.RowKit
open Go.Proofs.YtpinoabhaaemfaaDoor.Abs
open Go.Proofs.YtpinoabhaaemfaaDoor.Abs0
set_option linter.unusedVariables false
theorem own : ownKnob Tryd.prog.godebug = none := by kernel_rfl
theorem closed : closedB Tryd.prog [9] = true := by kernel_rfl
theorem hlaw (xs : List AV) (h : FitsAll Tryd.prog [9] xs) : CW fns 4 xs ⟨0, [], Γ0⟩ fun q => q.1 = .bool true := by
  obtain ⟨x0, r0, rfl, h0, g0⟩ := h
  have hr' : r0 = [] := g0
  subst hr'
  obtain ⟨s0, rfl, hl0⟩ := str_fits h0
  exact law_FnTextQuote s0 _ gam
set_option maxRecDepth 100000 in
theorem lifted (os : Os) (started : os.Started) (H : Type) (enc : TypeId × Value → H) :
    ReturnsInHanded {} Tryd.checked os 4 .any (fun w args => (Rows.fnTextQuoteSpec.pre enc Tryd.prog Tryd.f4 Rows.fnTextQuoteRow.domain false w args ∧ laidMetH Tryd.prog Rows.fnTextQuoteRow.laid w) ∧ sizedMet enc Tryd.prog Tryd.f4 (OpenSpec.ofChange Rows.fnTextQuoteSpec) false w args)
      (Rows.fnTextQuoteSpec.post enc Tryd.prog Tryd.f4 false true false false) := by
  refine returnsInHanded_of_change_and (C := Tryd.checked) (X := fun w _ => laidMetH Tryd.prog Rows.fnTextQuoteRow.laid w) (fun _ _ _ hh h => h.of_heap hh) own started (by kernel_rfl) Tryd.func4
    (ChangeSpec.witness_shaped (enc := enc) (C := Tryd.checked) (os := os) (X := fun w _ => laidMetH Tryd.prog Rows.fnTextQuoteRow.laid w) false (World.laidAll Tryd.prog os Rows.fnTextQuoteRow.laid) #[.string .empty] 8 (World.laidAll_os _ _ _) (World.shaped_of_ZipB (by kernel_rfl) (by kernel_rfl)) (by kernel_rfl) (by kernel_rfl) (by kernel_rfl) (by rw [MakeChecks.laidMetH_plain _ _ _ (by kernel_rfl)]; exact laidMet_laidAll _ (by kernel_rfl) (by kernel_rfl))) ?_
  intro W base args ds gs before hval0 hW hcnd hsz0 hL _
  have hW' := hW
  have hlt := hW.lt
  obtain ⟨p, q, hA0, hV, rfl, hfz, hnd⟩ := hW
  obtain ⟨rfl, rfl⟩ := trodVars_none hV
  have hA := hA0
  rw [Tryd.params4] at hA
  obtain ⟨v0, vs0, d0, ds0, p0, q0, hargs, rfl, rfl, h0, r0⟩ := trodAll_cons hA
  obtain ⟨rfl, rfl, rfl⟩ := trodAll_nil r0
  refine (law_calls fnsOk (by kernel_rfl) closed Tryd.func4 (by rw [Tryd.params4]; decide) hA0 hval0 hsz0 (Γ := Γ0) (globs hL) (by rw [Tryd.params4]; exact hlaw)).mono fun e W' ⟨he, bel⟩ => ?_
  subst he
  exact ⟨_, rfl, _, _, _, [], _, [], hW', trodAll_mk1 (shut_bool Tryd.underlying4 _), trodAll_below (by kernel_rfl) bel (by kernel_rfl) hA0 (fun x hx => hlt x (List.mem_append_left _ hx)), rfl, bel.frame _, fun h => by cases h⟩
theorem over : Rows.fnTextQuoteRow.holds Tryd.pinned (OpenSpec.ofChange Rows.fnTextQuoteSpec) :=
  OpenClaim.holds_of_wide 4 Tryd.f4 rfl rfl rfl rfl rfl rfl rfl ⟨rfl, rfl, rfl, rfl, rfl⟩ rfl rfl rfl rfl rfl (by kernel_rfl) Tryd.func4 (by kernel_rfl)
    (of_decide_eq_true (by kernel_rfl)) (by unfold Func.isWrapper; first | (rw [if_pos (by decide +kernel)]; kernel_rfl) | (rw [if_neg (by decide +kernel)]; exact ⟨rfl, rfl⟩))
    (fun os started H enc _ => lifted os started H enc)
theorem proved : Rows.FnTextQuoteSaid := over
theorem card : Rows.FnTextQuoteCardSaid :=
  Claim7.holds_tied_plain_at .later [] [.data, .sentinel, .data, .data, .data, .data, .pinned] true (true, "3b3ee6eb3d834ec73fd9dc0966d0c4572e0e5c3fb19898234b36f1e06f87090b") false
    proved (fun _ h => by cases h) (by kernel_rfl) (fun _ h => by cases h) fnTextQuote_row_tie rfl ⟨rfl, rfl⟩ (by kernel_rfl) rfl
    (fun f fn hf hfn => by
      obtain rfl : f = 4 := Option.some.inj ((show Tryd.prog.funcNamed "pub-gunnysack/laws.FnTextQuote" = some 4 by kernel_rfl).symm.trans hf) |>.symm
      obtain rfl : fn = Tryd.f4 := (Option.some.inj (Tryd.func4.symm.trans hfn)).symm
      exact ⟨by kernel_rfl, fun j t ht => by
        have hall : (Tryd.f4.params.toList.all fun t => !Tryd.prog.wantsStandIn t) = true := by kernel_rfl
        have := List.all_eq_true.1 hall t (by have := Array.mem_of_getElem? ht; simpa using this)
        have h2 : Tryd.prog.wantsStandIn t = false := by simpa using this
        exact h2⟩)
    (by kernel_rfl)
#print axioms card
end Go.Proofs.YtpinoabhaaemfaaDoor.fnTextQuote
namespace Go.Proofs.YtpinoabhaaemfaaDoor
theorem fnTextQuote_holds : Rows.FnTextQuoteCardSaid := fnTextQuote.card
end Go.Proofs.YtpinoabhaaemfaaDoor
