/- FnExtStamps: the law's function returns true at every input, and the input reads as it did. No condition. -/
import Derived.Test.YtcipaobalemdoaaEFnExtStamps
import Derived.Test.YtcipaobalemdoaaLRowFits
import Derived.Test.YtcipaobalemdoaaRows
import Derived.WalkKit
import Derived.ProofKit
import Derived.OpenShut
import Derived.ChangeOld
import Derived.Below
import Derived.SizedLaws
namespace Go.Proofs.Ytcipaobalemdoaa.fnExtStamps
open Go.ChangeShapes Go.WideShapes Go.ChangeAt Go.RowKit
open Go.Proofs.Ytcipaobalemdoaa.Abs
set_option linter.unusedVariables false
theorem own : ownKnob Try.prog.godebug = none := by kernel_rfl
theorem closed : closedB Try.prog [22, 9, 23, 2] = true := by kernel_rfl
theorem hlaw (xs : List AV) (h : FitsAll Try.prog [22, 23] xs) : CW fns 3 xs ⟨0, [], fun _ => none⟩ fun q => q.1 = .bool true := by
  obtain ⟨x0, r0, rfl, h0, g0⟩ := h
  obtain ⟨x1, r1, rfl, h1, g1⟩ := g0
  have hr' : r1 = [] := g1
  subst hr'
  obtain ⟨b0, l0, rfl, hb0, hl0⟩ := strs_fits h0
  obtain ⟨b1, l1, rfl, hb1, hl1⟩ := ints64_fits h1
  exact law_FnExtStamps b0 l0 hb0 hl0 b1 l1 hb1 hl1 _
set_option maxRecDepth 100000 in
theorem lifted (os : Os) (started : os.Started) (H : Type) (enc : TypeId × Value → H) :
    ReturnsInHanded {} Try.checked os 3 .any (Rows.fnExtStampsSpec.pre6 enc Try.prog Try.f3 Rows.fnExtStampsRow.domain false) (Rows.fnExtStampsSpec.post enc Try.prog Try.f3 false true false false) := by
  refine returnsInHanded_of_change_sized (C := Try.checked) own started (by kernel_rfl) Try.func3
    (ChangeSpec.witness6 (enc := enc) (C := Try.checked) false ⟨#[], #[.slice none 0 0, .slice none 0 0], []⟩ 8 (by kernel_rfl) (by kernel_rfl) (by kernel_rfl) (by kernel_rfl)) ?_
  intro W base args ds gs before hval0 hW hcnd hsz0 _
  have hW' := hW
  have hlt := hW.lt
  obtain ⟨p, q, hA0, hV, rfl, hfz, hnd⟩ := hW
  obtain ⟨rfl, rfl⟩ := trodVars_none hV
  have hA := hA0
  rw [Try.params3] at hA
  obtain ⟨v0, vs0, d0, ds0, p0, q0, hargs, rfl, rfl, h0, r0⟩ := trodAll_cons hA
  obtain ⟨v1, vs1, d1, ds1, p1, q1, rfl, rfl, rfl, h1, r1⟩ := trodAll_cons r0
  obtain ⟨rfl, rfl, rfl⟩ := trodAll_nil r1
  refine (law_calls fnsOk (by kernel_rfl) closed Try.func3 (by rw [Try.params3]; decide) hA0 hval0 hsz0 (Γ := fun _ => none) (fun g xs h => by cases h) (by rw [Try.params3]; exact hlaw)).mono fun e W' ⟨he, bel⟩ => ?_
  subst he
  exact ⟨_, rfl, _, _, _, [], _, [], hW', trodAll_mk1 (shut_bool Try.underlying4 _), trodAll_below (by kernel_rfl) bel (by kernel_rfl) hA0 (fun x hx => hlt x (List.mem_append_left _ hx)), rfl, bel.frame _, fun h => by cases h⟩
theorem over : Rows.fnExtStampsRow.holds Try.pinned (OpenSpec.ofChange Rows.fnExtStampsSpec) :=
  OpenClaim.holds_of_wide 3 Try.f3 rfl rfl rfl rfl rfl rfl rfl ⟨rfl, rfl, rfl, rfl, rfl⟩ rfl rfl rfl rfl rfl (by kernel_rfl) Try.func3 (by kernel_rfl)
    (of_decide_eq_true (by kernel_rfl)) (by unfold Func.isWrapper; first | (rw [if_pos (by decide +kernel)]; kernel_rfl) | (rw [if_neg (by decide +kernel)]; exact ⟨rfl, rfl⟩))
    (fun os started H enc _ => lifted os started H enc)
theorem proved : Rows.FnExtStampsSaid := over
#print axioms proved
end Go.Proofs.Ytcipaobalemdoaa.fnExtStamps
namespace Go.Proofs.Ytcipaobalemdoaa
/-- The row, under a short name, for the claim. -/
theorem fnExtStamps_holds : Rows.FnExtStampsSaid := fnExtStamps.proved
end Go.Proofs.Ytcipaobalemdoaa
