/- FnBindInt64: the law's function returns true at every input, and the input reads as it did. No condition. -/
import Derived.Test.YtdnfnobgeddbfaaEFnBindInt64
import Derived.Test.YtdnfnobgeddbfaaLDocFits
import Derived.Test.YtdnfnobgeddbfaaRows
import Derived.WalkKit
import Derived.ProofKit
import Derived.OpenShut
import Derived.ChangeOld
import Derived.Below
import Derived.SizedLaws
namespace Go.Proofs.Ytdnfnobgeddbfaa.fnBindInt64
open Go.ChangeShapes Go.WideShapes Go.ChangeAt Go.RowKit
open Go.Proofs.Ytdnfnobgeddbfaa.Abs
set_option linter.unusedVariables false
theorem own : ownKnob Try.prog.godebug = none := by kernel_rfl
theorem closed : closedB Try.prog [26, 3, 9, 2, 22, 23, 5, 24, 42] = true := by kernel_rfl
theorem hlaw (xs : List AV) (h : FitsAll Try.prog [26] xs) : callω fns 3 xs = some (.bool true) := by
  obtain ⟨x0, r0, rfl, h0, g0⟩ := h
  have hr' : r0 = [] := g0
  subst hr'
  obtain ⟨v0, rfl, hw0⟩ := val_fits h0
  exact law_FnBindInt64 v0 hw0
set_option maxRecDepth 100000 in
theorem lifted (os : Os) (started : os.Started) (H : Type) (enc : TypeId × Value → H) :
    ReturnsInHanded {} Try.checked os 3 .any (Rows.fnBindInt64Spec.pre6 enc Try.prog Try.f3 Rows.fnBindInt64Row.domain false) (Rows.fnBindInt64Spec.post enc Try.prog Try.f3 false true false false) := by
  refine returnsInHanded_of_change_sized (C := Try.checked) own started (by kernel_rfl) Try.func3
    (ChangeSpec.witness6 (enc := enc) (C := Try.checked) false ⟨#[], #[.agg #[.int .i64 0, .string .empty, .string .empty, .int .i64 0, .int .u64 0, .int .u64 0, .slice none 0 0, .slice none 0 0]], []⟩ 8 (by kernel_rfl) (by kernel_rfl) (by kernel_rfl) (by kernel_rfl)) ?_
  intro W base args ds gs before hval0 hW hcnd hsz0 _
  have hW' := hW
  have hlt := hW.lt
  obtain ⟨p, q, hA0, hV, rfl, hfz, hnd⟩ := hW
  obtain ⟨rfl, rfl⟩ := trodVars_none hV
  have hA := hA0
  rw [Try.params3] at hA
  obtain ⟨v0, vs0, d0, ds0, p0, q0, hargs, rfl, rfl, h0, r0⟩ := trodAll_cons hA
  obtain ⟨rfl, rfl, rfl⟩ := trodAll_nil r0
  refine (law_calls fnsOk (by kernel_rfl) closed Try.func3 (by rw [Try.params3]; decide) hA0 hval0 hsz0 (by rw [Try.params3]; exact hlaw)).mono fun e W' ⟨he, bel⟩ => ?_
  subst he
  exact ⟨_, rfl, _, _, _, [], _, [], hW', trodAll_mk1 (shut_bool Try.underlying4 _), trodAll_below (by kernel_rfl) bel (by kernel_rfl) hA0 (fun x hx => hlt x (List.mem_append_left _ hx)), rfl, bel.frame _, fun h => by cases h⟩
theorem over : Rows.fnBindInt64Row.holds Try.pinned (OpenSpec.ofChange Rows.fnBindInt64Spec) :=
  OpenClaim.holds_of_wide 3 Try.f3 rfl rfl rfl rfl rfl rfl rfl ⟨rfl, rfl, rfl, rfl, rfl⟩ rfl rfl rfl rfl rfl (by kernel_rfl) Try.func3 (by kernel_rfl)
    (of_decide_eq_true (by kernel_rfl)) (by unfold Func.isWrapper; first | (rw [if_pos (by decide +kernel)]; kernel_rfl) | (rw [if_neg (by decide +kernel)]; exact ⟨rfl, rfl⟩))
    (fun os started H enc _ => lifted os started H enc)
theorem proved : Rows.FnBindInt64Said := over
#print axioms proved
end Go.Proofs.Ytdnfnobgeddbfaa.fnBindInt64
namespace Go.Proofs.Ytdnfnobgeddbfaa
/-- The row, under a short name, for the claim. -/
theorem fnBindInt64_holds : Rows.FnBindInt64Said := fnBindInt64.proved
end Go.Proofs.Ytdnfnobgeddbfaa
