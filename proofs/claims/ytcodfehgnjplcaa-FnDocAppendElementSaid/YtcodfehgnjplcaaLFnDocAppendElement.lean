/- FnDocAppendElement: the law's function returns true at every input, and the input reads as it did. No condition. -/
import Derived.Test.YtcodfehgnjplcaaEFnDocAppendElement
import Derived.Test.YtcodfehgnjplcaaLDocFits
import Derived.Test.YtcodfehgnjplcaaRows
import Derived.WalkKit
import Derived.ProofKit
import Derived.OpenShut
import Derived.ChangeOld
import Derived.Below
import Derived.SizedLaws
namespace Go.Proofs.Ytcodfehgnjplcaa.fnDocAppendElement
open Go.ChangeShapes Go.WideShapes Go.ChangeAt Go.RowKit
open Go.Proofs.Ytcodfehgnjplcaa.Abs
set_option linter.unusedVariables false
theorem own : ownKnob Try.prog.godebug = none := by kernel_rfl
theorem closed : closedB Try.prog [22, 5, 9, 26, 3, 2, 23, 24, 31] = true := by kernel_rfl
theorem hlaw (xs : List AV) (h : FitsAll Try.prog [22, 9, 26] xs) : CW fns 3 xs ⟨0, [], fun _ => none⟩ fun q => q.1 = .bool true := by
  obtain ⟨x0, r0, rfl, h0, g0⟩ := h
  obtain ⟨x1, r1, rfl, h1, g1⟩ := g0
  obtain ⟨x2, r2, rfl, h2, g2⟩ := g1
  have hr' : r2 = [] := g2
  subst hr'
  obtain ⟨o0, rfl, hl0⟩ := bytes_fits h0
  obtain ⟨s1, rfl, hl1⟩ := str_fits h1
  obtain ⟨v2, rfl, hw2⟩ := val_fits h2
  exact law_FnDocAppendElement o0 hl0 s1 hl1 v2 hw2 _
set_option maxRecDepth 100000 in
theorem lifted (os : Os) (started : os.Started) (H : Type) (enc : TypeId × Value → H) :
    ReturnsInHanded {} Try.checked os 3 .any (Rows.fnDocAppendElementSpec.pre6 enc Try.prog Try.f3 Rows.fnDocAppendElementRow.domain false) (Rows.fnDocAppendElementSpec.post enc Try.prog Try.f3 false true false false) := by
  refine returnsInHanded_of_change_sized (C := Try.checked) own started (by kernel_rfl) Try.func3
    (ChangeSpec.witness6 (enc := enc) (C := Try.checked) false ⟨#[], #[.slice none 0 0, .string .empty, .agg #[.int .i64 0, .string .empty, .string .empty, .int .i64 0, .int .u64 0, .int .u64 0, .slice none 0 0, .slice none 0 0]], []⟩ 8 (by kernel_rfl) (by kernel_rfl) (by kernel_rfl) (by kernel_rfl)) ?_
  intro W base args ds gs before hval0 hW hcnd hsz0 _
  have hW' := hW
  have hlt := hW.lt
  obtain ⟨p, q, hA0, hV, rfl, hfz, hnd⟩ := hW
  obtain ⟨rfl, rfl⟩ := trodVars_none hV
  have hA := hA0
  rw [Try.params3] at hA
  obtain ⟨v0, vs0, d0, ds0, p0, q0, hargs, rfl, rfl, h0, r0⟩ := trodAll_cons hA
  obtain ⟨v1, vs1, d1, ds1, p1, q1, rfl, rfl, rfl, h1, r1⟩ := trodAll_cons r0
  obtain ⟨v2, vs2, d2, ds2, p2, q2, rfl, rfl, rfl, h2, r2⟩ := trodAll_cons r1
  obtain ⟨rfl, rfl, rfl⟩ := trodAll_nil r2
  refine (law_calls fnsOk (by kernel_rfl) closed Try.func3 (by rw [Try.params3]; decide) hA0 hval0 hsz0 (Γ := fun _ => none) (fun g xs h => by cases h) (by rw [Try.params3]; exact hlaw)).mono fun e W' ⟨he, bel⟩ => ?_
  subst he
  exact ⟨_, rfl, _, _, _, [], _, [], hW', trodAll_mk1 (shut_bool Try.underlying4 _), trodAll_below (by kernel_rfl) bel (by kernel_rfl) hA0 (fun x hx => hlt x (List.mem_append_left _ hx)), rfl, bel.frame _, fun h => by cases h⟩
theorem over : Rows.fnDocAppendElementRow.holds Try.pinned (OpenSpec.ofChange Rows.fnDocAppendElementSpec) :=
  OpenClaim.holds_of_wide 3 Try.f3 rfl rfl rfl rfl rfl rfl rfl ⟨rfl, rfl, rfl, rfl, rfl⟩ rfl rfl rfl rfl rfl (by kernel_rfl) Try.func3 (by kernel_rfl)
    (of_decide_eq_true (by kernel_rfl)) (by unfold Func.isWrapper; first | (rw [if_pos (by decide +kernel)]; kernel_rfl) | (rw [if_neg (by decide +kernel)]; exact ⟨rfl, rfl⟩))
    (fun os started H enc _ => lifted os started H enc)
theorem proved : Rows.FnDocAppendElementSaid := over
#print axioms proved
end Go.Proofs.Ytcodfehgnjplcaa.fnDocAppendElement
namespace Go.Proofs.Ytcodfehgnjplcaa
/-- The row, under a short name, for the claim. -/
theorem fnDocAppendElement_holds : Rows.FnDocAppendElementSaid := fnDocAppendElement.proved
end Go.Proofs.Ytcodfehgnjplcaa
