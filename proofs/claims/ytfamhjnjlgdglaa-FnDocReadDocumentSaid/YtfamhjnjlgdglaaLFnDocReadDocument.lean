/- FnDocReadDocument: the law's function returns true at every input, and the input reads as it did. No condition. -/
import Derived.Test.YtfamhjnjlgdglaaEFnDocReadDocument
import Derived.Test.YtfamhjnjlgdglaaLDocFits
import Derived.Test.YtfamhjnjlgdglaaRows
import Derived.WalkKit
import Derived.ProofKit
import Derived.OpenShut
import Derived.ChangeOld
import Derived.Below
import Derived.SizedLaws
namespace Go.Proofs.Ytfamhjnjlgdglaa.fnDocReadDocument
open Go.ChangeShapes Go.WideShapes Go.ChangeAt Go.RowKit
open Go.Proofs.Ytfamhjnjlgdglaa.Abs
set_option linter.unusedVariables false
theorem own : ownKnob Try.prog.godebug = none := by kernel_rfl
theorem closed : closedB Try.prog [33, 64, 9, 61, 3, 2, 59, 22, 5] = true := by kernel_rfl
theorem hlaw (xs : List AV) (h : FitsAll Try.prog [33, 22] xs) : callω fns 5 xs = some (.bool true) := by
  obtain ⟨x0, r0, rfl, h0, g0⟩ := h
  obtain ⟨x1, r1, rfl, h1, g1⟩ := g0
  have hr' : r1 = [] := g1
  subst hr'
  obtain ⟨ks0, kn0, rfl, hl0, hw0⟩ := kids_fits h0
  obtain ⟨o1, rfl, hl1⟩ := bytes_fits h1
  exact law_FnDocReadDocument ks0 kn0 o1 hl0 hw0
set_option maxRecDepth 100000 in
theorem lifted (os : Os) (started : os.Started) (H : Type) (enc : TypeId × Value → H) :
    ReturnsInHanded {} Try.checked os 5 .any (Rows.fnDocReadDocumentSpec.pre6 enc Try.prog Try.f5 Rows.fnDocReadDocumentRow.domain false) (Rows.fnDocReadDocumentSpec.post enc Try.prog Try.f5 false true false false) := by
  refine returnsInHanded_of_change_sized (C := Try.checked) own started (by kernel_rfl) Try.func5
    (ChangeSpec.witness6 (enc := enc) (C := Try.checked) false ⟨#[], #[.slice none 0 0, .slice none 0 0], []⟩ 8 (by kernel_rfl) (by kernel_rfl) (by kernel_rfl) (by kernel_rfl)) ?_
  intro W base args ds gs before hval0 hW hcnd hsz0 _
  have hW' := hW
  have hlt := hW.lt
  obtain ⟨p, q, hA0, hV, rfl, hfz, hnd⟩ := hW
  obtain ⟨rfl, rfl⟩ := trodVars_none hV
  have hA := hA0
  rw [Try.params5] at hA
  obtain ⟨v0, vs0, d0, ds0, p0, q0, hargs, rfl, rfl, h0, r0⟩ := trodAll_cons hA
  obtain ⟨v1, vs1, d1, ds1, p1, q1, rfl, rfl, rfl, h1, r1⟩ := trodAll_cons r0
  obtain ⟨rfl, rfl, rfl⟩ := trodAll_nil r1
  refine (law_calls fnsOk (by kernel_rfl) closed Try.func5 (by rw [Try.params5]; decide) hA0 hval0 hsz0 (by rw [Try.params5]; exact hlaw)).mono fun e W' ⟨he, bel⟩ => ?_
  subst he
  exact ⟨_, rfl, _, _, _, [], _, [], hW', trodAll_mk1 (shut_bool Try.underlying4 _), trodAll_below (by kernel_rfl) bel (by kernel_rfl) hA0 (fun x hx => hlt x (List.mem_append_left _ hx)), rfl, bel.frame _, fun h => by cases h⟩
theorem over : Rows.fnDocReadDocumentRow.holds Try.pinned (OpenSpec.ofChange Rows.fnDocReadDocumentSpec) :=
  OpenClaim.holds_of_wide 5 Try.f5 rfl rfl rfl rfl rfl rfl rfl ⟨rfl, rfl, rfl, rfl, rfl⟩ rfl rfl rfl rfl rfl (by kernel_rfl) Try.func5 (by kernel_rfl)
    (of_decide_eq_true (by kernel_rfl)) (by unfold Func.isWrapper; first | (rw [if_pos (by decide +kernel)]; kernel_rfl) | (rw [if_neg (by decide +kernel)]; exact ⟨rfl, rfl⟩))
    (fun os started H enc _ => lifted os started H enc)
theorem proved : Rows.FnDocReadDocumentSaid := over
#print axioms proved
end Go.Proofs.Ytfamhjnjlgdglaa.fnDocReadDocument
namespace Go.Proofs.Ytfamhjnjlgdglaa
/-- The row, under a short name, for the claim. -/
theorem fnDocReadDocument_holds : Rows.FnDocReadDocumentSaid := fnDocReadDocument.proved
end Go.Proofs.Ytfamhjnjlgdglaa
