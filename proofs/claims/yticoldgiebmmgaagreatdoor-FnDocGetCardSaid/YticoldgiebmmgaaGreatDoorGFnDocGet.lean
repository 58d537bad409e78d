/- What package variables hold where FnDocGet begins: sentinels. -/
import Derived.Test.YticoldgiebmmgaaGreatDoorEFnDocGet
import Derived.Test.YticoldgiebmmgaaGreatDoorRows
import Derived.Test.YticoldgiebmmgaaGreatDoorA27
import Derived.Test.YticoldgiebmmgaaGreatDoorTR9
import Derived.Test.YticoldgiebmmgaaGreatDoorA29
import Derived.ProofKit
import Derived.MakeChecks
import Derived.OpenShut
import Derived.ChangeArms
import Derived.FnData
namespace Go.Proofs.YticoldgiebmmgaaGreatDoor.Abs0
open Go Go.Proofs Go.Proofs.YticoldgiebmmgaaGreatDoor.Abs Go.ChangeShapes
set_option linter.all false
set_option linter.unusedVariables false
set_option maxRecDepth 100000

def Γ0 (s : Nat → Nat × Nat) : Nat → Option (List AV) := fun g =>
  if g = 3 then some [sE (s 0)] else if g = 2 then some [sE (s 1)] else if g = 1 then some [sE (s 2)] else if g = 4 then some [sE (s 3)] else none
def SNe (s : Nat → Nat × Nat) : Prop := ∀ i j, i < 4 → j < 4 → i ≠ j → s i ≠ s j
theorem gam (s : Nat → Nat × Nat) (h : SNe s) : Sens (⟨0, [], Γ0 s⟩ : Go.Proofs.YticoldgiebmmgaaGreatDoor.Abs.H).Γ s := ⟨rfl, rfl, rfl, rfl, h⟩
theorem globs {W : World} (hL : laidMetH Tryz.prog Rows.fnDocGetRow.laid W) : ∃ s, SNe s ∧ ∀ g xs, Γ0 s g = some xs → CR W ⟨allF W, fun _ => none⟩ (.eptr xs) (.pointer (some ⟨g, 0, none⟩)) := by
  rw [MakeChecks.laidMetH_plain _ _ _ (by kernel_rfl)] at hL
  have hT := hL.tail.tail.tail
  obtain ⟨ps, h1, h2, h3⟩ := hT
  have hrow : ∀ u, Tryz.prog.typeName? 3 u = some "*errors.errorString" → u = 253 := typeName_ptr_named (nm := "errors.errorString") (by kernel_rfl) (by kernel_rfl) (by decide)
  obtain ⟨al, k1, _⟩ := sen_laid (P := Tryz.prog) (W := W) (nm := "*errors.errorString") Tryz.underlying131 hrow Tryz.underlying253 Tryz.underlying255 rfl rfl Tryz.underlying9 (by kernel_rfl) (by kernel_rfl)
    [("io.EOF", [69, 79, 70], 4), ("pub-gunnysack/pub/bsoncore.ErrEmptyKey", [101, 109, 112, 116, 121, 32, 107, 101, 121, 32, 112, 114, 111, 118, 105, 100, 101, 100], 1),
      ("pub-gunnysack/pub/bsoncore.ErrElementNotFound", [101, 108, 101, 109, 101, 110, 116, 32, 110, 111, 116, 32, 102, 111, 117, 110, 100], 2), ("pub-gunnysack/pub/bsoncore.ErrOutOfBounds", [111, 117, 116, 32, 111, 102, 32, 98, 111, 117, 110, 100, 115], 3)]
    (fun x hx => by
      simp only [List.mem_cons, List.not_mem_nil, or_false] at hx
      rcases hx with rfl | rfl | rfl | rfl <;> exact ⟨by kernel_rfl, by kernel_rfl⟩) ps h1 h2 h3
  match al, k1 with
  | [a3, a2, a1, a0], k1 =>
  obtain ⟨c3, d3, e3, n3, c2, d2, e2, n2, c1, d1, e1, n1, c0, d0, e0, n0, _⟩ := k1
  simp only [List.mem_cons, List.not_mem_nil, or_false, not_or] at n3 n2 n1
  refine ⟨fun i => if i = 0 then a0 else if i = 1 then a1 else if i = 2 then a2 else a3, fun i j hi hj hij => ?_, fun g xs hg => ?_⟩
  · have q : ∀ i, i < 4 → i = 0 ∨ i = 1 ∨ i = 2 ∨ i = 3 := by omega
    have m10 := n1
    have m21 := n2.1
    have m20 := n2.2
    have m32 := n3.1
    have m31 := n3.2.1
    have m30 := n3.2.2
    rcases q i hi with rfl | rfl | rfl | rfl <;> rcases q j hj with rfl | rfl | rfl | rfl <;> first
      | exact absurd rfl hij
      | (intro h; simp at h; first | exact m10 h | exact m10 h.symm | exact m21 h | exact m21 h.symm | exact m20 h | exact m20 h.symm | exact m32 h | exact m32 h.symm | exact m31 h | exact m31 h.symm | exact m30 h | exact m30 h.symm)
  · unfold Γ0 at hg
    split at hg
    · rename_i h; subst h; injection hg with hg; subst hg; exact senL_CR c0 d0 e0
    split at hg
    · rename_i h; subst h; injection hg with hg; subst hg; exact senL_CR c1 d1 e1
    split at hg
    · rename_i h; subst h; injection hg with hg; subst hg; exact senL_CR c2 d2 e2
    split at hg
    · rename_i h; subst h; injection hg with hg; subst hg; exact senL_CR c3 d3 e3
    · cases hg
end Go.Proofs.YticoldgiebmmgaaGreatDoor.Abs0
