/- What is read of texts in a row, and of values. -/
import Derived.Test.YtdnfnobgeddbfaaDoorLDocFits
import Derived.Test.YtdnfnobgeddbfaaDoorTR6
import Derived.Test.YtdnfnobgeddbfaaDoorProg
import Derived.KernelRfl
namespace Go.Proofs.YtdnfnobgeddbfaaDoor.Abs
set_option linter.all false
set_option linter.unusedVariables false
open Go.Proofs

theorem strs_fits {x : AV} (h : FitsV Tryd.prog 33 x) : ∃ (b : RS) (l : List (List UInt8)), x = b.fv 9 1 ∧ b.l = l.map AV.str ∧ l.length ≤ reachBytes := by
  obtain ⟨fuel, xs, h1, h2⟩ := h
  rcases h2 with ⟨h2, _⟩ | ⟨_, rfl⟩
  · have e : tagg Tryd.prog 33 = some false := by kernel_rfl
    rw [e] at h2; cases h2
  · obtain ⟨b, l, e, h3, h4⟩ := fits_row (e := 9) Tryd.underlying33 (by kernel_rfl) AV.str (fun k r hr => by obtain ⟨t, ht, _⟩ := fits_str Tryd.underlying9 hr; exact ⟨t, ht⟩) h1
    injection e with e _
    exact ⟨b, l, e, h3, h4⟩
end Go.Proofs.YtdnfnobgeddbfaaDoor.Abs
