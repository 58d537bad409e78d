/- What is read of texts in a row, and of values. -/
import Derived.Test.YtdnfnobgeddbfaaGreatDoorLSimpleFits
import Derived.Test.YtdnfnobgeddbfaaGreatDoorTR7
import Derived.Test.YtdnfnobgeddbfaaGreatDoorProg
import Derived.KernelRfl
namespace Go.Proofs.YtdnfnobgeddbfaaGreatDoor.Abs
set_option linter.all false
set_option linter.unusedVariables false
open Go.Proofs

theorem strs_fits {x : AV} (h : FitsV Tryz.prog 23 x) : ∃ (b : RS) (l : List (List UInt8)), x = b.fv 9 1 ∧ b.l = l.map AV.str ∧ l.length ≤ reachBytes := by
  obtain ⟨fuel, xs, h1, h2⟩ := h
  rcases h2 with ⟨h2, _⟩ | ⟨_, rfl⟩
  · have e : tagg Tryz.prog 23 = some false := by kernel_rfl
    rw [e] at h2; cases h2
  · obtain ⟨b, l, e, h3, h4⟩ := fits_row (e := 9) Tryz.underlying23 (by kernel_rfl) AV.str (fun k r hr => by obtain ⟨t, ht, _⟩ := fits_str Tryz.underlying9 hr; exact ⟨t, ht⟩) h1
    injection e with e _
    exact ⟨b, l, e, h3, h4⟩
end Go.Proofs.YtdnfnobgeddbfaaGreatDoor.Abs
