/- What is read of a truth. -/
import Derived.Test.YtpinoabhaaemfaaDoorLSimpleFits
namespace Go.Proofs.YtpinoabhaaemfaaDoor.Abs
set_option linter.all false
set_option linter.unusedVariables false
open Go.Proofs

theorem bool_fits {x : AV} (h : FitsV Tryd.prog 4 x) : ∃ b, x = .bool b := by
  obtain ⟨fuel, xs, h1, h2⟩ := h
  rcases h2 with ⟨h2, _⟩ | ⟨_, rfl⟩
  · have e : tagg Tryd.prog 4 = some false := by kernel_rfl
    rw [e] at h2; cases h2
  · obtain ⟨b, e⟩ := fits_bool Tryd.underlying4 h1
    injection e with e _
    exact ⟨b, e⟩
end Go.Proofs.YtpinoabhaaemfaaDoor.Abs
