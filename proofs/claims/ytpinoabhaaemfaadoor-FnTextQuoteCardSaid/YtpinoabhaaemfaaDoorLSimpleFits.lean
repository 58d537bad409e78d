/- What is read of bytes, texts, numbers. -/
import Derived.Test.YtpinoabhaaemfaaDoorTR3
import Derived.Test.YtpinoabhaaemfaaDoorProg
import Derived.KernelRfl
namespace Go.Proofs.YtpinoabhaaemfaaDoor.Abs
set_option linter.all false
set_option linter.unusedVariables false
open Go.Proofs

theorem str_fits {x : AV} (h : FitsV Tryd.prog 9 x) : ∃ t, x = .str t ∧ t.length ≤ reachBytes := by
  obtain ⟨fuel, xs, h1, h2⟩ := h
  rcases h2 with ⟨h2, _⟩ | ⟨_, rfl⟩
  · have e : tagg Tryd.prog 9 = some false := by kernel_rfl
    rw [e] at h2; cases h2
  · obtain ⟨t, e, h3⟩ := fits_str Tryd.underlying9 h1
    injection e with e _
    exact ⟨t, e, h3⟩
end Go.Proofs.YtpinoabhaaemfaaDoor.Abs
