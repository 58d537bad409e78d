/- What is read of bytes, texts, numbers. -/
import Derived.Test.YtdnfnobgeddbfaaGreatDoorA28
import Derived.Test.YtdnfnobgeddbfaaGreatDoorProg
import Derived.KernelRfl
namespace Go.Proofs.YtdnfnobgeddbfaaGreatDoor.Abs
set_option linter.all false
set_option linter.unusedVariables false
open Go.Proofs

theorem bytes_fits {x : AV} (h : FitsV Tryz.prog 22 x) : ∃ o, x = bAV 5 o ∧ (bl o).length ≤ reachBytes := by
  obtain ⟨fuel, xs, h1, h2⟩ := h
  rcases h2 with ⟨h2, _⟩ | ⟨_, rfl⟩
  · have e : tagg Tryz.prog 22 = some false := by kernel_rfl
    rw [e] at h2; cases h2
  · obtain ⟨o, e, h3⟩ := fits_bytes Tryz.underlying22 Tryz.underlying5 (by kernel_rfl) h1
    injection e with e _
    exact ⟨o, e, h3⟩
theorem str_fits {x : AV} (h : FitsV Tryz.prog 9 x) : ∃ t, x = .str t ∧ t.length ≤ reachBytes := by
  obtain ⟨fuel, xs, h1, h2⟩ := h
  rcases h2 with ⟨h2, _⟩ | ⟨_, rfl⟩
  · have e : tagg Tryz.prog 9 = some false := by kernel_rfl
    rw [e] at h2; cases h2
  · obtain ⟨t, e, h3⟩ := fits_str Tryz.underlying9 h1
    injection e with e _
    exact ⟨t, e, h3⟩
theorem int_fits {x : AV} (h : FitsV Tryz.prog 3 x) : ∃ n, x = .int .i64 n ∧ IntKind.i64.min ≤ n ∧ n ≤ IntKind.i64.max := by
  obtain ⟨fuel, xs, h1, h2⟩ := h
  rcases h2 with ⟨h2, _⟩ | ⟨_, rfl⟩
  · have e : tagg Tryz.prog 3 = some false := by kernel_rfl
    rw [e] at h2; cases h2
  · obtain ⟨n, e, h3⟩ := fits_int Tryz.underlying3 h1
    injection e with e _
    exact ⟨n, e, h3⟩
end Go.Proofs.YtdnfnobgeddbfaaGreatDoor.Abs
