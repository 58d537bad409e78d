/- What is read of bytes, texts, numbers. -/
import Derived.Test.YtcipaobalemdoaaDoorTR2
import Derived.Test.YtcipaobalemdoaaDoorProg
import Derived.KernelRfl
namespace Go.Proofs.YtcipaobalemdoaaDoor.Abs
set_option linter.all false
set_option linter.unusedVariables false
open Go.Proofs

theorem bytes_fits {x : AV} (h : FitsV Tryd.prog 26 x) : ∃ o, x = bAV 5 o ∧ (bl o).length ≤ reachBytes := by
  obtain ⟨fuel, xs, h1, h2⟩ := h
  rcases h2 with ⟨h2, _⟩ | ⟨_, rfl⟩
  · have e : tagg Tryd.prog 26 = some false := by kernel_rfl
    rw [e] at h2; cases h2
  · obtain ⟨o, e, h3⟩ := fits_bytes Tryd.underlying26 Tryd.underlying5 (by kernel_rfl) h1
    injection e with e _
    exact ⟨o, e, h3⟩
theorem str_fits {x : AV} (h : FitsV Tryd.prog 9 x) : ∃ t, x = .str t ∧ t.length ≤ reachBytes := by
  obtain ⟨fuel, xs, h1, h2⟩ := h
  rcases h2 with ⟨h2, _⟩ | ⟨_, rfl⟩
  · have e : tagg Tryd.prog 9 = some false := by kernel_rfl
    rw [e] at h2; cases h2
  · obtain ⟨t, e, h3⟩ := fits_str Tryd.underlying9 h1
    injection e with e _
    exact ⟨t, e, h3⟩
theorem int_fits {x : AV} (h : FitsV Tryd.prog 3 x) : ∃ n, x = .int .i64 n ∧ IntKind.i64.min ≤ n ∧ n ≤ IntKind.i64.max := by
  obtain ⟨fuel, xs, h1, h2⟩ := h
  rcases h2 with ⟨h2, _⟩ | ⟨_, rfl⟩
  · have e : tagg Tryd.prog 3 = some false := by kernel_rfl
    rw [e] at h2; cases h2
  · obtain ⟨n, e, h3⟩ := fits_int Tryd.underlying3 h1
    injection e with e _
    exact ⟨n, e, h3⟩
end Go.Proofs.YtcipaobalemdoaaDoor.Abs
