/- What is read of a byte. -/
import Derived.Test.YticoldgiebmmgaaGreatDoorLSimpleFits
namespace Go.Proofs.YticoldgiebmmgaaGreatDoor.Abs
set_option linter.all false
set_option linter.unusedVariables false
open Go.Proofs

theorem u8_fits {x : AV} (h : FitsV Tryz.prog 5 x) : ∃ n, x = .int .u8 n ∧ 0 ≤ n ∧ n < 256 := by
  obtain ⟨fuel, xs, h1, h2⟩ := h
  rcases h2 with ⟨h2, _⟩ | ⟨_, rfl⟩
  · have e : tagg Tryz.prog 5 = some false := by kernel_rfl
    rw [e] at h2; cases h2
  · obtain ⟨n, e, h3, h4⟩ := fits_int Tryz.underlying5 h1
    injection e with e _
    have e1 : IntKind.u8.min = 0 := rfl
    have e2 : IntKind.u8.max = 255 := rfl
    exact ⟨n, e, by omega, by omega⟩
end Go.Proofs.YticoldgiebmmgaaGreatDoor.Abs
