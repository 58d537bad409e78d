/- What is read of a raw value. -/
import Derived.Test.YticoldgiebmmgaaGreatDoorLU8Fits
namespace Go.Proofs.YticoldgiebmmgaaGreatDoor.Abs
set_option linter.all false
set_option linter.unusedVariables false
set_option maxRecDepth 100000
open Go.Proofs

theorem raw_fits {x : AV} (h : FitsV Tryz.prog 24 x) : ∃ n o, x = .agg [.int .i64 n, bAV 5 o] ∧ IntKind.i64.min ≤ n ∧ n ≤ IntKind.i64.max ∧ (bl o).length ≤ reachBytes := by
  obtain ⟨fuel, xs, h1, h2⟩ := h
  rcases h2 with ⟨_, rfl⟩ | ⟨h2, _⟩
  · obtain ⟨k, rfl, h3⟩ := fits_struct Tryz.underlying24 h1
    obtain ⟨p1, q1, rfl, f1, p2, q2, rfl, f2, hr⟩ := h3
    have hr' : q2 = [] := hr
    subst hr'
    obtain ⟨n, rfl, a1, a2⟩ := fits_int Tryz.underlying3 f1
    obtain ⟨o, rfl, b3⟩ := fits_bytes Tryz.underlying22 Tryz.underlying5 (by kernel_rfl) f2
    exact ⟨n, o, rfl, a1, a2, b3⟩
  · have e : tagg Tryz.prog 24 = some true := by kernel_rfl
    rw [e] at h2; cases h2
end Go.Proofs.YticoldgiebmmgaaGreatDoor.Abs
