/- What is read of texts and numbers in a row. -/
import Derived.Test.YtcipaobalemdoaaTR6
import Derived.Test.YtcipaobalemdoaaProg
import Derived.KernelRfl
namespace Go.Proofs.Ytcipaobalemdoaa.Abs
set_option linter.all false
set_option linter.unusedVariables false
open Go.Proofs

theorem strs_fits {x : AV} (h : FitsV Try.prog 22 x) : ∃ (b : RS) (l : List (List UInt8)), x = b.fv 9 1 ∧ b.l = l.map AV.str ∧ l.length ≤ reachBytes := by
  obtain ⟨fuel, xs, h1, h2⟩ := h
  rcases h2 with ⟨h2, _⟩ | ⟨_, rfl⟩
  · have e : tagg Try.prog 22 = some false := by kernel_rfl
    rw [e] at h2; cases h2
  · obtain ⟨b, l, e, h3, h4⟩ := fits_row (e := 9) Try.underlying22 (by kernel_rfl) AV.str (fun k r hr => by obtain ⟨t, ht, _⟩ := fits_str Try.underlying9 hr; exact ⟨t, ht⟩) h1
    injection e with e _
    exact ⟨b, l, e, h3, h4⟩
theorem ints64_fits {x : AV} (h : FitsV Try.prog 23 x) : ∃ (b : RS) (l : List Int), x = b.fv 2 1 ∧ b.l = l.map (AV.int .i64) ∧ l.length ≤ reachBytes := by
  obtain ⟨fuel, xs, h1, h2⟩ := h
  rcases h2 with ⟨h2, _⟩ | ⟨_, rfl⟩
  · have e : tagg Try.prog 23 = some false := by kernel_rfl
    rw [e] at h2; cases h2
  · obtain ⟨b, l, e, h3, h4⟩ := fits_row (e := 2) Try.underlying23 (by kernel_rfl) (AV.int .i64) (fun k r hr => by obtain ⟨t, ht, _, _⟩ := fits_int Try.underlying2 hr; exact ⟨t, ht⟩) h1
    injection e with e _
    exact ⟨b, l, e, h3, h4⟩
end Go.Proofs.Ytcipaobalemdoaa.Abs
