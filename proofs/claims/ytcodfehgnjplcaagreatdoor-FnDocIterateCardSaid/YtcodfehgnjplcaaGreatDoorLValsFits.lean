/- What is read of a row of values. -/
import Derived.Test.YtcodfehgnjplcaaGreatDoorLDocFits
import Derived.Test.YtcodfehgnjplcaaGreatDoorTR6
namespace Go.Proofs.YtcodfehgnjplcaaGreatDoor.Abs
set_option linter.all false
set_option linter.unusedVariables false
open Go.Proofs

def valsFl (vs : List Tr) : List AV := vs.flatMap fun v => v.cells 5 66
theorem vals_fits {x : AV} (h : FitsV Tryz.prog 40 x) : ∃ (b : RS) (vs : List Tr), x = b.fv 44 8 ∧ b.l = valsFl vs ∧ vs.length ≤ reachBytes ∧ ∀ v ∈ vs, v.wf := by
  obtain ⟨fuel, xs, h1, h2⟩ := h
  rcases h2 with ⟨h2, _⟩ | ⟨_, rfl⟩
  · have e : tagg Tryz.prog 40 = some false := by kernel_rfl
    rw [e] at h2; cases h2
  · cases fuel with
    | zero => exact h1.elim
    | succ k =>
      simp only [FitsC, Tryz.underlying40] at h1
      have hcell : Tryz.prog.cellsOf 44 = 8 := by kernel_rfl
      rcases h1 with h1 | ⟨rows, h1, hl, hr⟩
      · injection h1 with h1 _
        exact ⟨.nil, [], by rw [h1]; rfl, rfl, by simp, by simp⟩
      · injection h1 with h1 _
        have : ∃ vs : List Tr, rows.flatten = valsFl vs ∧ vs.length = rows.length ∧ ∀ v ∈ vs, v.wf := by
          clear hl h1
          induction rows with
          | nil => exact ⟨[], rfl, rfl, by simp⟩
          | cons r rows ihr =>
            obtain ⟨vs, e1, e2, e3⟩ := ihr (fun r hr' => hr r (List.mem_cons_of_mem _ hr'))
            obtain ⟨_, hf⟩ := hr r List.mem_cons_self
            obtain ⟨v, rfl, hv⟩ := (fits_tree k).1 _ hf
            exact ⟨v :: vs, by simp [valsFl, e1], by simp [e2], by intro w hw; rcases List.mem_cons.1 hw with rfl | hw; { exact hv }; { exact e3 w hw }⟩
        obtain ⟨vs, e1, e2, e3⟩ := this
        refine ⟨.own true (valsFl vs), vs, ?_, rfl, by omega, e3⟩
        rw [h1, e1, hcell]; rfl
end Go.Proofs.YtcodfehgnjplcaaGreatDoor.Abs
