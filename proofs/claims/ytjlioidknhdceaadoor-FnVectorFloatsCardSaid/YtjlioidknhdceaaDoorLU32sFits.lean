/- What is read of a row of numbers of 32 bits. -/
import Derived.Test.YtjlioidknhdceaaDoorEVec
import Derived.Test.YtjlioidknhdceaaDoorProg
import Derived.KernelRfl
namespace Go.Proofs.YtjlioidknhdceaaDoor.Abs
set_option linter.all false
set_option linter.unusedVariables false
open Go.Proofs

theorem u32s_fits {x : AV} (h : FitsV Tryd.prog 22 x) : ∃ (b : RS) (l : List N32), x = b.fv 23 1 ∧ b.l = l.map uV ∧ l.length ≤ reachBytes := by
  obtain ⟨fuel, xs, h1, h2⟩ := h
  rcases h2 with ⟨h2, _⟩ | ⟨_, rfl⟩
  · have e : tagg Tryd.prog 22 = some false := by kernel_rfl
    rw [e] at h2; cases h2
  · obtain ⟨b, l, e, h3, h4⟩ := fits_row (e := 23) Tryd.underlying22 (by kernel_rfl) uV (fun k r hr => by
      obtain ⟨t, ht, h0, h5⟩ := fits_int Tryd.underlying23 hr
      have g0 : (0 : Int) ≤ t := h0
      have g1 : t ≤ 4294967295 := h5
      refine ⟨⟨t.toNat, by omega⟩, ?_⟩
      rw [ht]
      have e2 : ((t.toNat : Nat) : Int) = t := by omega
      simp [uV, e2]) h1
    injection e with e _
    exact ⟨b, l, e, h3, h4⟩
end Go.Proofs.YtjlioidknhdceaaDoor.Abs
