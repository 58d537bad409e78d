/- What the law's function FnTextQuote computes. -/
import Derived.Test.YtpinoabhaaemfaaDoorEQz2
namespace Go.Proofs.YtpinoabhaaemfaaDoor.Abs
set_option linter.all false
open Go.Proofs
set_option linter.unusedVariables false
set_option linter.unusedSimpArgs false
set_option maxRecDepth 100000
set_option maxHeartbeats 8000000

theorem law_FnTextQuote (s : List UInt8) (h : H) (hT : Tabs 0 1 h.Γ ∧ Tabs 2 3 h.Γ) : CW fns 4 [.str s] h fun q => q.1 = .bool true := by
  obtain ⟨hT, hT2⟩ := hT
  refine runs4 (Nat.le_of_ble_eq_true rfl) ?_
  have hE := c_extText s
  by_cases g1 : 2147483647 < s.length
  · have g1' : (2147483647 : Int) < s.length := by omega
    simp [g1, g1']
  have g1' : ¬ (2147483647 : Int) < s.length := by omega
  by_cases g2 : s.length ≤ 300
  case neg =>
    rw [decide_eq_false g2, Bool.false_and] at hE
    simp [g1, g1', hE, pkV]
  cases g3 : validF s.length s with
  | false =>
    rw [g3, Bool.and_false] at hE
    simp [g1, g1', hE, pkV]
  | true =>
    rw [g3, decide_eq_true g2] at hE
    have hq := c_ExtQuote s true g2 g3 h.mask hT
    have hc := c_CoreQuote s g2 g3 h.mask hT2
    have hs := c_ExtString s true g2 g3
    have e : [34] ++ quoteF s.length true s ++ [34] = quoted true s := rfl
    rw [e] at hs
    simp [g1, g1', hE, hq, hc, hs, pkV]
end Go.Proofs.YtpinoabhaaemfaaDoor.Abs
