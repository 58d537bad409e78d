/- What the specification takes of kinds that have no method. -/
import Derived.Test.YticoldgiebmmgaaGreatDoorEGetZ
namespace Go.Proofs.YticoldgiebmmgaaGreatDoor.Abs
set_option linter.all false
open Go.Proofs
set_option linter.unusedVariables false
set_option linter.unusedSimpArgs false
set_option maxRecDepth 100000
set_option maxHeartbeats 4000000

theorem take_none {k : Int} (hk : k = 6 ∨ k = 10 ∨ k = 255 ∨ k = 127) (o : Option (List UInt8)) : ∀ hE : H, callω fns 8 [.int .i64 k, bAV 5 o] hE = some (.tup [.agg (tvC k tv0 none), .int .i64 0, .bool true], hE) := by
  obtain ⟨n, _, hv, h2⟩ := fixed_kinds (k := k) (.inl hk)
  have h3 := hv []
  have hn : n = 0 := by rcases hk with rfl | rfl | rfl | rfl <;> (simp [vLen] at h3; omega)
  subst hn
  have hL : ∀ hE : H, callω fns 14 [.int .i64 k, bAV 5 o] hE = some (.tup [.int .i64 0, .bool true], hE) := fun hE => by
    have h := h2 o hE
    rw [decide_eq_true (Nat.zero_le _)] at h; exact h
  exact d_parse (by omega) o hL rfl (tvC_gv _ _ _) (p_none hk o hL)
end Go.Proofs.YticoldgiebmmgaaGreatDoor.Abs
