/- What the law's function FnBindHex computes. -/
import Derived.Test.YtcipaobalemdoaaDoorEHex
namespace Go.Proofs.YtcipaobalemdoaaDoor.Abs
set_option linter.all false
open Go.Proofs
set_option linter.unusedVariables false
set_option linter.unusedSimpArgs false
set_option maxRecDepth 100000
set_option maxHeartbeats 4000000

theorem BS.mk_ne2 {l : List UInt8} (h : l ≠ []) : BS.mk l = BS.own true l := by cases l with | nil => exact absurd rfl h | cons a r => rfl
theorem law_FnBindHex (o : Option (List UInt8)) (_ : (bl o).length ≤ reachBytes) (h : H) (hΓ : h.Γ 2 = some (byteCells (List.replicate 12 0))) : CW fns 7 [bAV 5 o] h fun q => q.1 = .bool true := by
  refine runs7 (Nat.le_of_ble_eq_true rfl) ?_
  have hlen := bAV_len 5
  by_cases h1 : (bl o).length = 12
  · cases o with
    | none => simp at h1
    | some l =>
      simp only [bl_some] at h1
      have hx := hexL_length l
      rw [h1] at hx
      have e1 := c_IDHex h1
      have e2 := c_IDText h1
      have e3 := c_IDJSON h1
      have e4 := c_IDFromHex h1
      have e5 := c_IDFromText h1 (D := List.replicate 12 0) (by simp)
      have e6 := c_BindHex (l := l) (by omega)
      have e7 := c_IDIsZero h1 (Z := List.replicate 12 0) (by simp) (hE := h.mask) (by simpa using hΓ)
      have e8 := hexL_zero l
      have nh : hexL l ≠ [] := by intro e; rw [e] at hx; simp at hx
      have nj : jsonL l ≠ [] := by simp [jsonL]
      have nl : l ≠ [] := by intro e; rw [e] at h1; simp at h1
      rw [BS.mk_ne2 nh] at e2
      rw [BS.mk_ne2 nj] at e3
      rw [BS.mk_ne2 nl] at e4 e5
      have s1 := cvSB_b 5 (hexL l) (by omega)
      have s2 := cvSB_b 5 (jsonL l) (by simp [jsonL, hx])
      have t1 := c_bindBytes (some (hexL l)) (some (hexL l)) rfl
      have t2 := c_bindBytes (some (jsonL l)) (some (jsonL l)) rfl
      have t3 := c_bindBytes (some l) (some l) rfl
      have hl' : ((l.length : Nat) : Int) = 12 := by omega
      have hz : bAV 5 (some (List.replicate 12 0)) = .slice .frz 5 1 [.int .u8 0, .int .u8 0, .int .u8 0, .int .u8 0, .int .u8 0, .int .u8 0, .int .u8 0, .int .u8 0, .int .u8 0, .int .u8 0, .int .u8 0, .int .u8 0] := rfl
      rw [hz] at e5
      have hmk : ∀ st : St, mkV false 5 1 1 [.int .u8 0] (.int .i64 12) (.int .i64 12) st = some (.slice (.own true) 5 1 [.int .u8 0, .int .u8 0, .int .u8 0, .int .u8 0, .int .u8 0, .int .u8 0, .int .u8 0, .int .u8 0, .int .u8 0, .int .u8 0, .int .u8 0, .int .u8 0], st) := fun st => rfl
      have hj1 : (34 : UInt8) :: hexL l ++ [34] = jsonL l := rfl
      have m1 : 1 + (hexL l).length ≤ maxLen := by simp only [maxLen]; omega
      have m2 : 1 + (hexL l).length + 1 ≤ maxLen := by simp only [maxLen]; omega
      simp [hlen, hl', h1, e1, e2, e3, e4, e5, e6, e7, e8, s1, s2, t1, t2, t3, hmk, ex2_0, ex2_1, BS.opt_own, pkV, AV.several, hj1, hx, maxLen]
  · have h1' : ¬ ((bl o).length : Int) = 12 := by omega
    by_cases h2 : (2147483647 : Int) < ((bl o).length : Int)
    · simp [hlen, h2]
    · simp [hlen, h2, h1']
end Go.Proofs.YtcipaobalemdoaaDoor.Abs
