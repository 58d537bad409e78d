/- Twelve bytes as an identifier. -/
import Derived.Test.YtcodfehgnjplcaaTR6
import Derived.Test.YtcodfehgnjplcaaFFnDocAppendElement
namespace Go.Proofs.Ytcodfehgnjplcaa.Abs
set_option linter.all false
open Go.Proofs
set_option linter.unusedVariables false
set_option linter.unusedSimpArgs false
set_option maxRecDepth 100000
set_option maxHeartbeats 4000000

theorem z12 : ([.int .u8 0, .int .u8 0, .int .u8 0, .int .u8 0, .int .u8 0, .int .u8 0, .int .u8 0, .int .u8 0, .int .u8 0, .int .u8 0, .int .u8 0, .int .u8 0] : List AV) = byteCells (List.replicate 12 0) := rfl
theorem cpRow_arr {st : St} {i n e : Nat} {D l : List UInt8} (hg : st.h.get i = some (.cells (byteCells D))) (hD : D.length = n) (hl : l.length = n) :
    cpRow 1 false (.hsl i 0 e 1 n) (bAV 5 (some l)) st = some (.int .i64 (n : Int), ⟨st.s, st.b, st.h.set i (.cells (byteCells l))⟩) := by
  have h1 : (byteCells D).length = n := by simp [byteCells, hD]
  have h2 : (byteCells l).length = n := by simp [byteCells, hl]
  have h3 : splice (byteCells D) 0 ((byteCells l).take n) = byteCells l := by
    rw [show (byteCells l).take n = byteCells l by rw [← h2, List.take_length]]
    simp [splice, h2, List.drop_of_length_le, h1]
  simp [cpRow, moreV, bAV, hg, h1, h2, h3, -splice]
theorem stO_arr {n : Nat} {D l : List UInt8} (hD : D.length = n) (hl : l.length = n) : stO n 0 (.agg (byteCells l)) (.cells (byteCells D)) = some (.cells (byteCells l)) := by
  have h1 : (byteCells D).length = n := by simp [byteCells, hD]
  have h2 : (byteCells l).length = n := by simp [byteCells, hl]
  have h3 : splice (byteCells D) 0 (byteCells l) = byteCells l := by simp [splice, h2, List.drop_of_length_le, h1]
  simp [stO, AV.plain, AV.cells, h1, h2, h3, -splice]
section
variable {l : List UInt8}
theorem c_id (hl : l.length = 12) : ∀ hE : H, callv fns 41 [bAV 5 (some l)] hE = some (.agg (byteCells l)) := by
  intro hE
  refine runv41 (Nat.le_of_ble_eq_true rfl) ?_
  have hcp : ∀ (s : Nat → AV) (b : Nat → Option Obj), cpRow 1 false (.hsl hE.n 0 5 1 12) (bAV 5 (some l)) ⟨s, b, hE.push (.cells (byteCells (List.replicate 12 0)))⟩ = some (.int .i64 12, ⟨s, b, (hE.push (.cells (byteCells (List.replicate 12 0)))).set hE.n (.cells (byteCells l))⟩) := fun s b =>
    cpRow_arr (st := ⟨s, b, _⟩) (D := List.replicate 12 0) (H.get_push_n _ _) (by simp) hl
  have hld := ldO_arr (m := .take) hl
  have hst := stO_arr (D := l) (l := l) hl hl
  rw [← z12] at hcp
  simp [hcp, hld, hst, -ldO_ct, -stO_c, -splice, noHeap_old]
end
end Go.Proofs.Ytcodfehgnjplcaa.Abs
