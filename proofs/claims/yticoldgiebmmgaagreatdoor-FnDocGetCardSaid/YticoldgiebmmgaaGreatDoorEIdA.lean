/- Twelve bytes as an array in memory. -/
import Derived.Test.YticoldgiebmmgaaGreatDoorTR9
namespace Go.Proofs.YticoldgiebmmgaaGreatDoor.Abs
set_option linter.all false
open Go.Proofs
set_option linter.unusedVariables false
set_option linter.unusedSimpArgs false
set_option maxRecDepth 100000
set_option maxHeartbeats 4000000

theorem z12 : ([.int .u8 0, .int .u8 0, .int .u8 0, .int .u8 0, .int .u8 0, .int .u8 0, .int .u8 0, .int .u8 0, .int .u8 0, .int .u8 0, .int .u8 0, .int .u8 0] : List AV) = byteCells (List.replicate 12 0) := rfl
theorem cpRow_arr {st : St} {i n e : Nat} {D l : List UInt8} (hg : st.h.get i = some (.cells (byteCells D))) (hD : D.length = n) (hl : l.length = n) :
    cpRow 1 false (.hsl i 0 e 1 n) (bAV 5 (some l)) st = some (.int .i64 (n : Int), ⟨st.s, st.b, st.h.set i (.cells (byteCells l))⟩) := by
  have h1 : (byteCells D).length = n := by simp [byteCells, hD]
  have h2 : (byteCells l).length = n := by simp [byteCells, hl]
  have h3 : splice (byteCells D) 0 ((byteCells l).take n) = byteCells l := by
    rw [show (byteCells l).take n = byteCells l by rw [← h2, List.take_length]]
    simp [splice, h2, List.drop_of_length_le, h1]
  simp [cpRow, moreV, bAV, hg, h1, h2, h3, -splice]
theorem stO_arr {n : Nat} {D l : List UInt8} (hD : D.length = n) (hl : l.length = n) : stO n 0 (.agg (byteCells l)) (.cells (byteCells D)) = some (.cells (byteCells l)) := by
  have h1 : (byteCells D).length = n := by simp [byteCells, hD]
  have h2 : (byteCells l).length = n := by simp [byteCells, hl]
  have h3 : splice (byteCells D) 0 (byteCells l) = byteCells l := by simp [splice, h2, List.drop_of_length_le, h1]
  simp [stO, AV.plain, AV.cells, h1, h2, h3, -splice]
end Go.Proofs.YticoldgiebmmgaaGreatDoor.Abs
