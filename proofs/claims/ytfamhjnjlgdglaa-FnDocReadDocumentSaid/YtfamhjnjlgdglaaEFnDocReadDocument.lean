/- What the law's function FnDocReadDocument computes. -/
import Derived.Test.YtfamhjnjlgdglaaEDoc6
namespace Go.Proofs.Ytfamhjnjlgdglaa.Abs
set_option linter.all false
open Go.Proofs
set_option linter.unusedVariables false
set_option linter.unusedSimpArgs false
set_option maxRecDepth 100000
set_option maxHeartbeats 8000000

theorem law_FnDocReadDocument (ks : Ks) (kn : Bool) (o : Option (List UInt8)) (hl : ks.len ≤ reachBytes) (hW : ks.wf) :
    callω fns 5 [Ks.av 5 64 ks kn, bAV 5 o] = some (.bool true) := by
  refine run5 (Nat.le_of_ble_eq_true rfl) ?_
  by_cases a1 : 2147483647 < (ks.len : Int)
  · simp [a1]
  by_cases a2 : 2147483647 < ((bl o).length : Int)
  · simp [a1, a2]
  by_cases a3 : 1000 < ((bl o).length : Int)
  · simp [a1, a2, a3]
  have hF := c_docFineKids ks kn hl hW
  cases hf : (ks.tr kn).fine
  · rw [hf] at hF; simp [a1, a2, a3, hF]
  rw [hf] at hF
  have hsz := fine_sz hW hf
  have hB := c_DocBytes_of kn (l_DocBytes ks) hl hW (by omega)
  have hbl := Ks.body_le ks
  have hdl := Ks.doc_length ks
  have hks : ks.sz = ks.nb + 18 * ks.nodes := rfl
  -- the document's bytes, and what follows them
  have hC := c_docCopy (BS.mk ks.doc).opt (by simp; omega)
  simp only [BS.bl_opt, BS.l_mk] at hC
  have hA : apV 5 1 1 false ((BS.own true ks.doc).av 5) (bAV 5 o) = some ((BS.own true (ks.doc ++ bl o)).av 5) := by
    have := apV_b (e := 5) (o := o) (b := BS.own true ks.doc) (by simp [BS.l, tooLong]; omega)
    exact this
  have hcons : ks.doc ++ bl o = byteOf (ks.body.length + 5) :: byteOf ((ks.body.length + 5) / 256) :: byteOf ((ks.body.length + 5) / 65536) :: byteOf ((ks.body.length + 5) / 16777216) :: (ks.body ++ [0] ++ bl o) := by
    simp [Ks.doc, le32]
  have hrd := rd32_le32 (n := (ks.body.length : Int) + 5) (by omega) (by omega)
  have hnat : ((ks.body.length : Int) + 5).toNat = ks.doc.length := by omega
  have hD := c_implReadDocument hcons (by rw [hrd]; omega) (by rw [hrd, List.length_append]; omega) (by rw [List.length_append]; omega)
  have hR := c_implReadArray hcons (by rw [hrd]; omega) (by rw [hrd, List.length_append]; omega) (by rw [List.length_append]; omega)
  rw [hrd, hnat, List.take_left, List.drop_left] at hD hR
  have hop : (BS.own true (ks.doc ++ bl o)).opt = some (ks.doc ++ bl o) := rfl
  simp [a1, a2, a3, hF, hB, hC, hA, hop, hD, hR, exV]
end Go.Proofs.Ytfamhjnjlgdglaa.Abs
