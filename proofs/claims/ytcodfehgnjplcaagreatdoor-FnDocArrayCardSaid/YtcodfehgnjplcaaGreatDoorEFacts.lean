/- What a right document's bytes say. -/
import Derived.Test.YtcodfehgnjplcaaGreatDoorEB8
import Derived.Test.YtcodfehgnjplcaaGreatDoorTR8
namespace Go.Proofs.YtcodfehgnjplcaaGreatDoor.Abs
set_option linter.all false
open Go.Proofs
set_option linter.unusedVariables false
set_option linter.unusedSimpArgs false
set_option maxRecDepth 100000
set_option maxHeartbeats 8000000

theorem doc_facts {ks : Ks} (hs : ks.sz ≤ 90000) (hg : ks.good) : ks.doc ≠ [] ∧ ks.doc.length < 2147483648 ∧ okL ks.doc = true ∧ dR ks.doc = (ks.elems, true) ∧ docC ks.doc = 0 ∧
    (∀ k, atR ks.doc k = match ks.elems[k]? with | some x => (0, x) | none => (2, [])) := by
  obtain ⟨n1, n2⟩ := doc_num ks (by omega)
  have hlen := Ks.doc_length ks
  have hb := Ks.body_le ks
  simp only [Ks.sz] at hs
  have hok : okL ks.doc = true := by
    unfold okL; rw [n1, hlen]
    simp; omega
  obtain ⟨e1, e2, e3⟩ := elemsR_body ks (ks.doc.length + 1) [0] hg (by simp only [Ks.sz]; omega) (by omega) (by simp)
  have hn : num32 ks.doc - 4 = ((ks.body.length + [(0 : UInt8)].length : Nat) : Int) := by rw [n1]; simp; omega
  have hdR : dR ks.doc = (ks.elems, true) := by unfold dR; rw [hn, n2]; exact e1
  refine ⟨by intro e; rw [e] at hlen; simp at hlen, by omega, hok, hdR, ?_, fun k => ?_⟩
  · unfold docC
    have hlast : ks.doc[(num32 ks.doc - 1).toNat]? = some 0 := by
      rw [n1, show ((ks.body.length : Int) + 5 - 1).toNat = ks.body.length + 4 by omega]
      unfold Ks.doc
      rw [List.getElem?_append_right (by simp [le32_length]), List.getElem?_append_right (by simp [le32_length])]
      simp [le32_length]
    rw [if_neg (by rw [hok]; simp), if_neg (by rw [n1, hlen]; omega), if_neg (by rw [n1]; omega), if_neg (by rw [hlast]; simp), if_neg (by rw [hdR]; simp)]
    rw [hn, n2, e2]
    rfl
  · unfold atR
    rw [if_pos hok, hn, n2]
    exact e3 k
end Go.Proofs.YtcodfehgnjplcaaGreatDoor.Abs
