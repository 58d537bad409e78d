/- Quoting, whole: the layer below. -/
import Derived.Test.YtpinoabhaaemfaaDoorEQz
import Derived.Test.YtpinoabhaaemfaaDoorEQw2
namespace Go.Proofs.YtpinoabhaaemfaaDoor.Abs
set_option linter.all false
open Go.Proofs
set_option linter.unusedVariables false
set_option linter.unusedSimpArgs false
set_option maxRecDepth 100000
set_option maxHeartbeats 8000000

theorem c_escape (s : List UInt8) (hs : s.length ≤ 300) (hv : validF s.length s = true) (h : H) (hT : Tabs 2 3 h.Γ) : callv fns 16 [.str s] h = some (.str (quoted true s)) := by
  refine callv_of ?_
  refine runs16 (Nat.le_of_ble_eq_true rfl) ?_
  simp
  have hB : BufAt (h.push (bufN 0)) h.n [] := .inl ⟨0, rfl, by rw [H.get_push, if_pos rfl]⟩
  refine gH_use (h0 := h.push (bufN 0)) (show CW fns 17 [.ptr (.obj h.n) 0, .int .u8 34] _ _ from c_WriteByte (c := 34) hB (by simp)) (fun v h' hq => ?_)
  obtain ⟨e1, hB1, hG1⟩ := hq
  simp only at e1 hB1 hG1
  subst e1
  have hT' : Tabs 2 3 h'.Γ := by rw [hG1]; simpa using hT
  simp
  refine l_esc (esc := true) (b := h.n) hs s.length s 0 0 [] _ (Nat.le_refl _) rfl (by omega) (by omega) hv hT' hB1 (by simp; omega) ?_ ?_ ?_ ?_ ?_ _ (fun st' A' start' z1 z2 z3 z4 z5 z6 z7 z8 => ?_)
  · simp
  · simp
  · simp
  · simp
  · simp
  · simp only [List.nil_append, Nat.sub_self, List.take_zero] at z4
    have hA' : A'.length ≤ 10000 := by omega
    obtain ⟨ql1, ql2⟩ := quoted_len (esc := true) hv
    by_cases hlt : start' < s.length
    · have hltI : (start' : Int) < s.length := by omega
      have hsl : slStr (.str s) (some (start' : Int)) (some (s.length : Int)) = some (.str (s.drop start')) := sl_rest rfl (by omega)
      simp [z6, z7, z8, hltI, hsl]
      refine gH_use (c_WriteString z2 (by simp) (by simp; omega) (by simp; omega) (by simp; omega)) (fun v h' hq => ?_)
      obtain ⟨e1, hB1, hG1⟩ := hq
      simp only at e1 hB1 hG1
      subst e1
      rw [List.cons_append, z4] at hB1
      have hql := quoteF_len true s.length s hv
      simp [z6, z7, z8]
      refine gH_use (show CW fns 17 [.ptr (.obj h.n) 0, .int .u8 34] _ _ from c_WriteByte (c := 34) hB1 (by simp only [List.length_cons]; omega)) (fun v h' hq => ?_)
      obtain ⟨e1, hB1, hG1⟩ := hq
      simp only at e1 hB1 hG1
      subst e1
      have hst := c_BufString (l := quoted true s) hB1 ql1 (by omega)
      simp [z7, hst]
    · have hltI : ¬ (start' : Int) < s.length := by omega
      have hdr : s.drop start' = [] := List.drop_eq_nil_of_le (by omega)
      rw [hdr, List.append_nil] at z4
      subst z4
      simp [z6, z7, z8, hltI]
      refine gH_use (show CW fns 17 [.ptr (.obj h.n) 0, .int .u8 34] _ _ from c_WriteByte (c := 34) z2 (by simp only [List.length_cons]; omega)) (fun v h' hq => ?_)
      obtain ⟨e1, hB1, hG1⟩ := hq
      simp only at e1 hB1 hG1
      subst e1
      have hst := c_BufString (l := quoted true s) hB1 ql1 (by omega)
      simp [z7, hst]
theorem c_CoreQuote (s : List UInt8) (hs : s.length ≤ 300) (hv : validF s.length s = true) (h : H) (hT : Tabs 2 3 h.Γ) : callv fns 8 [.str s] h = some (.str (quoted true s)) := by
  have hz : callv fns 13 [.str s] h.mask = some (.str (quoted true s)) := by
    have he := c_escape s hs hv h.mask hT
    refine callv_of ?_
    refine runs13 (Nat.le_of_ble_eq_true rfl) ?_
    simp [he]
  refine callv_of ?_
  refine runs8 (Nat.le_of_ble_eq_true rfl) ?_
  simp [hz]
end Go.Proofs.YtpinoabhaaemfaaDoor.Abs
