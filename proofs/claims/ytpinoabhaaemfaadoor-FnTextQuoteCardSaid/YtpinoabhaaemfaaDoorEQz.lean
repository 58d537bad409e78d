/- Quoting, whole: the program's function. -/
import Derived.Test.YtpinoabhaaemfaaDoorEQw
namespace Go.Proofs.YtpinoabhaaemfaaDoor.Abs
set_option linter.all false
open Go.Proofs
set_option linter.unusedVariables false
set_option linter.unusedSimpArgs false
set_option maxRecDepth 100000
set_option maxHeartbeats 8000000

def quoted (esc : Bool) (s : List UInt8) : List UInt8 := [34] ++ quoteF s.length esc s ++ [34]
theorem c_write {s : List UInt8} {esc : Bool} {b : Nat} (hs : s.length ≤ 300) (hv : validF s.length s = true) {h : H} (hT : Tabs 0 1 h.Γ) (hB : BufAt h b []) :
    CW fns 14 [.str s, .ptr (.obj b) 0, .bool esc] h fun q => q.1 = .tup [] ∧ BufAt q.2 b (quoted esc s) := by
  refine runs14 (Nat.le_of_ble_eq_true rfl) ?_
  simp
  refine gH_use (show CW fns 17 [.ptr (.obj b) 0, .int .u8 34] _ _ from c_WriteByte (c := 34) hB (by simp)) (fun v h' hq => ?_)
  obtain ⟨e1, hB1, hG1⟩ := hq
  simp only at e1 hB1 hG1
  subst e1
  simp
  refine l_wr (esc := esc) (b := b) hs s.length s 0 0 [] _ (Nat.le_refl _) rfl (by omega) (by omega) hv (by rw [← hG1] at hT; exact hT) hB1 (by simp; omega) ?_ ?_ ?_ ?_ ?_ _ (fun st' A' start' z1 z2 z3 z4 z5 z6 z7 z8 => ?_)
  · simp
  · simp
  · simp
  · simp
  · simp
  · simp only [List.nil_append, Nat.sub_self, List.take_zero] at z4
    have hA' : A'.length ≤ 10000 := by omega
    by_cases hlt : start' < s.length
    · have hltI : (start' : Int) < s.length := by omega
      have hsl : slStr (.str s) (some (start' : Int)) (some (s.length : Int)) = some (.str (s.drop start')) := sl_rest rfl (by omega)
      simp [z6, z7, z8, hltI, hsl]
      refine gH_use (c_WriteString z2 (by simp) (by simp; omega) (by simp; omega) (by simp; omega)) (fun v h' hq => ?_)
      obtain ⟨e1, hB1, hG1⟩ := hq
      simp only at e1 hB1 hG1
      subst e1
      rw [List.cons_append, z4] at hB1
      have hql := quoteF_len esc s.length s hv
      simp [z6, z7, z8]
      refine gH_use (show CW fns 17 [.ptr (.obj b) 0, .int .u8 34] _ _ from c_WriteByte (c := 34) hB1 (by simp only [List.length_cons]; omega)) (fun v h' hq => ?_)
      obtain ⟨e1, hB1, hG1⟩ := hq
      simp only at e1 hB1 hG1
      subst e1
      simp
      exact hB1
    · have hltI : ¬ (start' : Int) < s.length := by omega
      have hdr : s.drop start' = [] := List.drop_eq_nil_of_le (by omega)
      rw [hdr, List.append_nil] at z4
      subst z4
      simp [z6, z7, z8, hltI]
      refine gH_use (show CW fns 17 [.ptr (.obj b) 0, .int .u8 34] _ _ from c_WriteByte (c := 34) z2 (by simp only [List.length_cons]; omega)) (fun v h' hq => ?_)
      obtain ⟨e1, hB1, hG1⟩ := hq
      simp only at e1 hB1 hG1
      subst e1
      simp
      exact hB1
theorem quoted_len {esc : Bool} {s : List UInt8} (hv : validF s.length s = true) : 1 ≤ (quoted esc s).length ∧ (quoted esc s).length ≤ 6 * s.length + 2 := by
  have := quoteF_len esc s.length s hv
  unfold quoted; simp; omega
theorem callv_of {f : FuncId} {vs : List AV} {h : H} {t : List UInt8} (hc : CW fns f vs h fun q => q.1 = .str t) : callv fns f vs h = some (.str t) :=
  (callv_spec fns).2 (Ev.mono hc fun q hq => by rw [show q = (q.1, q.2) from rfl, hq]; exact noHeap_old rfl)
theorem c_ZzQuote (s : List UInt8) (esc : Bool) (hs : s.length ≤ 300) (hv : validF s.length s = true) (h : H) (hT : Tabs 0 1 h.Γ) : callv fns 10 [.str s, .bool esc] h = some (.str (quoted esc s)) := by
  refine callv_of ?_
  refine runs10 (Nat.le_of_ble_eq_true rfl) ?_
  simp
  have hB : BufAt (h.push (bufN 0)) h.n [] := .inl ⟨0, rfl, by rw [H.get_push, if_pos rfl]⟩
  refine gH_use (c_write (esc := esc) hs hv (h := h.push (bufN 0)) (by simpa using hT) hB) (fun v h' hq => ?_)
  obtain ⟨e1, hB1⟩ := hq
  simp only at e1 hB1
  subst e1
  obtain ⟨q1, q2⟩ := quoted_len (esc := esc) hv
  have hst := c_BufString hB1 q1 (by omega)
  simp [hst]
theorem c_ExtQuote (s : List UInt8) (esc : Bool) (hs : s.length ≤ 300) (hv : validF s.length s = true) (h : H) (hT : Tabs 0 1 h.Γ) : callv fns 6 [.str s, .bool esc] h = some (.str (quoted esc s)) := by
  have hz := c_ZzQuote s esc hs hv h.mask hT
  refine callv_of ?_
  refine runs6 (Nat.le_of_ble_eq_true rfl) ?_
  simp [hz]
end Go.Proofs.YtpinoabhaaemfaaDoor.Abs
