/- Texts in a row that are not too long. -/
import Derived.Test.YtdnfnobgeddbfaaGreatDoorTR7
import Derived.Test.YtdnfnobgeddbfaaGreatDoorFLay
namespace Go.Proofs.YtdnfnobgeddbfaaGreatDoor.Abs
set_option linter.all false
open Go.Proofs
set_option linter.unusedVariables false
set_option linter.unusedSimpArgs false
set_option maxRecDepth 100000
set_option maxHeartbeats 8000000

theorem l_zzFits2 {b : RS} {ps : List (List UInt8)} (hb : b.l = ps.map AV.str) (hps : ps.length ≤ 2147483647) : ∀ (rest pre : List (List UInt8)) (st : St), ps = pre ++ rest → st.s 8 = b.fv 9 1 → st.s 9 = .int .i64 ps.length → st.s 10 = .int .i64 pre.length → ∀ Q : Ex × St → Prop,
    ((∀ x ∈ rest, x.length ≤ 2147483647) → ∀ st' : St, st'.h = st.h → Q (.exit 0, st')) → ((¬ ∀ x ∈ rest, x.length ≤ 2147483647) → ∀ st' : St, st'.h = st.h → st'.s 2 = .bool false → Q (.ret, st')) → LoopR fns lc4_0 st Q
  | [], pre, st, hp, h8, h9, h10, Q, hA, hB => by
    refine loopω_run fns ?_
    have hlen : ps.length = pre.length := by rw [hp]; simp
    simp [h9, h10, hlen]
    refine hA (by simp) _ ?_; simp
  | a :: rest, pre, st, hp, h8, h9, h10, Q, hA, hB => by
    refine loopω_run fns ?_
    have hlen : ps.length = pre.length + (rest.length + 1) := by rw [hp]; simp
    have hlt : (pre.length : Int) < pre.length + (rest.length + 1) := by omega
    have hx := RS.fv_at' (e := 9) (b := b) (k := pre.length) (pre := pre.map AV.str) (r := rest.map AV.str) (x := .str a) (by rw [hb, hp]; simp) (by simp)
    have hw2 : IntKind.i64.wrap ((pre.length : Int) + 1) = pre.length + 1 := wrap_i64 (by omega) (by omega)
    by_cases h : 2147483647 < a.length
    · have h' : (2147483647 : Int) < a.length := by omega
      simp [h8, h9, h10, hlen, hlt, hx, h']
      refine hB (fun k => by have := k a List.mem_cons_self; omega) _ ?_ ?_ <;> simp
    · have h' : ¬ (2147483647 : Int) < a.length := by omega
      simp [h8, h9, h10, hlen, hlt, hx, h', hw2]
      refine l_zzFits2 hb hps rest (pre ++ [a]) _ ?_ ?_ ?_ ?_ Q (fun k st' q => hA (fun x hx => ?_) st' ?_) (fun k st' q q2 => hB (fun k2 => k fun x hx => k2 x (List.mem_cons_of_mem _ hx)) st' ?_ q2)
      · rw [hp]; simp
      · simp [h8]
      · simp [h9, hlen]
      · simp
      · rcases List.mem_cons.1 hx with rfl | hx
        · omega
        · exact k x hx
      · rw [q]
      · rw [q]
theorem c_zzFits2 (b : RS) (ps : List (List UInt8)) (hb : b.l = ps.map AV.str) : ∃ z : Bool, (z = true → ∀ x ∈ ps, x.length ≤ 2147483647) ∧ ∀ hE : H, callω fns 4 [b.fv 9 1] hE = some (.bool z, hE) := by
  have hn : aLen false (b.fv 9 1) = some (.int .i64 ps.length) := by rw [RS.fv_len1, hb, List.length_map]
  by_cases h : 2147483647 < ps.length
  · have h' : (2147483647 : Int) < ps.length := by omega
    refine ⟨false, (fun e => by cases e), fun hE => run4 (Nat.le_of_ble_eq_true rfl) ?_⟩
    simp [hn, h']
  · have h' : ¬ (2147483647 : Int) < ps.length := by omega
    by_cases hx : ∀ x ∈ ps, x.length ≤ 2147483647
    · refine ⟨true, fun _ => hx, fun hE => run4 (Nat.le_of_ble_eq_true rfl) ?_⟩
      simp [hn, h']
      refine l_zzFits2 hb (by omega) ps [] _ rfl ?_ ?_ ?_ _ (fun k st' q => ?_) (fun k st' q q2 => absurd hx k)
      · simp
      · simp
      · simp
      · simp [q]
    · refine ⟨false, (fun e => by cases e), fun hE => run4 (Nat.le_of_ble_eq_true rfl) ?_⟩
      simp [hn, h']
      refine l_zzFits2 hb (by omega) ps [] _ rfl ?_ ?_ ?_ _ (fun k st' q => absurd k hx) (fun k st' q q2 => ?_)
      · simp
      · simp
      · simp
      · simp [q, q2]
end Go.Proofs.YtdnfnobgeddbfaaGreatDoor.Abs
