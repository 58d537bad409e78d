/- Names, and how many bytes a value takes by the specification's stricter word. -/
import Derived.Test.YticoldgiebmmgaaGreatDoorENum
import Derived.Test.YticoldgiebmmgaaGreatDoorEB2
namespace Go.Proofs.YticoldgiebmmgaaGreatDoor.Abs
set_option linter.all false
open Go.Proofs
set_option linter.unusedVariables false
set_option linter.unusedSimpArgs false
set_option maxRecDepth 100000
set_option maxHeartbeats 8000000

theorem l_DocName {o : Option (List UInt8)} (hl : (bl o).length < 2147483648) : ∀ (rest pre : List UInt8) (st : St), bl o = pre ++ rest → st.s 0 = bAV 5 o → st.s 5 = .int .i64 pre.length → ∀ Q : Ex × St → Prop,
    (nul rest = none → ∀ st' : St, st'.h = st.h → Q (.exit 0, st')) →
    (∀ i, nul rest = some i → ∀ st' : St, st'.h = st.h → st'.s 2 = .str ((bl o).take (pre.length + i)) → st'.s 3 = .int .i64 (pre.length + i + 1 : Nat) → st'.s 4 = .bool true → Q (.ret, st')) → LoopR fns lc43_0 st Q
  | [], pre, st, hp, h0, h5, Q, hA, hB => by
    refine loopω_run fns ?_
    have hlen : (bl o).length = pre.length := by rw [hp]; simp
    simp [h0, h5, hlen]
    refine hA rfl _ ?_; simp
  | c :: rest, pre, st, hp, h0, h5, Q, hA, hB => by
    refine loopω_run fns ?_
    have hlen : (bl o).length = pre.length + (rest.length + 1) := by rw [hp]; simp
    have hlt : (pre.length : Int) < pre.length + (rest.length + 1) := by omega
    have hw2 : IntKind.i64.wrap ((pre.length : Int) + 1) = pre.length + 1 := wrap_i64 (by omega) (by omega)
    obtain ⟨l, rfl⟩ : ∃ l, o = some l := by cases o with | none => simp [bl] at hlen | some l => exact ⟨l, rfl⟩
    simp only [bl] at hp hlen hl hB
    have hix : ixV 1 (bAV 5 (some l)) (.int .i64 (pre.length : Int)) = some (.eptr (.int .u8 (c.toNat : Int) :: byteCells rest)) := by
      have hk : pre.length < l.length := by omega
      have := bAV_at (e := 5) hk
      have e1 : l[pre.length] = c := by simp [hp]
      have e2 : l.drop (pre.length + 1) = rest := by rw [hp, ← List.drop_drop]; simp
      rw [e1, e2] at this
      exact this
    by_cases hc : c = 0
    · have hc' : (c.toNat : Int) = 0 := by rw [hc]; rfl
      have hs : ∀ hp' : H, slSl hp' 1 (bAV 5 (some l)) (some 0) (some (pre.length : Int)) = some (bAV 5 (some (l.take pre.length))) := fun hp' => sl_to (by omega)
      have hn : nul (c :: rest) = some 0 := by simp [nul, hc]
      simp [h0, h5, hlen, hlt, hix, hc, hs, hw2, bl]
      refine hB 0 hn _ ?_ ?_ ?_ ?_ <;> simp [bl]
    · have hc2 : ¬ c.toNat = 0 := fun e => hc (UInt8.toNat_inj.1 (by rw [e]; rfl))
      simp [h0, h5, hlen, hlt, hix, hc2, hw2, bl]
      have hn : nul (c :: rest) = (nul rest).map (· + 1) := by simp [nul, hc]
      rw [hn] at hA hB
      refine l_DocName (o := some l) hl rest (pre ++ [c]) _ ?_ ?_ ?_ Q (fun k st' q => hA (by rw [k]; rfl) st' ?_) (fun i k st' q q2 q3 q4 => hB (i + 1) (by rw [k]; rfl) st' ?_ ?_ ?_ q4)
      · simp [bl, hp]
      · simp [h0]
      · simp
      · rw [q]
      · rw [q]
      · rw [q2]; simp only [bl, List.length_append, List.length_singleton]; congr 2; omega
      · rw [q3]; simp; omega
def nmR (l : List UInt8) : List UInt8 × Nat × Bool := match nul l with | some i => (l.take i, i + 1, true) | none => ([], 0, false)
theorem c_DocName (o : Option (List UInt8)) (hl : (bl o).length < 2147483648) : ∀ hE : H, callω fns 43 [bAV 5 o] hE = some (.tup [.str (nmR (bl o)).1, .int .i64 (nmR (bl o)).2.1, .bool (nmR (bl o)).2.2], hE) := by
  intro hE
  refine run43 (Nat.le_of_ble_eq_true rfl) ?_
  simp
  refine l_DocName hl (bl o) [] _ rfl ?_ ?_ _ (fun k st' q => ?_) (fun i k st' q q2 q3 q4 => ?_)
  · simp
  · simp
  · unfold nmR; rw [k]; simp [q]
  · unfold nmR; rw [k]
    simp only [List.length_nil, Nat.zero_add] at q2 q3
    simp [q, q2, q3, q4]

theorem fixed_kinds {k : Int} (hk : (k = 6 ∨ k = 10 ∨ k = 255 ∨ k = 127) ∨ k = 8 ∨ k = 16 ∨ (k = 1 ∨ k = 9 ∨ k = 18 ∨ k = 17) ∨ k = 7 ∨ k = 19) : ∃ n : Nat, (n ≤ 16) ∧ (∀ l, vLen k l = some n) ∧ ∀ (o : Option (List UInt8)), ∀ hE : H,
    callω fns 14 [.int .i64 k, bAV 5 o] hE = some (.tup [.int .i64 n, .bool (decide (n ≤ (bl o).length))], hE) := by
  have hN := c_DocNumber
  rcases hk with (rfl | rfl | rfl | rfl) | rfl | rfl | (rfl | rfl | rfl | rfl) | rfl | rfl
  · refine ⟨0, by omega, fun l => by simp [vLen], fun o hE => run14 (Nat.le_of_ble_eq_true rfl) ?_⟩; simp [hN, ex2_0, ex2_1]
  · refine ⟨0, by omega, fun l => by simp [vLen], fun o hE => run14 (Nat.le_of_ble_eq_true rfl) ?_⟩; simp [hN, ex2_0, ex2_1]
  · refine ⟨0, by omega, fun l => by simp [vLen], fun o hE => run14 (Nat.le_of_ble_eq_true rfl) ?_⟩; simp [hN, ex2_0, ex2_1]
  · refine ⟨0, by omega, fun l => by simp [vLen], fun o hE => run14 (Nat.le_of_ble_eq_true rfl) ?_⟩; simp [hN, ex2_0, ex2_1]
  · refine ⟨1, by omega, fun l => by simp [vLen], fun o hE => run14 (Nat.le_of_ble_eq_true rfl) ?_⟩; simp [hN, ex2_0, ex2_1]; omega
  · refine ⟨4, by omega, fun l => by simp [vLen], fun o hE => run14 (Nat.le_of_ble_eq_true rfl) ?_⟩; simp [hN, ex2_0, ex2_1]
  · refine ⟨8, by omega, fun l => by simp [vLen], fun o hE => run14 (Nat.le_of_ble_eq_true rfl) ?_⟩; simp [hN, ex2_0, ex2_1]; omega
  · refine ⟨8, by omega, fun l => by simp [vLen], fun o hE => run14 (Nat.le_of_ble_eq_true rfl) ?_⟩; simp [hN, ex2_0, ex2_1]; omega
  · refine ⟨8, by omega, fun l => by simp [vLen], fun o hE => run14 (Nat.le_of_ble_eq_true rfl) ?_⟩; simp [hN, ex2_0, ex2_1]; omega
  · refine ⟨8, by omega, fun l => by simp [vLen], fun o hE => run14 (Nat.le_of_ble_eq_true rfl) ?_⟩; simp [hN, ex2_0, ex2_1]; omega
  · refine ⟨12, by omega, fun l => by simp [vLen], fun o hE => run14 (Nat.le_of_ble_eq_true rfl) ?_⟩; simp [hN, ex2_0, ex2_1]; omega
  · refine ⟨16, by omega, fun l => by simp [vLen], fun o hE => run14 (Nat.le_of_ble_eq_true rfl) ?_⟩; simp [hN, ex2_0, ex2_1]; omega
theorem c_LenNone {k : Int} (hk : k ≠ 1 ∧ k ≠ 2 ∧ k ≠ 3 ∧ k ≠ 4 ∧ k ≠ 5 ∧ k ≠ 6 ∧ k ≠ 7 ∧ k ≠ 8 ∧ k ≠ 9 ∧ k ≠ 10 ∧ k ≠ 11 ∧ k ≠ 12 ∧ k ≠ 13 ∧ k ≠ 14 ∧ k ≠ 15 ∧ k ≠ 16 ∧ k ≠ 17 ∧ k ≠ 18 ∧ k ≠ 19 ∧ k ≠ 127 ∧ k ≠ 255) (o : Option (List UInt8)) :
    ∀ hE : H, callω fns 14 [.int .i64 k, bAV 5 o] hE = some (.tup [.int .i64 0, .bool false], hE) := by
  intro hE
  have hN := c_DocNumber o
  obtain ⟨a1, a2, a3, a4, a5, a6, a7, a8, a9, a10, a11, a12, a13, a14, a15, a16, a17, a18, a19, a127, a255⟩ := hk
  refine run14 (Nat.le_of_ble_eq_true rfl) ?_
  simp [hN, a1, a2, a3, a4, a5, a6, a7, a8, a9, a10, a11, a12, a13, a14, a15, a16, a17, a18, a19, a127, a255, ex2_0, ex2_1]
theorem sl_nothing {hp : H} {e : Nat} : slSl hp 1 (bAV e none) (some 0) (some 0) = some (bAV e none) := by simp [slSl, bAV]
theorem nmR_le (l : List UInt8) : (nmR l).2.1 ≤ l.length := by
  unfold nmR
  cases h : nul l with
  | none => simp
  | some i => have := (nul_lt h).1; simp only; omega
theorem vGet_rx (l : List UInt8) : vGet 11 l = rxLen l := by
  have e : vLen 11 l = rxLen l := by simp [vLen]
  unfold vGet
  rw [e]
  cases h : rxLen l with
  | none => rfl
  | some n => have := rxLen_le h; simp [this]
theorem c_Len11 (o : Option (List UInt8)) (hl : (bl o).length ≤ 5000) : ∃ m : Int, (∀ n, vGet 11 (bl o) = some n → m = n) ∧ ∀ hE : H, callω fns 14 [.int .i64 11, bAV 5 o] hE = some (.tup [.int .i64 m, .bool (vGet 11 (bl o)).isSome], hE) := by
  have hN := c_DocNumber o
  have h1 := c_DocName o (by omega)
  have hle := nmR_le (bl o)
  cases o with
  | none =>
    have e1 : nmR (bl none) = ([], 0, false) := rfl
    rw [e1] at h1
    simp only at h1
    refine ⟨0, (fun n h => by rw [vGet_rx] at h; cases h), fun hE => run14 (Nat.le_of_ble_eq_true rfl) ?_⟩
    have e2 : vGet 11 (bl none) = none := by rw [vGet_rx]; rfl
    have w : IntKind.i64.wrap 0 = 0 := rfl
    simp [hN, h1, e2, sl_nothing, w, bl, ex2_0, ex2_1, ex3_0, ex3_1, ex3_2]
    exact e2
  | some l =>
    simp only [bl] at h1 hle hl hN
    have hs : ∀ hp : H, slSl hp 1 (bAV 5 (some l)) (some (((nmR l).2.1 : Nat) : Int)) (some (l.length : Int)) = some (bAV 5 (some (l.drop (nmR l).2.1))) := fun hp => sl_from hle
    have h2 := c_DocName (some (l.drop (nmR l).2.1)) (by simp only [bl, List.length_drop]; omega)
    have hle2 := nmR_le (l.drop (nmR l).2.1)
    rw [List.length_drop] at hle2
    simp only [bl] at h2
    have w : IntKind.i64.wrap ((((nmR l).2.1 : Nat) : Int) + (((nmR (l.drop (nmR l).2.1)).2.1 : Nat) : Int)) = (((nmR l).2.1 + (nmR (l.drop (nmR l).2.1)).2.1 : Nat) : Int) := by rw [wrap_i64 (by omega) (by omega)]; omega
    have hv : (vGet 11 l).isSome = ((nmR l).2.2 && (nmR (l.drop (nmR l).2.1)).2.2) ∧ ∀ n, vGet 11 l = some n → n = (nmR l).2.1 + (nmR (l.drop (nmR l).2.1)).2.1 := by
      rw [vGet_rx]
      unfold rxLen nmR
      cases hn : nul l with
      | none => simp
      | some i =>
        simp only [Option.bind_some]
        cases hn2 : nul (l.drop (i + 1)) with
        | none => simp
        | some j => simp only [Option.map_some, Option.isSome_some, Bool.and_self, true_and]; intro n h; injection h with h; omega
    refine ⟨(((nmR l).2.1 + (nmR (l.drop (nmR l).2.1)).2.1 : Nat) : Int), fun n h => by rw [hv.2 n h], fun hE => run14 (Nat.le_of_ble_eq_true rfl) ?_⟩
    simp only [bl]
    rw [hv.1]
    generalize hA : (nmR l).2.2 = A at *
    generalize (nmR (l.drop (nmR l).2.1)).2.2 = B at *
    cases A
    · simp [hN, h1, h2, hs, w, bl, ex2_0, ex2_1, ex3_0, ex3_1, ex3_2]
    · simp [hN, h1, h2, hs, w, bl, ex2_0, ex2_1, ex3_0, ex3_1, ex3_2]
end Go.Proofs.YticoldgiebmmgaaGreatDoor.Abs
