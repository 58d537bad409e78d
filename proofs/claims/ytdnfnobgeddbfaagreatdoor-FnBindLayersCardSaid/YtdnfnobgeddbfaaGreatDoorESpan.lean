/- How many bytes a value, or an element, takes by the specification: as the code has it. -/
import Derived.Test.YtdnfnobgeddbfaaGreatDoorENum
import Derived.Test.YtdnfnobgeddbfaaGreatDoorEB4
namespace Go.Proofs.YtdnfnobgeddbfaaGreatDoor.Abs
set_option linter.all false
open Go.Proofs
set_option linter.unusedVariables false
set_option linter.unusedSimpArgs false
set_option maxRecDepth 100000
set_option maxHeartbeats 8000000

theorem l_DocName {o : Option (List UInt8)} (hl : (bl o).length < 2147483648) : ∀ (rest pre : List UInt8) (st : St), bl o = pre ++ rest → st.s 0 = bAV 5 o → st.s 5 = .int .i64 pre.length → ∀ Q : Ex × St → Prop,
    (nul rest = none → ∀ st' : St, st'.h = st.h → Q (.exit 0, st')) →
    (∀ i, nul rest = some i → ∀ st' : St, st'.h = st.h → st'.s 2 = .str ((bl o).take (pre.length + i)) → st'.s 3 = .int .i64 (pre.length + i + 1 : Nat) → st'.s 4 = .bool true → Q (.ret, st')) → LoopR fns lc64_0 st Q
  | [], pre, st, hp, h0, h5, Q, hA, hB => by
    refine loopω_run fns ?_
    have hlen : (bl o).length = pre.length := by rw [hp]; simp
    simp [h0, h5, hlen]
    refine hA rfl _ ?_; simp
  | c :: rest, pre, st, hp, h0, h5, Q, hA, hB => by
    refine loopω_run fns ?_
    have hlen : (bl o).length = pre.length + (rest.length + 1) := by rw [hp]; simp
    have hlt : (pre.length : Int) < pre.length + (rest.length + 1) := by omega
    have hw2 : IntKind.i64.wrap ((pre.length : Int) + 1) = pre.length + 1 := wrap_i64 (by omega) (by omega)
    obtain ⟨l, rfl⟩ : ∃ l, o = some l := by cases o with | none => simp [bl] at hlen | some l => exact ⟨l, rfl⟩
    simp only [bl] at hp hlen hl hB
    have hix : ixV 1 (bAV 5 (some l)) (.int .i64 (pre.length : Int)) = some (.eptr (.int .u8 (c.toNat : Int) :: byteCells rest)) := by
      have hk : pre.length < l.length := by omega
      have := bAV_at (e := 5) hk
      have e1 : l[pre.length] = c := by simp [hp]
      have e2 : l.drop (pre.length + 1) = rest := by rw [hp, ← List.drop_drop]; simp
      rw [e1, e2] at this
      exact this
    by_cases hc : c = 0
    · have hc' : (c.toNat : Int) = 0 := by rw [hc]; rfl
      have hs : ∀ hp' : H, slSl hp' 1 (bAV 5 (some l)) (some 0) (some (pre.length : Int)) = some (bAV 5 (some (l.take pre.length))) := fun hp' => sl_to (by omega)
      have hn : nul (c :: rest) = some 0 := by simp [nul, hc]
      simp [h0, h5, hlen, hlt, hix, hc, hs, hw2, bl]
      refine hB 0 hn _ ?_ ?_ ?_ ?_ <;> simp [bl]
    · have hc2 : ¬ c.toNat = 0 := fun e => hc (UInt8.toNat_inj.1 (by rw [e]; rfl))
      simp [h0, h5, hlen, hlt, hix, hc2, hw2, bl]
      have hn : nul (c :: rest) = (nul rest).map (· + 1) := by simp [nul, hc]
      rw [hn] at hA hB
      refine l_DocName (o := some l) hl rest (pre ++ [c]) _ ?_ ?_ ?_ Q (fun k st' q => hA (by rw [k]; rfl) st' ?_) (fun i k st' q q2 q3 q4 => hB (i + 1) (by rw [k]; rfl) st' ?_ ?_ ?_ q4)
      · simp [bl, hp]
      · simp [h0]
      · simp
      · rw [q]
      · rw [q]
      · rw [q2]; simp only [bl, List.length_append, List.length_singleton]; congr 2; omega
      · rw [q3]; simp; omega
def nmR (l : List UInt8) : List UInt8 × Nat × Bool := match nul l with | some i => (l.take i, i + 1, true) | none => ([], 0, false)
theorem c_DocName (o : Option (List UInt8)) (hl : (bl o).length < 2147483648) : ∀ hE : H, callω fns 64 [bAV 5 o] hE = some (.tup [.str (nmR (bl o)).1, .int .i64 (nmR (bl o)).2.1, .bool (nmR (bl o)).2.2], hE) := by
  intro hE
  refine run64 (Nat.le_of_ble_eq_true rfl) ?_
  simp
  refine l_DocName hl (bl o) [] _ rfl ?_ ?_ _ (fun k st' q => ?_) (fun i k st' q q2 q3 q4 => ?_)
  · simp
  · simp
  · unfold nmR; rw [k]; simp [q]
  · unfold nmR; rw [k]
    simp only [List.length_nil, Nat.zero_add] at q2 q3
    simp [q, q2, q3, q4]

theorem fixed_kinds {k : Int} (hk : (k = 6 ∨ k = 10 ∨ k = 255 ∨ k = 127) ∨ k = 8 ∨ k = 16 ∨ (k = 1 ∨ k = 9 ∨ k = 18 ∨ k = 17) ∨ k = 7 ∨ k = 19) : ∃ n : Nat, (n ≤ 16) ∧ (∀ l, vLen k l = some n) ∧ ∀ (o : Option (List UInt8)), ∀ hE : H,
    callω fns 65 [.int .i64 k, bAV 5 o] hE = some (.tup [.int .i64 n, .bool (decide (n ≤ (bl o).length))], hE) := by
  have hN := c_DocNumber
  rcases hk with (rfl | rfl | rfl | rfl) | rfl | rfl | (rfl | rfl | rfl | rfl) | rfl | rfl
  · refine ⟨0, by omega, fun l => by simp [vLen], fun o hE => run65 (Nat.le_of_ble_eq_true rfl) ?_⟩; simp [hN, ex2_0, ex2_1]
  · refine ⟨0, by omega, fun l => by simp [vLen], fun o hE => run65 (Nat.le_of_ble_eq_true rfl) ?_⟩; simp [hN, ex2_0, ex2_1]
  · refine ⟨0, by omega, fun l => by simp [vLen], fun o hE => run65 (Nat.le_of_ble_eq_true rfl) ?_⟩; simp [hN, ex2_0, ex2_1]
  · refine ⟨0, by omega, fun l => by simp [vLen], fun o hE => run65 (Nat.le_of_ble_eq_true rfl) ?_⟩; simp [hN, ex2_0, ex2_1]
  · refine ⟨1, by omega, fun l => by simp [vLen], fun o hE => run65 (Nat.le_of_ble_eq_true rfl) ?_⟩; simp [hN, ex2_0, ex2_1]; omega
  · refine ⟨4, by omega, fun l => by simp [vLen], fun o hE => run65 (Nat.le_of_ble_eq_true rfl) ?_⟩; simp [hN, ex2_0, ex2_1]
  · refine ⟨8, by omega, fun l => by simp [vLen], fun o hE => run65 (Nat.le_of_ble_eq_true rfl) ?_⟩; simp [hN, ex2_0, ex2_1]; omega
  · refine ⟨8, by omega, fun l => by simp [vLen], fun o hE => run65 (Nat.le_of_ble_eq_true rfl) ?_⟩; simp [hN, ex2_0, ex2_1]; omega
  · refine ⟨8, by omega, fun l => by simp [vLen], fun o hE => run65 (Nat.le_of_ble_eq_true rfl) ?_⟩; simp [hN, ex2_0, ex2_1]; omega
  · refine ⟨8, by omega, fun l => by simp [vLen], fun o hE => run65 (Nat.le_of_ble_eq_true rfl) ?_⟩; simp [hN, ex2_0, ex2_1]; omega
  · refine ⟨12, by omega, fun l => by simp [vLen], fun o hE => run65 (Nat.le_of_ble_eq_true rfl) ?_⟩; simp [hN, ex2_0, ex2_1]; omega
  · refine ⟨16, by omega, fun l => by simp [vLen], fun o hE => run65 (Nat.le_of_ble_eq_true rfl) ?_⟩; simp [hN, ex2_0, ex2_1]; omega
theorem vGetD {k d : Int} {l : List UInt8} (hv : vLen k l = lenD d l) (h0 : 0 ≤ d) (h1 : d ≤ 16) (hl : l.length ≤ 5000) :
    (vGet k l).isSome = (decide (4 ≤ l.length) && (decide (0 ≤ num32 l) && decide (num32 l + d ≤ l.length))) ∧ ∀ n, vGet k l = some n → (n : Int) = num32 l + d := by
  unfold vGet
  rw [hv]
  unfold lenD
  by_cases g1 : 4 ≤ l.length
  · by_cases g2 : 0 ≤ num32 l
    · by_cases g3 : num32 l + d < 2147483648
      · rw [if_pos ⟨g1, g2, g3⟩]
        by_cases g4 : num32 l + d ≤ l.length
        · have g5 : (num32 l + d).toNat ≤ l.length := by omega
          simp only [Option.bind_some, if_pos g5, g1, g2, g4]
          refine ⟨rfl, fun n h => ?_⟩
          injection h with h; omega
        · have g5 : ¬ (num32 l + d).toNat ≤ l.length := by omega
          simp only [Option.bind_some, if_neg g5, g1, g2, g4]
          exact ⟨rfl, fun n h => by cases h⟩
      · have g4 : ¬ num32 l + d ≤ l.length := by omega
        rw [if_neg (fun h => g3 h.2.2)]
        simp [g4]
    · rw [if_neg (fun h => g2 h.2.1)]
      simp [g2]
  · rw [if_neg (fun h => g1 h.1)]
    simp [g1]
theorem c_Len5 (o : Option (List UInt8)) (hl : (bl o).length ≤ 5000) : ∃ m : Int, (∀ n, vGet 5 (bl o) = some n → m = n) ∧ ∀ hE : H, callω fns 65 [.int .i64 5, bAV 5 o] hE = some (.tup [.int .i64 m, .bool (vGet 5 (bl o)).isSome], hE) := by
  have hN := c_DocNumber o
  have hr := num32_range (bl o)
  have hv := vGetD (k := 5) (d := 5) (l := bl o) (by simp [vLen]) (by omega) (by omega) hl
  have w : IntKind.i64.wrap (5 + num32 (bl o)) = num32 (bl o) + 5 := by rw [wrap_i64 (by omega) (by omega)]; omega
  rw [hv.1]
  refine ⟨num32 (bl o) + 5, fun n h => (hv.2 n h).symm, fun hE => run65 (Nat.le_of_ble_eq_true rfl) ?_⟩
  generalize num32 (bl o) = N at *
  by_cases g1 : 4 ≤ (bl o).length
  · by_cases g2 : N < 0
    · have g2' : ¬ 0 ≤ N := by omega
      simp [hN, w, g1, g2, g2', ex2_0, ex2_1]
    · have g2' : 0 ≤ N := by omega
      simp [hN, w, g1, g2, g2', ex2_0, ex2_1]
  · simp [hN, w, g1, ex2_0, ex2_1]
theorem c_Span2 (o : Option (List UInt8)) (hl : (bl o).length ≤ 5000) : ∃ m : Int, (∀ n, vGet 2 (bl o) = some n → m = n) ∧ ∀ hE : H, callω fns 50 [.int .i64 2, bAV 5 o] hE = some (.tup [.int .i64 m, .bool (vGet 2 (bl o)).isSome], hE) := by
  have hN := c_DocNumber o
  have hr := num32_range (bl o)
  have hv := vGetD (k := 2) (d := 4) (l := bl o) (by simp [vLen]) (by omega) (by omega) hl
  have w : IntKind.i64.wrap (4 + num32 (bl o)) = num32 (bl o) + 4 := by rw [wrap_i64 (by omega) (by omega)]; omega
  rw [hv.1]
  refine ⟨num32 (bl o) + 4, fun n h => (hv.2 n h).symm, fun hE => run50 (Nat.le_of_ble_eq_true rfl) ?_⟩
  generalize num32 (bl o) = N at *
  by_cases g1 : 4 ≤ (bl o).length
  · by_cases g2 : N < 0
    · have g2' : ¬ 0 ≤ N := by omega
      simp [hN, w, g1, g2, g2', ex2_0, ex2_1]
    · have g2' : 0 ≤ N := by omega
      simp [hN, w, g1, g2, g2', ex2_0, ex2_1]
  · simp [hN, w, g1, ex2_0, ex2_1]
theorem c_Span13 (o : Option (List UInt8)) (hl : (bl o).length ≤ 5000) : ∃ m : Int, (∀ n, vGet 13 (bl o) = some n → m = n) ∧ ∀ hE : H, callω fns 50 [.int .i64 13, bAV 5 o] hE = some (.tup [.int .i64 m, .bool (vGet 13 (bl o)).isSome], hE) := by
  have hN := c_DocNumber o
  have hr := num32_range (bl o)
  have hv := vGetD (k := 13) (d := 4) (l := bl o) (by simp [vLen]) (by omega) (by omega) hl
  have w : IntKind.i64.wrap (4 + num32 (bl o)) = num32 (bl o) + 4 := by rw [wrap_i64 (by omega) (by omega)]; omega
  rw [hv.1]
  refine ⟨num32 (bl o) + 4, fun n h => (hv.2 n h).symm, fun hE => run50 (Nat.le_of_ble_eq_true rfl) ?_⟩
  generalize num32 (bl o) = N at *
  by_cases g1 : 4 ≤ (bl o).length
  · by_cases g2 : N < 0
    · have g2' : ¬ 0 ≤ N := by omega
      simp [hN, w, g1, g2, g2', ex2_0, ex2_1]
    · have g2' : 0 ≤ N := by omega
      simp [hN, w, g1, g2, g2', ex2_0, ex2_1]
  · simp [hN, w, g1, ex2_0, ex2_1]
theorem c_Span14 (o : Option (List UInt8)) (hl : (bl o).length ≤ 5000) : ∃ m : Int, (∀ n, vGet 14 (bl o) = some n → m = n) ∧ ∀ hE : H, callω fns 50 [.int .i64 14, bAV 5 o] hE = some (.tup [.int .i64 m, .bool (vGet 14 (bl o)).isSome], hE) := by
  have hN := c_DocNumber o
  have hr := num32_range (bl o)
  have hv := vGetD (k := 14) (d := 4) (l := bl o) (by simp [vLen]) (by omega) (by omega) hl
  have w : IntKind.i64.wrap (4 + num32 (bl o)) = num32 (bl o) + 4 := by rw [wrap_i64 (by omega) (by omega)]; omega
  rw [hv.1]
  refine ⟨num32 (bl o) + 4, fun n h => (hv.2 n h).symm, fun hE => run50 (Nat.le_of_ble_eq_true rfl) ?_⟩
  generalize num32 (bl o) = N at *
  by_cases g1 : 4 ≤ (bl o).length
  · by_cases g2 : N < 0
    · have g2' : ¬ 0 ≤ N := by omega
      simp [hN, w, g1, g2, g2', ex2_0, ex2_1]
    · have g2' : 0 ≤ N := by omega
      simp [hN, w, g1, g2, g2', ex2_0, ex2_1]
  · simp [hN, w, g1, ex2_0, ex2_1]
theorem c_Span12 (o : Option (List UInt8)) (hl : (bl o).length ≤ 5000) : ∃ m : Int, (∀ n, vGet 12 (bl o) = some n → m = n) ∧ ∀ hE : H, callω fns 50 [.int .i64 12, bAV 5 o] hE = some (.tup [.int .i64 m, .bool (vGet 12 (bl o)).isSome], hE) := by
  have hN := c_DocNumber o
  have hr := num32_range (bl o)
  have hv := vGetD (k := 12) (d := 16) (l := bl o) (by simp [vLen]) (by omega) (by omega) hl
  have w : IntKind.i64.wrap (16 + num32 (bl o)) = num32 (bl o) + 16 := by rw [wrap_i64 (by omega) (by omega)]; omega
  rw [hv.1]
  refine ⟨num32 (bl o) + 16, fun n h => (hv.2 n h).symm, fun hE => run50 (Nat.le_of_ble_eq_true rfl) ?_⟩
  generalize num32 (bl o) = N at *
  by_cases g1 : 4 ≤ (bl o).length
  · by_cases g2 : N < 0
    · have g2' : ¬ 0 ≤ N := by omega
      simp [hN, w, g1, g2, g2', ex2_0, ex2_1]
    · have g2' : 0 ≤ N := by omega
      simp [hN, w, g1, g2, g2', ex2_0, ex2_1]
  · simp [hN, w, g1, ex2_0, ex2_1]
theorem c_Span3 (o : Option (List UInt8)) (hl : (bl o).length ≤ 5000) : ∃ m : Int, (∀ n, vGet 3 (bl o) = some n → m = n) ∧ ∀ hE : H, callω fns 50 [.int .i64 3, bAV 5 o] hE = some (.tup [.int .i64 m, .bool (vGet 3 (bl o)).isSome], hE) := by
  have hN := c_DocNumber o
  have hv := vGetD (k := 3) (d := 0) (l := bl o) (by simp [vLen]) (by omega) (by omega) hl
  rw [hv.1]
  refine ⟨num32 (bl o), fun n h => by have := hv.2 n h; omega, fun hE => run50 (Nat.le_of_ble_eq_true rfl) ?_⟩
  generalize num32 (bl o) = N at *
  by_cases g1 : 4 ≤ (bl o).length
  · by_cases g2 : N < 0
    · have g2' : ¬ 0 ≤ N := by omega
      simp [hN, g1, g2, g2', ex2_0, ex2_1]
    · have g2' : 0 ≤ N := by omega
      simp [hN, g1, g2, g2', ex2_0, ex2_1]
  · simp [hN, g1, ex2_0, ex2_1]
theorem c_Span4 (o : Option (List UInt8)) (hl : (bl o).length ≤ 5000) : ∃ m : Int, (∀ n, vGet 4 (bl o) = some n → m = n) ∧ ∀ hE : H, callω fns 50 [.int .i64 4, bAV 5 o] hE = some (.tup [.int .i64 m, .bool (vGet 4 (bl o)).isSome], hE) := by
  have hN := c_DocNumber o
  have hv := vGetD (k := 4) (d := 0) (l := bl o) (by simp [vLen]) (by omega) (by omega) hl
  rw [hv.1]
  refine ⟨num32 (bl o), fun n h => by have := hv.2 n h; omega, fun hE => run50 (Nat.le_of_ble_eq_true rfl) ?_⟩
  generalize num32 (bl o) = N at *
  by_cases g1 : 4 ≤ (bl o).length
  · by_cases g2 : N < 0
    · have g2' : ¬ 0 ≤ N := by omega
      simp [hN, g1, g2, g2', ex2_0, ex2_1]
    · have g2' : 0 ≤ N := by omega
      simp [hN, g1, g2, g2', ex2_0, ex2_1]
  · simp [hN, g1, ex2_0, ex2_1]
theorem c_Span15 (o : Option (List UInt8)) (hl : (bl o).length ≤ 5000) : ∃ m : Int, (∀ n, vGet 15 (bl o) = some n → m = n) ∧ ∀ hE : H, callω fns 50 [.int .i64 15, bAV 5 o] hE = some (.tup [.int .i64 m, .bool (vGet 15 (bl o)).isSome], hE) := by
  have hN := c_DocNumber o
  have hv := vGetD (k := 15) (d := 0) (l := bl o) (by simp [vLen]) (by omega) (by omega) hl
  rw [hv.1]
  refine ⟨num32 (bl o), fun n h => by have := hv.2 n h; omega, fun hE => run50 (Nat.le_of_ble_eq_true rfl) ?_⟩
  generalize num32 (bl o) = N at *
  by_cases g1 : 4 ≤ (bl o).length
  · by_cases g2 : N < 0
    · have g2' : ¬ 0 ≤ N := by omega
      simp [hN, g1, g2, g2', ex2_0, ex2_1]
    · have g2' : 0 ≤ N := by omega
      simp [hN, g1, g2, g2', ex2_0, ex2_1]
  · simp [hN, g1, ex2_0, ex2_1]
theorem c_SpanElse {k : Int} (h2 : k ≠ 2) (h13 : k ≠ 13) (h14 : k ≠ 14) (h3 : k ≠ 3) (h4 : k ≠ 4) (h15 : k ≠ 15) (h12 : k ≠ 12) {o : Option (List UInt8)} {m : Int} {b : Bool}
    (h : ∀ hE : H, callω fns 65 [.int .i64 k, bAV 5 o] hE = some (.tup [.int .i64 m, .bool b], hE)) : ∀ hE : H, callω fns 50 [.int .i64 k, bAV 5 o] hE = some (.tup [.int .i64 m, .bool b], hE) := by
  intro hE
  have hN := c_DocNumber o
  refine run50 (Nat.le_of_ble_eq_true rfl) ?_
  simp [hN, h2, h13, h14, h3, h4, h15, h12, h, ex2_0, ex2_1]
theorem c_LenNone {k : Int} (hk : k ≠ 1 ∧ k ≠ 2 ∧ k ≠ 3 ∧ k ≠ 4 ∧ k ≠ 5 ∧ k ≠ 6 ∧ k ≠ 7 ∧ k ≠ 8 ∧ k ≠ 9 ∧ k ≠ 10 ∧ k ≠ 11 ∧ k ≠ 12 ∧ k ≠ 13 ∧ k ≠ 14 ∧ k ≠ 15 ∧ k ≠ 16 ∧ k ≠ 17 ∧ k ≠ 18 ∧ k ≠ 19 ∧ k ≠ 127 ∧ k ≠ 255) (o : Option (List UInt8)) :
    ∀ hE : H, callω fns 65 [.int .i64 k, bAV 5 o] hE = some (.tup [.int .i64 0, .bool false], hE) := by
  intro hE
  have hN := c_DocNumber o
  obtain ⟨a1, a2, a3, a4, a5, a6, a7, a8, a9, a10, a11, a12, a13, a14, a15, a16, a17, a18, a19, a127, a255⟩ := hk
  refine run65 (Nat.le_of_ble_eq_true rfl) ?_
  simp [hN, a1, a2, a3, a4, a5, a6, a7, a8, a9, a10, a11, a12, a13, a14, a15, a16, a17, a18, a19, a127, a255, ex2_0, ex2_1]
theorem sl_nothing {hp : H} {e : Nat} : slSl hp 1 (bAV e none) (some 0) (some 0) = some (bAV e none) := by simp [slSl, bAV]
theorem nmR_le (l : List UInt8) : (nmR l).2.1 ≤ l.length := by
  unfold nmR
  cases h : nul l with
  | none => simp
  | some i => have := (nul_lt h).1; simp only; omega
theorem vGet_rx (l : List UInt8) : vGet 11 l = rxLen l := by
  have e : vLen 11 l = rxLen l := by simp [vLen]
  unfold vGet
  rw [e]
  cases h : rxLen l with
  | none => rfl
  | some n => have := rxLen_le h; simp [this]
theorem c_Len11 (o : Option (List UInt8)) (hl : (bl o).length ≤ 5000) : ∃ m : Int, (∀ n, vGet 11 (bl o) = some n → m = n) ∧ ∀ hE : H, callω fns 65 [.int .i64 11, bAV 5 o] hE = some (.tup [.int .i64 m, .bool (vGet 11 (bl o)).isSome], hE) := by
  have hN := c_DocNumber o
  have h1 := c_DocName o (by omega)
  have hle := nmR_le (bl o)
  cases o with
  | none =>
    have e1 : nmR (bl none) = ([], 0, false) := rfl
    rw [e1] at h1
    simp only at h1
    refine ⟨0, (fun n h => by rw [vGet_rx] at h; cases h), fun hE => run65 (Nat.le_of_ble_eq_true rfl) ?_⟩
    have e2 : vGet 11 (bl none) = none := by rw [vGet_rx]; rfl
    have w : IntKind.i64.wrap 0 = 0 := rfl
    simp [hN, h1, e2, sl_nothing, w, bl, ex2_0, ex2_1, ex3_0, ex3_1, ex3_2]
    exact e2
  | some l =>
    simp only [bl] at h1 hle hl hN
    have hs : ∀ hp : H, slSl hp 1 (bAV 5 (some l)) (some (((nmR l).2.1 : Nat) : Int)) (some (l.length : Int)) = some (bAV 5 (some (l.drop (nmR l).2.1))) := fun hp => sl_from hle
    have h2 := c_DocName (some (l.drop (nmR l).2.1)) (by simp only [bl, List.length_drop]; omega)
    have hle2 := nmR_le (l.drop (nmR l).2.1)
    rw [List.length_drop] at hle2
    simp only [bl] at h2
    have w : IntKind.i64.wrap ((((nmR l).2.1 : Nat) : Int) + (((nmR (l.drop (nmR l).2.1)).2.1 : Nat) : Int)) = (((nmR l).2.1 + (nmR (l.drop (nmR l).2.1)).2.1 : Nat) : Int) := by rw [wrap_i64 (by omega) (by omega)]; omega
    have hv : (vGet 11 l).isSome = ((nmR l).2.2 && (nmR (l.drop (nmR l).2.1)).2.2) ∧ ∀ n, vGet 11 l = some n → n = (nmR l).2.1 + (nmR (l.drop (nmR l).2.1)).2.1 := by
      rw [vGet_rx]
      unfold rxLen nmR
      cases hn : nul l with
      | none => simp
      | some i =>
        simp only [Option.bind_some]
        cases hn2 : nul (l.drop (i + 1)) with
        | none => simp
        | some j => simp only [Option.map_some, Option.isSome_some, Bool.and_self, true_and]; intro n h; injection h with h; omega
    refine ⟨(((nmR l).2.1 + (nmR (l.drop (nmR l).2.1)).2.1 : Nat) : Int), fun n h => by rw [hv.2 n h], fun hE => run65 (Nat.le_of_ble_eq_true rfl) ?_⟩
    simp only [bl]
    rw [hv.1]
    generalize hA : (nmR l).2.2 = A at *
    generalize (nmR (l.drop (nmR l).2.1)).2.2 = B at *
    cases A
    · simp [hN, h1, h2, hs, w, bl, ex2_0, ex2_1, ex3_0, ex3_1, ex3_2]
    · simp [hN, h1, h2, hs, w, bl, ex2_0, ex2_1, ex3_0, ex3_1, ex3_2]
theorem c_DocSpan (k : Int) (h0 : 0 ≤ k) (h1 : k < 256) (o : Option (List UInt8)) (hl : (bl o).length ≤ 5000) : ∃ m : Int, (∀ n, vGet k (bl o) = some n → m = n) ∧ ∀ hE : H, callω fns 50 [.int .i64 k, bAV 5 o] hE = some (.tup [.int .i64 m, .bool (vGet k (bl o)).isSome], hE) := by
  rcases kinds_cases k with ((rfl | rfl | rfl | rfl | rfl | rfl | rfl | rfl) | hk) | rfl | hk
  · exact c_Span3 o hl
  · exact c_Span4 o hl
  · exact c_Span15 o hl
  · obtain ⟨m, q1, q2⟩ := c_Len5 o hl
    exact ⟨m, q1, c_SpanElse (by omega) (by omega) (by omega) (by omega) (by omega) (by omega) (by omega) q2⟩
  · exact c_Span12 o hl
  · exact c_Span13 o hl
  · exact c_Span2 o hl
  · exact c_Span14 o hl
  · obtain ⟨n, q1, q2, q3⟩ := fixed_kinds (k := k) (by omega)
    have hv : (vGet k (bl o)).isSome = decide (n ≤ (bl o).length) ∧ ∀ j, vGet k (bl o) = some j → (n : Int) = j := by
      unfold vGet
      rw [q2]
      by_cases g : n ≤ (bl o).length
      · simp [g]
      · simp [g]
    refine ⟨n, hv.2, ?_⟩
    rw [hv.1]
    exact c_SpanElse (by omega) (by omega) (by omega) (by omega) (by omega) (by omega) (by omega) (q3 o)
  · obtain ⟨m, q1, q2⟩ := c_Len11 o hl
    exact ⟨m, q1, c_SpanElse (by omega) (by omega) (by omega) (by omega) (by omega) (by omega) (by omega) q2⟩
  · have hv : vGet k (bl o) = none := by
      obtain ⟨a1, a2, a3, a4, a5, a6, a7, a8, a9, a10, a11, a12, a13, a14, a15, a16, a17, a18, a19, a127, a255⟩ := hk
      simp [vGet, vLen, a1, a2, a3, a4, a5, a6, a7, a8, a9, a10, a11, a12, a13, a14, a15, a16, a17, a18, a19, a127, a255]
    refine ⟨0, (fun n h => by rw [hv] at h; cases h), ?_⟩
    rw [hv]
    exact c_SpanElse (by omega) (by omega) (by omega) (by omega) (by omega) (by omega) (by omega) (c_LenNone hk o)
end Go.Proofs.YtdnfnobgeddbfaaGreatDoor.Abs
