/- Values read from any bytes by the code, kind by kind: texts up to a byte 0, identifiers, binaries, documents. -/
import Derived.Test.YticoldgiebmmgaaGreatDoorEGetR
import Derived.Test.YticoldgiebmmgaaGreatDoorEIdA
namespace Go.Proofs.YticoldgiebmmgaaGreatDoor.Abs
set_option linter.all false
open Go.Proofs
set_option linter.unusedVariables false
set_option linter.unusedSimpArgs false
set_option maxRecDepth 100000
set_option maxHeartbeats 8000000

theorem c_ReadCStr (l : List UInt8) (hl : l.length ≤ 5000) : ∀ hE : H, callω fns 79 [bAV 5 (some l)] hE = some (match nul l with | some i => .tup [.str (l.take i), bAV 5 (some (l.drop (i + 1))), .bool true] | none => .tup [.str [], bAV 5 (some l), .bool false], hE) := by
  have hI := c_IndexNul (some l)
  simp only [bls] at hI
  cases hn : nul l with
  | none =>
    rw [hn] at hI
    have hB : ∀ hE : H, callω fns 123 [bAV 5 (some l)] hE = some (.tup [.slice .nil 0 1 [], bAV 5 (some l), .bool false], hE) := by
      intro hE
      refine run123 (Nat.le_of_ble_eq_true rfl) ?_
      simp [hI]
    intro hE
    refine run79 (Nat.le_of_ble_eq_true rfl) ?_
    simp [hB, ex3_0, ex3_1, ex3_2]
  | some i =>
    rw [hn] at hI
    have hi := (nul_lt hn).1
    have g : ¬ ((i : Int) < 0) := by omega
    have w : IntKind.i64.wrap ((i : Int) + 1) = i + 1 := wrap_i64 (by omega) (by omega)
    have s1 : ∀ hp : H, slSl hp 1 (bAV 5 (some l)) (some 0) (some (i : Int)) = some (bAV 5 (some (l.take i))) := fun hp => sl_to (by omega)
    have s2 : ∀ hp : H, slSl hp 1 (bAV 5 (some l)) (some ((i : Int) + 1)) (some (l.length : Int)) = some (bAV 5 (some (l.drop (i + 1)))) := fun hp => by
      have := sl_from (hp := hp) (e := 5) (l := l) (m := i + 1) (by omega); simpa using this
    have hB : ∀ hE : H, callω fns 123 [bAV 5 (some l)] hE = some (.tup [bAV 5 (some (l.take i)), bAV 5 (some (l.drop (i + 1))), .bool true], hE) := by
      intro hE
      refine run123 (Nat.le_of_ble_eq_true rfl) ?_
      simp [hI, g, w, s1, s2, bls]
    intro hE
    refine run79 (Nat.le_of_ble_eq_true rfl) ?_
    simp [hB, bls, ex3_0, ex3_1, ex3_2]
def rxP (l : List UInt8) : Option (List UInt8 × List UInt8 × Nat) := (nul l).bind fun i => (nul (l.drop (i + 1))).map fun j => (l.take i, (l.drop (i + 1)).take j, i + 1 + (j + 1))
theorem c_ReadRx (l : List UInt8) (hl : l.length ≤ 5000) : ∃ R, ∀ hE : H, callω fns 53 [bAV 5 (some l)] hE = some (match rxP l with | some (p, q, _) => .tup [.str p, .str q, bAV 5 (some R), .bool true] | none => .tup [.str [], .str [], bAV 5 (some R), .bool false], hE) := by
  have h := c_ReadCStr l hl
  unfold rxP
  cases hn : nul l with
  | none =>
    rw [hn] at h
    refine ⟨l, fun hE => run53 (Nat.le_of_ble_eq_true rfl) ?_⟩
    simp [h, ex3_0, ex3_1, ex3_2]
  | some i =>
    rw [hn] at h
    have h2 := c_ReadCStr (l.drop (i + 1)) (by rw [List.length_drop]; omega)
    cases hm : nul (l.drop (i + 1)) with
    | none =>
      rw [hm] at h2
      refine ⟨l, fun hE => run53 (Nat.le_of_ble_eq_true rfl) ?_⟩
      simp [h, h2, hm, ex3_0, ex3_1, ex3_2]
    | some j =>
      rw [hm] at h2
      refine ⟨(l.drop (i + 1)).drop (j + 1), fun hE => run53 (Nat.le_of_ble_eq_true rfl) ?_⟩
      simp only [Option.bind_some, hm, Option.map_some]
      simp only at h h2
      generalize (l.drop (i + 1)).drop (j + 1) = R at *
      generalize (l.drop (i + 1)).take j = R2 at *
      simp [h, h2, ex3_0, ex3_1, ex3_2]
theorem c_ReadBool (l : List UInt8) : ∀ hE : H, callω fns 51 [bAV 5 (some l)] hE = some (match l with | [] => .tup [.bool false, bAV 5 (some []), .bool false] | c :: r => .tup [.bool (decide (c = 1)), bAV 5 (some r), .bool true], hE) := by
  intro hE
  cases l with
  | nil =>
    refine run51 (Nat.le_of_ble_eq_true rfl) ?_
    simp [bls]
  | cons c r =>
    have g : ¬ ((r.length : Int) + 1 < 1) := by omega
    have e3 : ((c.toNat : Int) = 1) = (c = 1) := propext ⟨fun h => UInt8.toNat_inj.1 (by have h1 : (1 : UInt8).toNat = 1 := rfl; omega), fun h => by subst h; rfl⟩
    refine run51 (Nat.le_of_ble_eq_true rfl) ?_
    simp [bls, g, ix_head, sl_tail, e3]
theorem c_ReadOID (l : List UInt8) : ∀ hE : H, callv fns 50 [bAV 5 (some l)] hE = some (if 12 ≤ l.length then .tup [.agg (byteCells (l.take 12)), bAV 5 (some (l.drop 12)), .bool true] else .tup [.agg (byteCells (List.replicate 12 0)), bAV 5 (some l), .bool false]) := by
  intro hE
  by_cases g : 12 ≤ l.length
  · rw [if_pos g]
    have g' : ¬ ((l.length : Int) < 12) := by omega
    have hlen : (l.take 12).length = 12 := by rw [List.length_take]; omega
    have s1 : ∀ hp : H, slSl hp 1 (bAV 5 (some l)) (some 0) (some 12) = some (bAV 5 (some (l.take 12))) := fun hp => sl_to (m := 12) g
    have s2 : ∀ hp : H, slSl hp 1 (bAV 5 (some l)) (some 12) (some (l.length : Int)) = some (bAV 5 (some (l.drop 12))) := fun hp => sl_from (m := 12) g
    have hcp : ∀ (s : Nat → AV) (b : Nat → Option Obj), cpRow 1 false (.hsl hE.n 0 5 1 12) (bAV 5 (some (l.take 12))) ⟨s, b, hE.push (.cells (byteCells (List.replicate 12 0)))⟩ = some (.int .i64 12, ⟨s, b, (hE.push (.cells (byteCells (List.replicate 12 0)))).set hE.n (.cells (byteCells (l.take 12)))⟩) := fun s b =>
      cpRow_arr (st := ⟨s, b, _⟩) (D := List.replicate 12 0) (H.get_push_n _ _) (by simp) hlen
    have hld := ldO_arr (m := .take) hlen
    have hst := stO_arr (D := List.replicate 12 0) (l := l.take 12) (by simp) hlen
    rw [← z12] at hcp hst
    generalize l.take 12 = L at *
    refine runv50 (Nat.le_of_ble_eq_true rfl) ?_
    simp [bls, g', s1, s2, hcp, hld, hst, -ldO_ct, -stO_c, -splice, noHeap_old]
  · rw [if_neg g]
    have g' : ((l.length : Int) < 12) := by omega
    rw [← z12]
    refine runv50 (Nat.le_of_ble_eq_true rfl) ?_
    simp [bls, g']
def docB (l : List UInt8) : Bool := decide (4 ≤ l.length) && (decide (4 ≤ num32 l) && decide (num32 l ≤ l.length))
theorem c_rlbA (l : List UInt8) (hl : l.length ≤ 5000) : ∀ hE : H, callω fns 76 [bAV 5 (some l)] hE = some (if docB l then .tup [bAV 5 (some (l.take (num32 l).toNat)), bAV 5 (some (l.drop (num32 l).toNat)), .bool true] else .tup [bAV 5 none, bAV 5 (some l), .bool false], hE) := by
  intro hE
  have hR := c_RLen (some l)
  simp only [bls] at hR
  have hr := num32_range l
  have e0 : AV.slice .nil 0 1 [] = bAV 5 none := rfl
  unfold docB
  by_cases hk : okL l = true
  case neg =>
    simp only [Bool.not_eq_true] at hk
    rw [hk] at hR
    have hno : ¬ (4 ≤ l.length ∧ 0 ≤ num32 l) := by intro h; unfold okL at hk; simp [h.1, h.2] at hk
    have hf : (decide (4 ≤ l.length) && (decide (4 ≤ num32 l) && decide (num32 l ≤ l.length))) = false := by
      by_cases g1 : 4 ≤ l.length
      · have : ¬ 4 ≤ num32 l := by omega
        simp [this]
      · simp [g1]
    rw [hf]
    generalize rest4 (some l) = R4 at *
    refine run76 (Nat.le_of_ble_eq_true rfl) ?_
    simp [hR, e0, ex3_0, ex3_1, ex3_2]
  case pos =>
    obtain ⟨h4, h0⟩ := okL_le hk
    rw [hk, rest4_some h4] at hR
    have w64 : IntKind.i64.wrap (num32 l) = num32 l := wrap_i64 (by omega) (by omega)
    by_cases g1 : num32 l < 4
    · have hf : (decide (4 ≤ l.length) && (decide (4 ≤ num32 l) && decide (num32 l ≤ l.length))) = false := by
        have : ¬ 4 ≤ num32 l := by omega
        simp [this]
      rw [hf]
      generalize num32 l = N at *
      refine run76 (Nat.le_of_ble_eq_true rfl) ?_
      simp [hR, g1, e0, ex3_0, ex3_1, ex3_2]
    · by_cases g2 : (l.length : Int) < num32 l
      · have hf : (decide (4 ≤ l.length) && (decide (4 ≤ num32 l) && decide (num32 l ≤ l.length))) = false := by
          have : ¬ num32 l ≤ l.length := by omega
          simp [this]
        rw [hf]
        generalize num32 l = N at *
        refine run76 (Nat.le_of_ble_eq_true rfl) ?_
        simp [hR, g1, g2, w64, bls, e0, ex3_0, ex3_1, ex3_2]
      · have hf : (decide (4 ≤ l.length) && (decide (4 ≤ num32 l) && decide (num32 l ≤ l.length))) = true := by
          have h1 : 4 ≤ num32 l := by omega
          have h2 : num32 l ≤ l.length := by omega
          simp [h4, h1, h2]
        rw [hf]
        obtain ⟨n, hn⟩ : ∃ n : Nat, num32 l = n := ⟨(num32 l).toNat, by omega⟩
        rw [hn] at hR w64 g1 g2 ⊢
        have s1 : ∀ hp : H, slSl hp 1 (bAV 5 (some l)) (some 0) (some (n : Int)) = some (bAV 5 (some (l.take n))) := fun hp => sl_to (by omega)
        have s2 : ∀ hp : H, slSl hp 1 (bAV 5 (some l)) (some (n : Int)) (some (l.length : Int)) = some (bAV 5 (some (l.drop n))) := fun hp => sl_from (by omega)
        simp only [Int.toNat_natCast]
        generalize l.take n = LT at *
        generalize l.drop n = LR at *
        refine run76 (Nat.le_of_ble_eq_true rfl) ?_
        simp [hR, g1, g2, w64, bls, s1, s2, ex3_0, ex3_1, ex3_2]
theorem c_RDoc (l : List UInt8) (hl : l.length ≤ 5000) : ∀ hE : H, callω fns 47 [bAV 5 (some l)] hE = some (if docB l then .tup [bAV 5 (some (l.take (num32 l).toNat)), bAV 5 (some (l.drop (num32 l).toNat)), .bool true] else .tup [bAV 5 none, bAV 5 (some l), .bool false], hE) := by
  intro hE
  have h := c_rlbA l hl
  generalize l.take (num32 l).toNat = LT at *
  generalize l.drop (num32 l).toNat = LR at *
  cases hd : docB l with
  | true =>
    rw [hd] at h; simp only [if_true] at h ⊢
    refine run47 (Nat.le_of_ble_eq_true rfl) ?_
    simp [h, ex3_0, ex3_1, ex3_2]
  | false =>
    rw [hd] at h; simp only [Bool.false_eq_true, if_false] at h ⊢
    refine run47 (Nat.le_of_ble_eq_true rfl) ?_
    simp [h, ex3_0, ex3_1, ex3_2]
theorem c_RArr (l : List UInt8) (hl : l.length ≤ 5000) : ∀ hE : H, callω fns 48 [bAV 5 (some l)] hE = some (if docB l then .tup [bAV 5 (some (l.take (num32 l).toNat)), bAV 5 (some (l.drop (num32 l).toNat)), .bool true] else .tup [bAV 5 none, bAV 5 (some l), .bool false], hE) := by
  intro hE
  have h := c_rlbA l hl
  generalize l.take (num32 l).toNat = LT at *
  generalize l.drop (num32 l).toNat = LR at *
  cases hd : docB l with
  | true =>
    rw [hd] at h; simp only [if_true] at h ⊢
    refine run48 (Nat.le_of_ble_eq_true rfl) ?_
    simp [h, ex3_0, ex3_1, ex3_2]
  | false =>
    rw [hd] at h; simp only [Bool.false_eq_true, if_false] at h ⊢
    refine run48 (Nat.le_of_ble_eq_true rfl) ?_
    simp [h, ex3_0, ex3_1, ex3_2]
end Go.Proofs.YticoldgiebmmgaaGreatDoor.Abs
