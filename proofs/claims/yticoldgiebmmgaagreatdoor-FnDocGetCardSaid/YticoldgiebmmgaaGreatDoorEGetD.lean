/- What the specification takes off any bytes, kind by kind: the whole. -/
import Derived.Test.YticoldgiebmmgaaGreatDoorEGetP
namespace Go.Proofs.YticoldgiebmmgaaGreatDoor.Abs
set_option linter.all false
open Go.Proofs
set_option linter.unusedVariables false
set_option linter.unusedSimpArgs false
set_option maxRecDepth 100000
set_option maxHeartbeats 8000000

theorem d_no (k : Int) (o : Option (List UInt8)) {m : Int} (hLen : ∀ hE : H, callω fns 14 [.int .i64 k, bAV 5 o] hE = some (.tup [.int .i64 m, .bool false], hE)) (h34 : k = 3 ∨ k = 4 → ¬ (4 ≤ (bl o).length ∧ num32 (bl o) = 4)) :
    ∀ hE : H, callω fns 8 [.int .i64 k, bAV 5 o] hE = some (.tup [.agg zC8, .int .i64 0, .bool false], hE) := by
  intro hE
  have hN := c_DocNumber o
  by_cases g1 : 4 ≤ (bl o).length
  · by_cases g2 : num32 (bl o) = 4
    · have h3 : ¬ k = 3 := fun e => h34 (.inl e) ⟨g1, g2⟩
      have h4 : ¬ k = 4 := fun e => h34 (.inr e) ⟨g1, g2⟩
      refine run8 (Nat.le_of_ble_eq_true rfl) ?_
      simp [hLen, hN, g1, g2, h3, h4, pkV, zC8, ex2_0, ex2_1]
    · generalize num32 (bl o) = N at *
      refine run8 (Nat.le_of_ble_eq_true rfl) ?_
      simp [hLen, hN, g1, g2, pkV, zC8, ex2_0, ex2_1]
  · generalize num32 (bl o) = N at *
    refine run8 (Nat.le_of_ble_eq_true rfl) ?_
    simp [hLen, hN, g1, pkV, zC8, ex2_0, ex2_1]
theorem d_parse {k : Int} (hk : k ≠ 2 ∧ k ≠ 13 ∧ k ≠ 14 ∧ k ≠ 8 ∧ k ≠ 3 ∧ k ≠ 4 ∧ k ≠ 12 ∧ k ≠ 15) (o : Option (List UInt8)) {m : Int} (hLen : ∀ hE : H, callω fns 14 [.int .i64 k, bAV 5 o] hE = some (.tup [.int .i64 m, .bool true], hE))
    {cs : List AV} {n : Int} {b : Bool} (hc : cs.length = 8) (hgv : cs.map gvV = cs) (hP : ∀ hE : H, callω fns 44 [.int .i64 k, bAV 5 o, .int .i64 200] hE = some (.tup [.agg cs, .int .i64 n, .bool b], hE)) :
    ∀ hE : H, callω fns 8 [.int .i64 k, bAV 5 o] hE = some (.tup [.agg cs, .int .i64 n, .bool b], hE) := by
  obtain ⟨a1, a2, a3, a4, a5, a6, a7, a8⟩ := hk
  have hN := c_DocNumber o
  have hD : ∀ hE : H, callω fns 16 [.int .i64 k, bAV 5 o] hE = some (.tup [.agg cs, .int .i64 n, .bool b], hE) := by
    intro hE
    match cs, hc with
    | [c1, c2, c3, c4, c5, c6, c7, c8], _ =>
    simp only [List.map_cons, List.map_nil, List.cons.injEq, and_true] at hgv
    obtain ⟨w1, w2, w3, w4, w5, w6, w7, w8⟩ := hgv
    refine run16 (Nat.le_of_ble_eq_true rfl) ?_
    simp [hP, w1, w2, w3, w4, w5, w6, w7, w8, ex3_0, ex3_1, ex3_2]
  intro hE
  match cs, hc with
  | [c1, c2, c3, c4, c5, c6, c7, c8], _ =>
  simp only [List.map_cons, List.map_nil, List.cons.injEq, and_true] at hgv
  obtain ⟨w1, w2, w3, w4, w5, w6, w7, w8⟩ := hgv
  by_cases g1 : 4 ≤ (bl o).length
  · by_cases g2 : num32 (bl o) = 4
    · refine run8 (Nat.le_of_ble_eq_true rfl) ?_
      simp [hLen, hN, hD, g1, g2, a1, a2, a3, a4, a5, a6, a7, a8, w1, w2, w3, w4, w5, w6, w7, w8, pkV, ex2_0, ex2_1, ex3_0, ex3_1, ex3_2]
    · generalize num32 (bl o) = N at *
      refine run8 (Nat.le_of_ble_eq_true rfl) ?_
      simp [hLen, hN, hD, g1, g2, a1, a2, a3, a4, a5, a6, a7, a8, w1, w2, w3, w4, w5, w6, w7, w8, pkV, ex2_0, ex2_1, ex3_0, ex3_1, ex3_2]
  · generalize num32 (bl o) = N at *
    refine run8 (Nat.le_of_ble_eq_true rfl) ?_
    simp [hLen, hN, hD, g1, a1, a2, a3, a4, a5, a6, a7, a8, w1, w2, w3, w4, w5, w6, w7, w8, pkV, ex2_0, ex2_1, ex3_0, ex3_1, ex3_2]
theorem d_str {k : Int} (hk : k = 2 ∨ k = 13 ∨ k = 14) (l : List UInt8) (hl : l.length ≤ 5000) (hs : strOk l = true) :
    ∀ hE : H, callω fns 8 [.int .i64 k, bAV 5 (some l)] hE = some (.tup [.agg (tvC k ⟨strT l, [], 0, 0, 0, []⟩ none), .int .i64 (num32 l + 4), .bool true], hE) := by
  intro hE
  have hLen := c_LenStr hk (some l) hl
  have hN := c_DocNumber (some l)
  simp only [bls, hs] at hLen hN
  have hso : 4 ≤ l.length ∧ 1 ≤ num32 l ∧ num32 l + 4 ≤ l.length := by unfold strOk at hs; simpa using hs
  obtain ⟨g1, g2, g3⟩ := hso
  obtain ⟨n, hn⟩ : ∃ n : Nat, num32 l = n := ⟨(num32 l).toNat, by omega⟩
  have w : IntKind.i64.wrap (num32 l + 4 - 1) = num32 l + 3 := by rw [wrap_i64 (by omega) (by omega)]; omega
  have s1 : ∀ hp : H, slSl hp 1 (bAV 5 (some l)) (some 4) (some (num32 l + 3)) = some (bAV 5 (some (strT l))) := fun hp => by
    rw [sl_b (by omega) (by omega) (by omega)]
    unfold strT
    have e4 : ((4 : Int)).toNat = 4 := rfl
    rw [e4, show (num32 l + 3).toNat - 4 = (num32 l).toNat - 1 by omega]
  have hk3 : ¬ k = 3 ∧ ¬ k = 4 := by omega
  generalize strT l = T at *
  generalize num32 l = N at *
  by_cases g4 : N = 4
  · subst g4
    simp only [Int.reduceAdd, Int.reduceSub] at hLen w s1
    rcases hk with rfl | rfl | rfl <;> (refine run8 (Nat.le_of_ble_eq_true rfl) ?_; simp [hLen, hN, g1, w, s1, bls, tvC, bAVn, pkV, ex2_0, ex2_1])
  · rcases hk with rfl | rfl | rfl <;> (refine run8 (Nat.le_of_ble_eq_true rfl) ?_; simp [hLen, hN, g1, g4, w, s1, bls, tvC, pkV, ex2_0, ex2_1]; rfl)
theorem d_bool (c : UInt8) (r : List UInt8) : ∀ hE : H, callω fns 8 [.int .i64 8, bAV 5 (some (c :: r))] hE = some (.tup [.agg (tvC 8 ⟨[], [], if c = 1 then 1 else 0, 0, 0, []⟩ none), .int .i64 1, .bool true], hE) := by
  intro hE
  obtain ⟨n, hn, hv, hLen⟩ := fixed_kinds (k := 8) (.inr (.inl rfl))
  have hn1 : n = 1 := by have := hv []; simp [vLen] at this; omega
  subst hn1
  have hL : ∀ hE : H, callω fns 14 [.int .i64 8, bAV 5 (some (c :: r))] hE = some (.tup [.int .i64 1, .bool true], hE) := fun hE => by
    have h := hLen (some (c :: r)) hE
    have e : decide (1 ≤ (bl (some (c :: r))).length) = true := by simp
    rw [e] at h; exact h
  have hN : ∀ hE : H, callω fns 15 [bAV 5 (some (c :: r))] hE = some (.tup [.int .i64 (num32 (c :: r)), .bool (decide (4 ≤ (c :: r).length))], hE) := c_DocNumber (some (c :: r))
  have hlen : (c :: r).length = r.length + 1 := rfl
  generalize num32 (c :: r) = N at *
  have hc1 : (c.toNat = 1) = (c = 1) := by
    apply propext; constructor
    · intro h; exact UInt8.toNat_inj.1 h
    · intro h; subst h; rfl
  have hgo : ∀ b : Bool, (b = decide (4 ≤ (c :: r).length)) → ∀ hE : H, callω fns 8 [.int .i64 8, bAV 5 (some (c :: r))] hE = some (.tup [.agg (tvC 8 ⟨[], [], if c = 1 then 1 else 0, 0, 0, []⟩ none), .int .i64 1, .bool true], hE) := by
    intro b hb hE
    rw [← hb] at hN
    by_cases hc : c = 1
    · have hc' : c.toNat = 1 := by rw [hc]; rfl
      rw [if_pos hc]
      cases b
      · refine run8 (Nat.le_of_ble_eq_true rfl) ?_
        simp [hL, hN, bls, ix_head, hc', tvC, bAVn, pkV, ex2_0, ex2_1]
        try rfl
      · by_cases g4 : N = 4
        · refine run8 (Nat.le_of_ble_eq_true rfl) ?_
          simp [hL, hN, g4, bls, ix_head, hc', tvC, pkV, ex2_0, ex2_1]
          try rfl
        · refine run8 (Nat.le_of_ble_eq_true rfl) ?_
          simp [hL, hN, g4, bls, ix_head, hc', tvC, pkV, ex2_0, ex2_1]
          try rfl
    · have hc' : ¬ c.toNat = 1 := fun e => hc (UInt8.toNat_inj.1 e)
      have hcI : ¬ (c.toNat : Int) = 1 := by omega
      rw [if_neg hc]
      cases b
      · refine run8 (Nat.le_of_ble_eq_true rfl) ?_
        simp [hL, hN, bls, ix_head, hc', hcI, tvC, pkV, ex2_0, ex2_1]
        try rfl
      · by_cases g4 : N = 4
        · refine run8 (Nat.le_of_ble_eq_true rfl) ?_
          simp [hL, hN, g4, bls, ix_head, hc', hcI, tvC, pkV, ex2_0, ex2_1]
          try rfl
        · refine run8 (Nat.le_of_ble_eq_true rfl) ?_
          simp [hL, hN, g4, bls, ix_head, hc', hcI, tvC, pkV, ex2_0, ex2_1]
          try rfl
  exact hgo _ rfl hE
theorem d_doc {k : Int} (hk : k = 3 ∨ k = 4) (l : List UInt8) (hl : l.length ≤ 5000) (hd : docB l = true) :
    ∀ hE : H, callω fns 8 [.int .i64 k, bAV 5 (some l)] hE = some (.tup [.agg (tvC k ⟨[], [], 0, 0, 0, l.take (num32 l).toNat⟩ (some (l.take (num32 l).toNat))), .int .i64 (num32 l), .bool true], hE) := by
  intro hE
  have hLen := c_LenDoc (k := k) (by omega) (some l) hl
  have hN := c_DocNumber (some l)
  simp only [bls] at hLen hN
  have hdb : 4 ≤ l.length ∧ 4 ≤ num32 l ∧ num32 l ≤ l.length := by unfold docB at hd; simpa using hd
  obtain ⟨g1, g2, g3⟩ := hdb
  obtain ⟨n, hn⟩ : ∃ n : Nat, num32 l = n := ⟨(num32 l).toNat, by omega⟩
  have hdo : docO l = decide (5 ≤ n) := by
    unfold docO; rw [hn] at g2 g3 ⊢
    have h1 : ((n : Int) ≤ l.length) = True := by simp; omega
    have h2 : (5 ≤ (n : Int)) = (5 ≤ n) := by apply propext; omega
    simp only [g1, h1, h2, decide_true, Bool.true_and, Bool.and_true]
  rw [hdo, hn] at hLen
  rw [hn] at hN g2 g3 ⊢
  simp only [Int.toNat_natCast]
  have s1 : ∀ hp : H, slSl hp 1 (bAV 5 (some l)) (some 0) (some (n : Int)) = some (bAV 5 (some (l.take n))) := fun hp => sl_to (by omega)
  have s4 : ∀ hp : H, slSl hp 1 (bAV 5 (some l)) (some 0) (some 4) = some (bAV 5 (some (l.take 4))) := fun hp => sl_to (m := 4) (by omega)
  by_cases g5 : n = 4
  · subst g5
    generalize l.take 4 = LT at *
    rcases hk with rfl | rfl <;> (refine run8 (Nat.le_of_ble_eq_true rfl) ?_; simp [hLen, hN, g1, s4, tvC, pkV, ex2_0, ex2_1])
  · have g6 : 5 ≤ n := by omega
    have g5i : ¬ (n : Int) = 4 := by omega
    generalize l.take n = LT at *
    rcases hk with rfl | rfl <;> (refine run8 (Nat.le_of_ble_eq_true rfl) ?_; simp [hLen, hN, g1, g5, g5i, g6, s1, tvC, pkV, ex2_0, ex2_1])
theorem d_db (l : List UInt8) (hl : l.length ≤ 5000) (hs : dbOk l = true) :
    ∀ hE : H, callω fns 8 [.int .i64 12, bAV 5 (some l)] hE = some (.tup [.agg (tvC 12 ⟨strT l, [], 0, 0, 0, (l.drop (4 + (num32 l).toNat)).take 12⟩ (some ((l.drop (4 + (num32 l).toNat)).take 12))), .int .i64 (num32 l + 16), .bool true], hE) := by
  intro hE
  have hLen := c_LenDB (some l) hl
  have hN := c_DocNumber (some l)
  simp only [bls, hs] at hLen hN
  have hso : (4 ≤ l.length ∧ 1 ≤ num32 l ∧ num32 l + 4 ≤ l.length) ∧ (num32 l).toNat + 16 ≤ l.length := by unfold dbOk strOk at hs; simpa using hs
  obtain ⟨⟨g1, g2, g3⟩, g4⟩ := hso
  obtain ⟨n, hn⟩ : ∃ n : Nat, num32 l = n := ⟨(num32 l).toNat, by omega⟩
  have hT : strT l = (l.drop 4).take (n - 1) := by unfold strT; rw [hn]; rfl
  rw [hn] at hLen hN g2 g3 g4 ⊢
  simp only [Int.toNat_natCast] at g4 ⊢
  have w1 : IntKind.i64.wrap ((n : Int) + 16 - 13) = n + 3 := by rw [wrap_i64 (by omega) (by omega)]; omega
  have w2 : IntKind.i64.wrap ((n : Int) + 16 - 12) = n + 4 := by rw [wrap_i64 (by omega) (by omega)]; omega
  have s1 : ∀ hp : H, slSl hp 1 (bAV 5 (some l)) (some 4) (some ((n : Int) + 3)) = some (bAV 5 (some (strT l))) := fun hp => by
    rw [sl_b (by omega) (by omega) (by omega), hT]
    have e4 : ((4 : Int)).toNat = 4 := rfl
    rw [e4, show ((n : Int) + 3).toNat - 4 = n - 1 by omega]
  have s2 : ∀ hp : H, slSl hp 1 (bAV 5 (some l)) (some ((n : Int) + 4)) (some ((n : Int) + 16)) = some (bAV 5 (some ((l.drop (4 + n)).take 12))) := fun hp => by
    rw [sl_b (by omega) (by omega) (by omega)]
    rw [show ((n : Int) + 4).toNat = 4 + n by omega, show ((n : Int) + 16).toNat - (4 + n) = 12 by omega]
  generalize strT l = T at *
  generalize (l.drop (4 + n)).take 12 = ID at *
  by_cases g5 : n = 4
  · subst g5
    have w7 : IntKind.i64.wrap 7 = 7 := rfl
    have w8 : IntKind.i64.wrap 8 = 8 := rfl
    have s1' : ∀ hp : H, slSl hp 1 (bAV 5 (some l)) (some 4) (some 7) = some (bAV 5 (some T)) := s1
    have s2' : ∀ hp : H, slSl hp 1 (bAV 5 (some l)) (some 8) (some 20) = some (bAV 5 (some ID)) := s2
    refine run8 (Nat.le_of_ble_eq_true rfl) ?_; simp [hLen, hN, g1, w1, w2, w7, w8, s1', s2', s1, s2, bls, tvC, pkV, ex2_0, ex2_1]
  · have g5i : ¬ (n : Int) = 4 := by omega
    refine run8 (Nat.le_of_ble_eq_true rfl) ?_; simp [hLen, hN, g1, g5, g5i, w1, w2, s1, s2, bls, tvC, pkV, ex2_0, ex2_1]
/-! ### Code with a scope -/
def cwS (l : List UInt8) : List UInt8 := (l.drop 4).take ((num32 l).toNat - 4)
def cwD (l : List UInt8) : List UInt8 := (l.drop (8 + (num32 (cwS l)).toNat)).take ((num32 l).toNat - (8 + (num32 (cwS l)).toNat))
def cwOk (l : List UInt8) : Bool := docO l && (strOk (cwS l) && (docO (cwD l) && decide (num32 (cwS l) + 8 + num32 (cwD l) = num32 l)))
theorem d_cw (l : List UInt8) (hl : l.length ≤ 5000) :
    ∀ hE : H, callω fns 8 [.int .i64 15, bAV 5 (some l)] hE = some (if cwOk l = true then .tup [.agg (tvC 15 ⟨strT (cwS l), [], 0, 0, 0, cwD l⟩ (some (cwD l))), .int .i64 (num32 l), .bool true] else .tup [.agg zC8, .int .i64 0, .bool false], hE) := by
  intro hE
  have hLen := c_LenDoc (k := 15) (by omega) (some l) hl
  have hN := c_DocNumber (some l)
  simp only [bls] at hLen hN
  unfold cwOk
  cases hd : docO l with
  | false =>
    rw [hd] at hLen
    simp only [Bool.false_and, Bool.false_eq_true, if_false]
    exact d_no 15 (some l) hLen (by omega) hE
  | true =>
  rw [hd] at hLen
  have hdb : 4 ≤ l.length ∧ 5 ≤ num32 l ∧ num32 l ≤ l.length := by unfold docO at hd; simpa using hd
  obtain ⟨g1, g2, g3⟩ := hdb
  obtain ⟨n, hn⟩ : ∃ n : Nat, num32 l = n := ⟨(num32 l).toNat, by omega⟩
  have hSl : (cwS l).length = n - 4 := by unfold cwS; rw [hn, List.length_take, List.length_drop]; simp only [Int.toNat_natCast]; omega
  have hL2 := c_LenStr (k := 2) (.inl rfl) (some (cwS l)) (by rw [bls, hSl]; omega)
  simp only [bls] at hL2
  have sS : ∀ hp : H, slSl hp 1 (bAV 5 (some l)) (some 4) (some (n : Int)) = some (bAV 5 (some (cwS l))) := fun hp => by
    rw [sl_b (by omega) (by omega) (by omega)]
    unfold cwS; rw [hn]
    have e4 : ((4 : Int)).toNat = 4 := rfl
    rw [e4]
  have wN : IntKind.i64.wrap (n : Int) = n := wrap_i64 (by omega) (by omega)
  have n4 : ¬ ((n : Int) = 4) := by omega
  have n4' : ¬ n = 4 := by omega
  rw [hn] at hLen hN
  cases hs : strOk (cwS l) with
  | false =>
    rw [hs] at hL2
    simp only [Bool.true_and, Bool.false_and, Bool.false_eq_true, if_false]
    generalize num32 (cwS l) = NS at *
    generalize cwS l = S at *
    refine run8 (Nat.le_of_ble_eq_true rfl) ?_
    simp [hLen, hN, g1, n4, n4', sS, hL2, zC8, pkV, ex2_0, ex2_1]
  | true =>
  rw [hs] at hL2
  have hso : 4 ≤ (cwS l).length ∧ 1 ≤ num32 (cwS l) ∧ num32 (cwS l) + 4 ≤ (cwS l).length := by unfold strOk at hs; simpa using hs
  obtain ⟨q1, q2, q3⟩ := hso
  rw [hSl] at q1 q3
  obtain ⟨m, hm⟩ : ∃ m : Nat, num32 (cwS l) = m := ⟨(num32 (cwS l)).toNat, by omega⟩
  have hDl : (cwD l).length = n - (8 + m) := by unfold cwD; rw [hn, hm, List.length_take, List.length_drop]; simp only [Int.toNat_natCast]; omega
  have hL3 := c_LenDoc (k := 3) (.inl rfl) (some (cwD l)) (by rw [bls, hDl]; omega)
  simp only [bls] at hL3
  rw [hm] at hL2
  have wK : IntKind.i64.wrap (4 + ((m : Int) + 4)) = m + 8 := by rw [wrap_i64 (by omega) (by omega)]; omega
  have sD : ∀ hp : H, slSl hp 1 (bAV 5 (some l)) (some ((m : Int) + 8)) (some (n : Int)) = some (bAV 5 (some (cwD l))) := fun hp => by
    rw [sl_b (by omega) (by omega) (by omega)]
    unfold cwD; rw [hn, hm]
    simp only [Int.toNat_natCast]
    rw [show ((m : Int) + 8).toNat = 8 + m by omega]
  have hrD := num32_range (cwD l)
  have wE : IntKind.i64.wrap ((m : Int) + 8 + num32 (cwD l)) = m + 8 + num32 (cwD l) := wrap_i64 (by omega) (by omega)
  have wT : IntKind.i64.wrap ((m : Int) + 8 - 1) = m + 7 := by rw [wrap_i64 (by omega) (by omega)]; omega
  have sT : ∀ hp : H, slSl hp 1 (bAV 5 (some l)) (some 8) (some ((m : Int) + 7)) = some (bAV 5 (some (strT (cwS l)))) := fun hp => by
    rw [sl_b (by omega) (by omega) (by omega)]
    unfold strT; rw [hm]
    unfold cwS; rw [hn]
    have e8 : ((8 : Int)).toNat = 8 := rfl
    simp only [Int.toNat_natCast]
    rw [e8, show ((m : Int) + 7).toNat - 8 = m - 1 by omega, List.drop_take, List.drop_drop, List.take_take]
    congr 4 <;> omega
  rw [hm, hn]
  generalize strT (cwS l) = T at *
  generalize cwS l = S at *
  cases ho : docO (cwD l) with
  | false =>
    rw [ho] at hL3
    simp only [Bool.true_and, Bool.false_and, Bool.false_eq_true, if_false]
    generalize num32 (cwD l) = ND at *
    generalize cwD l = D at *
    refine run8 (Nat.le_of_ble_eq_true rfl) ?_
    simp [hLen, hN, g1, n4, n4', sS, hL2, wK, sD, hL3, zC8, pkV, ex2_0, ex2_1]
  | true =>
    rw [ho] at hL3
    simp only [Bool.true_and]
    generalize num32 (cwD l) = ND at *
    generalize cwD l = D at *
    by_cases he : (m : Int) + 8 + ND = n
    · rw [if_pos (by simpa using he)]
      refine run8 (Nat.le_of_ble_eq_true rfl) ?_
      simp [hLen, hN, g1, n4, n4', sS, hL2, wK, sD, hL3, wE, he, wN, wT, sT, bls, tvC, pkV, ex2_0, ex2_1]
    · rw [if_neg (by simpa using he)]
      refine run8 (Nat.le_of_ble_eq_true rfl) ?_
      simp [hLen, hN, g1, n4, n4', sS, hL2, wK, sD, hL3, wE, he, wN, zC8, pkV, ex2_0, ex2_1]
end Go.Proofs.YticoldgiebmmgaaGreatDoor.Abs
