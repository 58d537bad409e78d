/- The first character of a text, as the specification tells it. -/
import Derived.Test.YtpinoabhaaemfaaDoorTQ1
import Derived.Test.YtpinoabhaaemfaaDoorA30
import Derived.Test.YtpinoabhaaemfaaDoorFTQ
namespace Go.Proofs.YtpinoabhaaemfaaDoor.Abs
set_option linter.all false
open Go.Proofs
set_option linter.unusedVariables false
set_option linter.unusedSimpArgs false
set_option maxRecDepth 100000
set_option maxHeartbeats 4000000

theorem or6 (a b : Nat) (ha : a < 2 ^ 50) (hb : b < 64) : orI .i64 ((a : Int) * 64) (b : Int) = a * 64 + b := by
  show IntKind.i64.wrap ((BitVec.ofInt 64 ((a : Int) * 64) ||| BitVec.ofInt 64 (b : Int)).toNat : Int) = _
  have e1 : (a : Int) * (64 : Int) = Int.ofNat (a <<< 6) := by rw [Nat.shiftLeft_eq]; simp
  have e1 : (a : Int) * (64 : Int) = ((a <<< 6 : Nat) : Int) := e1
  rw [e1]
  simp only [BitVec.ofInt_natCast]
  have h2 : a <<< 6 < 2 ^ 64 := by rw [Nat.shiftLeft_eq]; omega
  rw [BitVec.toNat_or, BitVec.toNat_ofNat, BitVec.toNat_ofNat, Nat.mod_eq_of_lt h2, Nat.mod_eq_of_lt (by omega), ← Nat.shiftLeft_add_eq_or_of_lt hb]
  rw [wrap_i64 (by omega) (by rw [Nat.shiftLeft_eq]; omega), Nat.shiftLeft_eq]
  omega
theorem and31 (b : UInt8) : andI .i64 (b.toNat : Int) 31 = ((b.toNat % 32 : Nat) : Int) := by
  have : ∀ x : Fin 256, andI .i64 ((x.val : Nat) : Int) 31 = ((x.val % 32 : Nat) : Int) := by decide +kernel
  exact this ⟨b.toNat, UInt8.toNat_lt b⟩
theorem and15 (b : UInt8) : andI .i64 (b.toNat : Int) 15 = ((b.toNat % 16 : Nat) : Int) := by
  have : ∀ x : Fin 256, andI .i64 ((x.val : Nat) : Int) 15 = ((x.val % 16 : Nat) : Int) := by decide +kernel
  exact this ⟨b.toNat, UInt8.toNat_lt b⟩
theorem and7 (b : UInt8) : andI .i64 (b.toNat : Int) 7 = ((b.toNat % 8 : Nat) : Int) := by
  have : ∀ x : Fin 256, andI .i64 ((x.val : Nat) : Int) 7 = ((x.val % 8 : Nat) : Int) := by decide +kernel
  exact this ⟨b.toNat, UInt8.toNat_lt b⟩
theorem and63 (b : UInt8) : andI .u8 (b.toNat : Int) 63 = ((b.toNat % 64 : Nat) : Int) := by
  have : ∀ x : Fin 256, andI .u8 ((x.val : Nat) : Int) 63 = ((x.val % 64 : Nat) : Int) := by decide +kernel
  exact this ⟨b.toNat, UInt8.toNat_lt b⟩
theorem shr6 (b : UInt8) : (b.toNat : Int).fdiv 64 = ((b.toNat / 64 : Nat) : Int) := by
  rw [Int.fdiv_eq_ediv_of_nonneg _ (by omega)]; rfl

theorem kw2 : IntKind.i64.wrap 2 = 2 := rfl
theorem kw3 : IntKind.i64.wrap 3 = 3 := rfl
theorem kw4 : IntKind.i64.wrap 4 = 4 := rfl
theorem ru_1 (b : UInt8) (r : List UInt8) (h : b.toNat < 128) : ∀ hE : H, callω fns 11 [.str (b :: r)] hE = some (.tup [.int .i64 1, .int .i64 (b.toNat : Int)], hE) := by
  intro hE
  have h1 : (b.toNat : Int) < 128 := by omega
  have w : IntKind.i64.wrap (b.toNat : Int) = b.toNat := wrap_i64 (by omega) (by omega)
  refine run11 (Nat.le_of_ble_eq_true rfl) ?_
  simp [h1, w]
theorem ru_nil : ∀ hE : H, callω fns 11 [.str []] hE = some (.tup [.int .i64 0, .int .i64 0], hE) := by
  intro hE
  refine run11 (Nat.le_of_ble_eq_true rfl) ?_
  simp
theorem ru_bad (b : UInt8) (r : List UInt8) (h0 : 128 ≤ b.toNat) (h : b.toNat < 194 ∨ 245 ≤ b.toNat) : ∀ hE : H, callω fns 11 [.str (b :: r)] hE = some (.tup [.int .i64 0, .int .i64 0], hE) := by
  intro hE
  have w : IntKind.i64.wrap (b.toNat : Int) = b.toNat := by have := UInt8.toNat_lt b; exact wrap_i64 (by omega) (by omega)
  have h1 : ¬ (b.toNat : Int) < 128 := by omega
  rcases h with h | h
  · have h2 : ¬ (194 : Int) ≤ b.toNat := by omega
    have h3 : ¬ (224 : Int) ≤ b.toNat := by omega
    have h4 : ¬ (240 : Int) ≤ b.toNat := by omega
    refine run11 (Nat.le_of_ble_eq_true rfl) ?_
    simp [h1, h2, h3, h4, w, pkV]
  · have h2 : (194 : Int) ≤ b.toNat := by omega
    have h3 : (224 : Int) ≤ b.toNat := by omega
    have h4 : (240 : Int) ≤ b.toNat := by omega
    have h5 : ¬ (b.toNat : Int) < 224 := by omega
    have h6 : ¬ (b.toNat : Int) < 240 := by omega
    have h7 : ¬ (b.toNat : Int) < 245 := by omega
    refine run11 (Nat.le_of_ble_eq_true rfl) ?_
    simp [h1, h2, h3, h4, h5, h6, h7, w, pkV]
theorem ru_2 (b0 b1 : UInt8) (r : List UInt8) (h0 : 194 ≤ b0.toNat) (h1 : b0.toNat < 224) :
    ∀ hE : H, callω fns 11 [.str (b0 :: b1 :: r)] hE = some (if b1.toNat / 64 = 2 then .tup [.int .i64 2, .int .i64 ((b0.toNat % 32 * 64 + b1.toNat % 64 : Nat) : Int)] else .tup [.int .i64 0, .int .i64 0], hE) := by
  intro hE
  have w : IntKind.i64.wrap (b0.toNat : Int) = b0.toNat := wrap_i64 (by omega) (by omega)
  have c1 : ¬ (b0.toNat : Int) < 128 := by omega
  have c2 : (194 : Int) ≤ b0.toNat := by omega
  have c3 : (b0.toNat : Int) < 224 := by omega
  have c4 : ¬ ((r.length : Int) + 1 + 1 < 2) := by omega
  have a1 := and31 b0
  have a2 := and63 b1
  have a3 := shr6 b1
  have o1 := or6 (b0.toNat % 32) (b1.toNat % 64) (by omega) (by omega)
  have w1 : IntKind.i64.wrap ((b0.toNat : Int) % 32 * 64) = (b0.toNat : Int) % 32 * 64 := wrap_i64 (by omega) (by omega)
  have w2 : IntKind.i64.wrap ((b1.toNat : Int) % 64) = (b1.toNat : Int) % 64 := wrap_i64 (by omega) (by omega)
  simp only [Int.natCast_emod, Int.cast_ofNat_Int] at a1 a2 a3 o1
  have lo : (128 : Int) ≤ (b0.toNat : Int) % 32 * 64 + (b1.toNat : Int) % 64 := by omega
  have hi : (b0.toNat : Int) % 32 * 64 + (b1.toNat : Int) % 64 < 2048 := by omega
  generalize hv : (b0.toNat : Int) % 32 * 64 + (b1.toNat : Int) % 64 = v at *
  have d1 : ¬ v < 128 := by omega
  have d2 : ¬ 1114111 < v := by omega
  have d3 : ¬ 55296 ≤ v := by omega
  by_cases q : b1.toNat / 64 = 2
  · have q' : (b1.toNat : Int) / 64 = 2 := by omega
    refine run11 (Nat.le_of_ble_eq_true rfl) ?_
    simp [c1, c2, c3, c4, w, pkV, a1]
    refine loopω_run fns ?_
    simp [a2, a3, aShift, IntKind.bits, o1, q, q', w1, w2]
    refine loopω_run fns ?_
    simp [kw2, d1, d2, d3, pkV, hv]
  · have q' : ¬ (b1.toNat : Int) / 64 = 2 := by omega
    refine run11 (Nat.le_of_ble_eq_true rfl) ?_
    simp [c1, c2, c3, c4, w, pkV, a1]
    refine loopω_run fns ?_
    simp [a2, a3, aShift, IntKind.bits, o1, q, q', w1, w2]
theorem ru_3 (b0 b1 b2 : UInt8) (r : List UInt8) (h0 : 224 ≤ b0.toNat) (h1 : b0.toNat < 240) :
    ∀ hE : H, callω fns 11 [.str (b0 :: b1 :: b2 :: r)] hE = some (if b1.toNat / 64 = 2 ∧ b2.toNat / 64 = 2 ∧ (2048 ≤ b0.toNat % 16 * 4096 + b1.toNat % 64 * 64 + b2.toNat % 64 ∧ (b0.toNat % 16 * 4096 + b1.toNat % 64 * 64 + b2.toNat % 64 < 55296 ∨ 57344 ≤ b0.toNat % 16 * 4096 + b1.toNat % 64 * 64 + b2.toNat % 64))
      then .tup [.int .i64 3, .int .i64 ((b0.toNat % 16 * 4096 + b1.toNat % 64 * 64 + b2.toNat % 64 : Nat) : Int)] else .tup [.int .i64 0, .int .i64 0], hE) := by
  intro hE
  have w : IntKind.i64.wrap (b0.toNat : Int) = b0.toNat := wrap_i64 (by omega) (by omega)
  have c1 : ¬ (b0.toNat : Int) < 128 := by omega
  have c2 : (194 : Int) ≤ b0.toNat := by omega
  have c3 : ¬ (b0.toNat : Int) < 224 := by omega
  have c5 : (224 : Int) ≤ b0.toNat := by omega
  have c6 : (b0.toNat : Int) < 240 := by omega
  have c4 : ¬ ((r.length : Int) + 1 + 1 + 1 < 3) := by omega
  have a1 := and15 b0
  have a2 := and63 b1
  have a3 := shr6 b1
  have a4 := and63 b2
  have a5 := shr6 b2
  have o1 := or6 (b0.toNat % 16) (b1.toNat % 64) (by omega) (by omega)
  have o2 := or6 (b0.toNat % 16 * 64 + b1.toNat % 64) (b2.toNat % 64) (by omega) (by omega)
  simp only [Int.natCast_emod, Int.cast_ofNat_Int, Int.natCast_add, Int.natCast_mul, Int.natCast_ediv] at a1 a2 a3 a4 a5 o1 o2
  obtain ⟨v, hv⟩ : ∃ v : Nat, b0.toNat % 16 * 4096 + b1.toNat % 64 * 64 + b2.toNat % 64 = v := ⟨_, rfl⟩
  rw [hv]
  obtain ⟨u, hu⟩ : ∃ u : Nat, b0.toNat % 16 * 64 + b1.toNat % 64 = u := ⟨_, rfl⟩
  have hu' : (b0.toNat : Int) % 16 * 64 + (b1.toNat : Int) % 64 = u := by omega
  have hv' : (u : Int) * 64 + (b2.toNat : Int) % 64 = v := by omega
  rw [hu', hv'] at o2
  rw [hu'] at o1
  have w1 : IntKind.i64.wrap ((b0.toNat : Int) % 16 * 64) = (b0.toNat : Int) % 16 * 64 := wrap_i64 (by omega) (by omega)
  have w2 : IntKind.i64.wrap ((b1.toNat : Int) % 64) = (b1.toNat : Int) % 64 := wrap_i64 (by omega) (by omega)
  have w3 : IntKind.i64.wrap ((u : Int) * 64) = (u : Int) * 64 := wrap_i64 (by omega) (by omega)
  have w4 : IntKind.i64.wrap ((b2.toNat : Int) % 64) = (b2.toNat : Int) % 64 := wrap_i64 (by omega) (by omega)
  have d2 : ¬ (1114111 : Int) < v := by omega
  by_cases q : b1.toNat / 64 = 2
  · have q' : (b1.toNat : Int) / 64 = 2 := by omega
    by_cases p : b2.toNat / 64 = 2
    · have p' : (b2.toNat : Int) / 64 = 2 := by omega
      refine run11 (Nat.le_of_ble_eq_true rfl) ?_
      simp [c1, c2, c3, c4, c5, c6, w, pkV, a1]
      refine loopω_run fns ?_
      simp [a2, a3, aShift, IntKind.bits, o1, q, q', w1, w2]
      refine loopω_run fns ?_
      simp [kw2, a4, a5, aShift, IntKind.bits, o2, p, p', w3, w4]
      refine loopω_run fns ?_
      by_cases e1 : 2048 ≤ v
      · have e1' : ¬ (v : Int) < 2048 := by omega
        by_cases e2 : v < 55296
        · have e2' : ¬ (55296 : Int) ≤ v := by omega
          simp [kw3, pkV, d2, e1, e1', e2, e2']
        · have e2' : (55296 : Int) ≤ v := by omega
          by_cases e3 : 57344 ≤ v
          · have e3' : ¬ (v : Int) < 57344 := by omega
            simp [kw3, pkV, d2, e1, e1', e2, e2', e3, e3']
          · have e3' : (v : Int) < 57344 := by omega
            simp [kw3, pkV, d2, e1, e1', e2, e2', e3, e3']
      · have e1' : (v : Int) < 2048 := by omega
        simp [kw3, pkV, d2, e1, e1']
    · have p' : ¬ (b2.toNat : Int) / 64 = 2 := by omega
      refine run11 (Nat.le_of_ble_eq_true rfl) ?_
      simp [c1, c2, c3, c4, c5, c6, w, pkV, a1]
      refine loopω_run fns ?_
      simp [a2, a3, aShift, IntKind.bits, o1, q, q', w1, w2]
      refine loopω_run fns ?_
      simp [kw2, a4, a5, aShift, IntKind.bits, o2, p, p', w3, w4]
  · have q' : ¬ (b1.toNat : Int) / 64 = 2 := by omega
    refine run11 (Nat.le_of_ble_eq_true rfl) ?_
    simp [c1, c2, c3, c4, c5, c6, w, pkV, a1]
    refine loopω_run fns ?_
    simp [a2, a3, aShift, IntKind.bits, o1, q, q', w1, w2]
theorem ru_4 (b0 b1 b2 b3 : UInt8) (r : List UInt8) (h0 : 240 ≤ b0.toNat) (h1 : b0.toNat < 245) :
    ∀ hE : H, callω fns 11 [.str (b0 :: b1 :: b2 :: b3 :: r)] hE = some (if b1.toNat / 64 = 2 ∧ b2.toNat / 64 = 2 ∧ b3.toNat / 64 = 2 ∧ (65536 ≤ b0.toNat % 8 * 262144 + b1.toNat % 64 * 4096 + b2.toNat % 64 * 64 + b3.toNat % 64 ∧ b0.toNat % 8 * 262144 + b1.toNat % 64 * 4096 + b2.toNat % 64 * 64 + b3.toNat % 64 ≤ 1114111)
      then .tup [.int .i64 4, .int .i64 ((b0.toNat % 8 * 262144 + b1.toNat % 64 * 4096 + b2.toNat % 64 * 64 + b3.toNat % 64 : Nat) : Int)] else .tup [.int .i64 0, .int .i64 0], hE) := by
  intro hE
  have w : IntKind.i64.wrap (b0.toNat : Int) = b0.toNat := wrap_i64 (by omega) (by omega)
  have c1 : ¬ (b0.toNat : Int) < 128 := by omega
  have c2 : (194 : Int) ≤ b0.toNat := by omega
  have c3 : ¬ (b0.toNat : Int) < 224 := by omega
  have c5 : (224 : Int) ≤ b0.toNat := by omega
  have c6 : ¬ (b0.toNat : Int) < 240 := by omega
  have c7 : (240 : Int) ≤ b0.toNat := by omega
  have c8 : (b0.toNat : Int) < 245 := by omega
  have c4 : ¬ ((r.length : Int) + 1 + 1 + 1 + 1 < 4) := by omega
  have a1 := and7 b0
  have a2 := and63 b1
  have a3 := shr6 b1
  have a4 := and63 b2
  have a5 := shr6 b2
  have a6 := and63 b3
  have a7 := shr6 b3
  have o1 := or6 (b0.toNat % 8) (b1.toNat % 64) (by omega) (by omega)
  have o2 := or6 (b0.toNat % 8 * 64 + b1.toNat % 64) (b2.toNat % 64) (by omega) (by omega)
  have o3 := or6 (b0.toNat % 8 * 4096 + b1.toNat % 64 * 64 + b2.toNat % 64) (b3.toNat % 64) (by omega) (by omega)
  simp only [Int.natCast_emod, Int.cast_ofNat_Int, Int.natCast_add, Int.natCast_mul, Int.natCast_ediv] at a1 a2 a3 a4 a5 a6 a7 o1 o2 o3
  obtain ⟨v, hv⟩ : ∃ v : Nat, b0.toNat % 8 * 262144 + b1.toNat % 64 * 4096 + b2.toNat % 64 * 64 + b3.toNat % 64 = v := ⟨_, rfl⟩
  rw [hv]
  obtain ⟨u, hu⟩ : ∃ u : Nat, b0.toNat % 8 * 64 + b1.toNat % 64 = u := ⟨_, rfl⟩
  obtain ⟨t, ht⟩ : ∃ t : Nat, b0.toNat % 8 * 4096 + b1.toNat % 64 * 64 + b2.toNat % 64 = t := ⟨_, rfl⟩
  have hu' : (b0.toNat : Int) % 8 * 64 + (b1.toNat : Int) % 64 = u := by omega
  have ht0 : (b0.toNat : Int) % 8 * 4096 + (b1.toNat : Int) % 64 * 64 + (b2.toNat : Int) % 64 = t := by omega
  have ht' : (u : Int) * 64 + (b2.toNat : Int) % 64 = t := by omega
  have hv' : (t : Int) * 64 + (b3.toNat : Int) % 64 = v := by omega
  rw [ht0, hv'] at o3
  rw [hu', ht'] at o2
  rw [hu'] at o1
  have w1 : IntKind.i64.wrap ((b0.toNat : Int) % 8 * 64) = (b0.toNat : Int) % 8 * 64 := wrap_i64 (by omega) (by omega)
  have w2 : IntKind.i64.wrap ((b1.toNat : Int) % 64) = (b1.toNat : Int) % 64 := wrap_i64 (by omega) (by omega)
  have w3 : IntKind.i64.wrap ((u : Int) * 64) = (u : Int) * 64 := wrap_i64 (by omega) (by omega)
  have w4 : IntKind.i64.wrap ((b2.toNat : Int) % 64) = (b2.toNat : Int) % 64 := wrap_i64 (by omega) (by omega)
  have w5 : IntKind.i64.wrap ((t : Int) * 64) = (t : Int) * 64 := wrap_i64 (by omega) (by omega)
  have w6 : IntKind.i64.wrap ((b3.toNat : Int) % 64) = (b3.toNat : Int) % 64 := wrap_i64 (by omega) (by omega)
  by_cases q : b1.toNat / 64 = 2
  · have q' : (b1.toNat : Int) / 64 = 2 := by omega
    by_cases p : b2.toNat / 64 = 2
    · have p' : (b2.toNat : Int) / 64 = 2 := by omega
      by_cases g : b3.toNat / 64 = 2
      · have g' : (b3.toNat : Int) / 64 = 2 := by omega
        refine run11 (Nat.le_of_ble_eq_true rfl) ?_
        simp [c1, c2, c3, c4, c5, c6, c7, c8, w, pkV, a1]
        refine loopω_run fns ?_
        simp [a2, a3, aShift, IntKind.bits, o1, q, q', w1, w2]
        refine loopω_run fns ?_
        simp [kw2, a4, a5, aShift, IntKind.bits, o2, p, p', w3, w4]
        refine loopω_run fns ?_
        simp [kw3, a6, a7, aShift, IntKind.bits, o3, g, g', w5, w6]
        refine loopω_run fns ?_
        by_cases e1 : 65536 ≤ v
        · have e1' : ¬ (v : Int) < 65536 := by omega
          by_cases e2 : v ≤ 1114111
          · have e2' : ¬ (1114111 : Int) < v := by omega
            have e3' : (55296 : Int) ≤ v := by omega
            have e4' : ¬ (v : Int) < 57344 := by omega
            simp [kw4, pkV, e1, e1', e2, e2', e3', e4']
          · have e2' : (1114111 : Int) < v := by omega
            simp [kw4, pkV, e1, e1', e2, e2']
        · have e1' : (v : Int) < 65536 := by omega
          simp [kw4, pkV, e1, e1']
      · have g' : ¬ (b3.toNat : Int) / 64 = 2 := by omega
        refine run11 (Nat.le_of_ble_eq_true rfl) ?_
        simp [c1, c2, c3, c4, c5, c6, c7, c8, w, pkV, a1]
        refine loopω_run fns ?_
        simp [a2, a3, aShift, IntKind.bits, o1, q, q', w1, w2]
        refine loopω_run fns ?_
        simp [kw2, a4, a5, aShift, IntKind.bits, o2, p, p', w3, w4]
        refine loopω_run fns ?_
        simp [kw3, a6, a7, aShift, IntKind.bits, o3, g, g', w5, w6]
    · have p' : ¬ (b2.toNat : Int) / 64 = 2 := by omega
      refine run11 (Nat.le_of_ble_eq_true rfl) ?_
      simp [c1, c2, c3, c4, c5, c6, c7, c8, w, pkV, a1]
      refine loopω_run fns ?_
      simp [a2, a3, aShift, IntKind.bits, o1, q, q', w1, w2]
      refine loopω_run fns ?_
      simp [kw2, a4, a5, aShift, IntKind.bits, o2, p, p', w3, w4]
  · have q' : ¬ (b1.toNat : Int) / 64 = 2 := by omega
    refine run11 (Nat.le_of_ble_eq_true rfl) ?_
    simp [c1, c2, c3, c4, c5, c6, c7, c8, w, pkV, a1]
    refine loopω_run fns ?_
    simp [a2, a3, aShift, IntKind.bits, o1, q, q', w1, w2]
theorem ru_short (b : UInt8) (r : List UInt8) (h0 : 194 ≤ b.toNat) (hb : b.toNat < 245) (h : (b.toNat < 224 ∧ r = []) ∨ (224 ≤ b.toNat ∧ b.toNat < 240 ∧ r.length < 2) ∨ (240 ≤ b.toNat ∧ r.length < 3)) :
    ∀ hE : H, callω fns 11 [.str (b :: r)] hE = some (.tup [.int .i64 0, .int .i64 0], hE) := by
  intro hE
  have w : IntKind.i64.wrap (b.toNat : Int) = b.toNat := wrap_i64 (by omega) (by omega)
  have h1 : ¬ (b.toNat : Int) < 128 := by omega
  have h2 : (194 : Int) ≤ b.toNat := by omega
  rcases h with ⟨h, rfl⟩ | ⟨h, h3, h4⟩ | ⟨h, h4⟩
  · have c3 : (b.toNat : Int) < 224 := by omega
    refine run11 (Nat.le_of_ble_eq_true rfl) ?_
    simp [h1, h2, c3, w, pkV]
  · have c3 : ¬ (b.toNat : Int) < 224 := by omega
    have c5 : (224 : Int) ≤ b.toNat := by omega
    have c6 : (b.toNat : Int) < 240 := by omega
    have c7 : (r.length : Int) + 1 < 3 := by omega
    refine run11 (Nat.le_of_ble_eq_true rfl) ?_
    simp [h1, h2, c3, c5, c6, c7, w, pkV]
  · have c3 : ¬ (b.toNat : Int) < 224 := by omega
    have c5 : (224 : Int) ≤ b.toNat := by omega
    have c6 : ¬ (b.toNat : Int) < 240 := by omega
    have c7 : (r.length : Int) + 1 < 4 := by omega
    have c8 : (240 : Int) ≤ b.toNat := by omega
    have c9 : (b.toNat : Int) < 245 := by omega
    refine run11 (Nat.le_of_ble_eq_true rfl) ?_
    simp [h1, h2, c3, c5, c6, c7, c8, c9, w, pkV]
theorem c_extRune : ∀ (l : List UInt8) (hE : H), callω fns 11 [.str l] hE = some (.tup [.int .i64 ((exr l).1 : Int), .int .i64 ((exr l).2 : Int)], hE)
  | [], hE => ru_nil hE
  | b :: r, hE => by
    have hb := UInt8.toNat_lt b
    by_cases h1 : b.toNat < 128
    · rw [exr_1 b r h1]; exact ru_1 b r h1 hE
    by_cases h2 : b.toNat < 194 ∨ 245 ≤ b.toNat
    · rw [exr_bad b r (by omega) h2]; exact ru_bad b r (by omega) h2 hE
    by_cases h3 : (b.toNat < 224 ∧ r = []) ∨ (224 ≤ b.toNat ∧ b.toNat < 240 ∧ r.length < 2) ∨ (240 ≤ b.toNat ∧ r.length < 3)
    · rw [exr_short b r (by omega) h3]; exact ru_short b r (by omega) (by omega) h3 hE
    by_cases h4 : b.toNat < 224
    · match r with
      | [] => exact absurd (.inl ⟨h4, rfl⟩) h3
      | b1 :: r => rw [exr_2 b b1 r (by omega) h4, ru_2 b b1 r (by omega) h4 hE]; split <;> rfl
    by_cases h5 : b.toNat < 240
    · match r with
      | [] => exact absurd (.inr (.inl ⟨by omega, h5, by simp⟩)) h3
      | [b1] => exact absurd (.inr (.inl ⟨by omega, h5, by simp⟩)) h3
      | b1 :: b2 :: r => rw [exr_3 b b1 b2 r (by omega) h5, ru_3 b b1 b2 r (by omega) h5 hE]; split <;> rfl
    · match r with
      | [] => exact absurd (.inr (.inr ⟨by omega, by simp⟩)) h3
      | [b1] => exact absurd (.inr (.inr ⟨by omega, by simp⟩)) h3
      | [b1, b2] => exact absurd (.inr (.inr ⟨by omega, by simp⟩)) h3
      | b1 :: b2 :: b3 :: r => rw [exr_4 b b1 b2 b3 r (by omega) (by omega), ru_4 b b1 b2 b3 r (by omega) (by omega) hE]; split <;> rfl
end Go.Proofs.YtpinoabhaaemfaaDoor.Abs
