/- Numbers read from bytes: by the code, and by the specification. -/
import Derived.Test.YticoldgiebmmgaaGreatDoorENum
import Derived.Test.YticoldgiebmmgaaGreatDoorTR11
import Derived.Test.YticoldgiebmmgaaGreatDoorERd64
namespace Go.Proofs.YticoldgiebmmgaaGreatDoor.Abs
set_option linter.all false
open Go.Proofs
set_option linter.unusedVariables false
set_option linter.unusedSimpArgs false
set_option maxRecDepth 100000
set_option maxHeartbeats 8000000

theorem eight {l : List UInt8} (h : 8 ≤ l.length) : ∃ a b c d e f g i r, l = a :: b :: c :: d :: e :: f :: g :: i :: r := by
  match l, h with
  | a :: b :: c :: d :: e :: f :: g :: i :: r, _ => exact ⟨a, b, c, d, e, f, g, i, r, rfl⟩
theorem c_LEU64 (a b c d e f g h : UInt8) (r : List UInt8) : ∀ hE : H, callω fns 122 [.agg [], bAV 5 (some (a :: b :: c :: d :: e :: f :: g :: h :: r))] hE = some (.int .u64 (leN [a, b, c, d, e, f, g, h]), hE) := by
  intro hE
  refine run122 (Nat.le_of_ble_eq_true rfl) ?_
  have ha := a.toNat_lt; have hb := b.toNat_lt; have hc := c.toNat_lt; have hd := d.toNat_lt
  have he := e.toNat_lt; have hf := f.toNat_lt; have hg := g.toNat_lt; have hh := h.toNat_lt
  have g2 : (0 : Int) < (r.length : Int) + 1 + 1 + 1 + 1 + 1 + 1 + 1 + 1 := by omega
  have g3 : (1 : Int) < (r.length : Int) + 1 + 1 + 1 + 1 + 1 + 1 + 1 + 1 := by omega
  have g4 : (2 : Int) < (r.length : Int) + 1 + 1 + 1 + 1 + 1 + 1 + 1 + 1 := by omega
  have g5 : (3 : Int) < (r.length : Int) + 1 + 1 + 1 + 1 + 1 + 1 + 1 + 1 := by omega
  have g6 : (4 : Int) < (r.length : Int) + 1 + 1 + 1 + 1 + 1 + 1 + 1 + 1 := by omega
  have g7 : (5 : Int) < (r.length : Int) + 1 + 1 + 1 + 1 + 1 + 1 + 1 + 1 := by omega
  have g8 : (6 : Int) < (r.length : Int) + 1 + 1 + 1 + 1 + 1 + 1 + 1 + 1 := by omega
  have g9 : (7 : Int) < (r.length : Int) + 1 + 1 + 1 + 1 + 1 + 1 + 1 + 1 := by omega
  have o1 := or_u64 a.toNat b.toNat 8 (by omega) hb (by omega)
  have o2 := or_u64 (a.toNat + b.toNat * 2 ^ 8) c.toNat 16 (by omega) hc (by omega)
  have o3 := or_u64 (a.toNat + b.toNat * 2 ^ 8 + c.toNat * 2 ^ 16) d.toNat 24 (by omega) hd (by omega)
  have o4 := or_u64 (a.toNat + b.toNat * 2 ^ 8 + c.toNat * 2 ^ 16 + d.toNat * 2 ^ 24) e.toNat 32 (by omega) he (by omega)
  have o5 := or_u64 (a.toNat + b.toNat * 2 ^ 8 + c.toNat * 2 ^ 16 + d.toNat * 2 ^ 24 + e.toNat * 2 ^ 32) f.toNat 40 (by omega) hf (by omega)
  have o6 := or_u64 (a.toNat + b.toNat * 2 ^ 8 + c.toNat * 2 ^ 16 + d.toNat * 2 ^ 24 + e.toNat * 2 ^ 32 + f.toNat * 2 ^ 40) g.toNat 48 (by omega) hg (by omega)
  have o7 := or_u64 (a.toNat + b.toNat * 2 ^ 8 + c.toNat * 2 ^ 16 + d.toNat * 2 ^ 24 + e.toNat * 2 ^ 32 + f.toNat * 2 ^ 40 + g.toNat * 2 ^ 48) h.toNat 56 (by omega) hh (by omega)
  simp only [Int.natCast_add, Int.natCast_mul, Int.natCast_pow, Int.cast_ofNat_Int] at o2 o3 o4 o5 o6 o7
  have wb : ∀ b : UInt8, IntKind.u64.wrap (b.toNat : Int) = b.toNat := fun b => by
    have := b.toNat_lt; rw [u64_wrap]; omega
  have w8 : IntKind.u64.wrap ((b.toNat : Int) * 256) = b.toNat * 256 := by rw [u64_wrap]; omega
  have w16 : IntKind.u64.wrap ((c.toNat : Int) * 65536) = c.toNat * 65536 := by rw [u64_wrap]; omega
  have w24 : IntKind.u64.wrap ((d.toNat : Int) * 16777216) = d.toNat * 16777216 := by rw [u64_wrap]; omega
  have w32 : IntKind.u64.wrap ((e.toNat : Int) * 4294967296) = e.toNat * 4294967296 := by rw [u64_wrap]; omega
  have w40 : IntKind.u64.wrap ((f.toNat : Int) * 1099511627776) = f.toNat * 1099511627776 := by rw [u64_wrap]; omega
  have w48 : IntKind.u64.wrap ((g.toNat : Int) * 281474976710656) = g.toNat * 281474976710656 := by rw [u64_wrap]; omega
  have w56 : IntKind.u64.wrap ((h.toNat : Int) * 72057594037927936) = h.toNat * 72057594037927936 := by rw [u64_wrap]; omega
  have m8 : min 8 IntKind.u64.bits = 8 := rfl
  have m16 : min 16 IntKind.u64.bits = 16 := rfl
  have m24 : min 24 IntKind.u64.bits = 24 := rfl
  have m32 : min 32 IntKind.u64.bits = 32 := rfl
  have m40 : min 40 IntKind.u64.bits = 40 := rfl
  have m48 : min 48 IntKind.u64.bits = 48 := rfl
  have m56 : min 56 IntKind.u64.bits = 56 := rfl
  simp only [Int.reducePow] at o1 o2 o3 o4 o5 o6 o7
  simp [bAV, byteCells, aShift, ixV, g2, g3, g4, g5, g6, g7, g8, g9, m8, m16, m24, m32, m40, m48, m56, wb, w8, w16, w24, w32, w40, w48, w56, o1, o2, o3, o4, o5, o6, o7]
  simp only [leN]; omega
theorem glv_0 (x : Option (List AV)) : glV true 0 x = some (.agg []) := by cases x <;> simp [glV]
def num64 (l : List UInt8) : Nat := leN (l.take 8)
theorem c_ReadU64 (o : Option (List UInt8)) : ∀ hE : H, callω fns 73 [bAV 5 o] hE = some (if 8 ≤ (bl o).length then .tup [.int .u64 (num64 (bl o)), bAV 5 (o.map (·.drop 8)), .bool true] else .tup [.int .u64 0, bAV 5 o, .bool false], hE) := by
  intro hE
  by_cases h : 8 ≤ (bl o).length
  · obtain ⟨l, rfl⟩ : ∃ l, o = some l := by cases o with | none => simp [bl] at h | some l => exact ⟨l, rfl⟩
    simp only [bl] at h
    obtain ⟨a, b, c, d, e, f, g, i, r, rfl⟩ := eight h
    have hL := c_LEU64 a b c d e f g i r
    have g1 : ¬ ((r.length : Int) + 1 + 1 + 1 + 1 + 1 + 1 + 1 + 1 < 8) := by omega
    have s1 : ∀ hp : H, slSl hp 1 (bAV 5 (some (a :: b :: c :: d :: e :: f :: g :: i :: r))) (some 8) (some ((r.length : Int) + 1 + 1 + 1 + 1 + 1 + 1 + 1 + 1)) = some (bAV 5 (some r)) := fun hp => by
      rw [sl_b (by omega) (by omega) (by simp)]
      have e8 : ((8 : Int)).toNat = 8 := rfl
      rw [e8]; simp only [List.drop_succ_cons, List.drop_zero]
      rw [List.take_of_length_le (by omega)]
    have hbs : ∀ x : List UInt8, bl (some x) = x := fun _ => rfl
    simp only [hbs]
    rw [if_pos h]
    have e1 : num64 (a :: b :: c :: d :: e :: f :: g :: i :: r) = leN [a, b, c, d, e, f, g, i] := rfl
    simp only [e1, Option.map_some, List.drop_succ_cons, List.drop_zero]
    generalize leN [a, b, c, d, e, f, g, i] = N at *
    refine run73 (Nat.le_of_ble_eq_true rfl) ?_
    simp [bl, g1, hL, s1, glv_0]
  · have h' : ((bl o).length : Int) < 8 := by omega
    rw [if_neg h]
    refine run73 (Nat.le_of_ble_eq_true rfl) ?_
    simp [h']
theorem c_ReadI64' (o : Option (List UInt8)) : ∀ hE : H, callω fns 78 [bAV 5 o] hE = some (if 8 ≤ (bl o).length then .tup [.int .i64 (IntKind.i64.wrap (num64 (bl o))), bAV 5 (o.map (·.drop 8)), .bool true] else .tup [.int .i64 0, bAV 5 o, .bool false], hE) := by
  intro hE
  by_cases h : 8 ≤ (bl o).length
  · obtain ⟨l, rfl⟩ : ∃ l, o = some l := by cases o with | none => simp [bl] at h | some l => exact ⟨l, rfl⟩
    simp only [bl] at h
    obtain ⟨a, b, c, d, e, f, g, i, r, rfl⟩ := eight h
    have hbs : ∀ x : List UInt8, bl (some x) = x := fun _ => rfl
    simp only [hbs]
    rw [if_pos h, c_ReadI64, rd64_leN]
    rfl
  · rw [if_neg h, c_ReadI64_short o (by omega)]
theorem l_docLong {l : List UInt8} (h8 : 8 ≤ l.length) : ∀ (k : Nat) (st : St), k ≤ 8 → st.s 0 = bAV 5 (some l) → st.s 4 = .int .i64 ((k : Int) - 1) → st.s 3 = .int .u64 (leN ((l.take 8).drop k)) → ∀ Q : Ex × St → Prop,
    (∀ st' : St, st'.h = st.h → st'.s 3 = .int .u64 (num64 l) → Q (.exit 0, st')) → LoopR fns lc70_0 st Q
  | 0, st, hk, h0, h4, h3, Q, hA => by
    refine loopω_run fns ?_
    simp at h4
    simp [h4]
    refine hA _ ?_ ?_
    · simp
    · simp [h3, num64]
  | k + 1, st, hk, h0, h4, h3, Q, hA => by
    refine loopω_run fns ?_
    have hkl : k < l.length := by omega
    have hix := bAV_at (e := 5) hkl
    have e1 : ((k + 1 : Nat) : Int) - 1 = k := by omega
    rw [e1] at h4
    have hdk : (l.take 8).drop k = l[k] :: (l.take 8).drop (k + 1) := by
      rw [List.drop_eq_getElem_cons (by rw [List.length_take]; omega)]; congr 1; simp
    have hT : leN ((l.take 8).drop (k + 1)) < 2 ^ 56 := by
      have h1 := leN_lt ((l.take 8).drop (k + 1))
      have h2 : ((l.take 8).drop (k + 1)).length ≤ 7 := by rw [List.length_drop, List.length_take]; omega
      have h3 : 256 ^ ((l.take 8).drop (k + 1)).length ≤ 256 ^ 7 := Nat.pow_le_pow_right (by omega) h2
      omega
    have hs : leN ((l.take 8).drop k) = l[k].toNat + 256 * leN ((l.take 8).drop (k + 1)) := by rw [hdk]; rfl
    have hc := l[k].toNat_lt
    generalize leN ((l.take 8).drop (k + 1)) = X at *
    generalize l[k] = c at *
    have hor := or_low X c.toNat hT hc
    have wb : IntKind.u64.wrap (c.toNat : Int) = c.toNat := by rw [u64_wrap]; omega
    have wx : IntKind.u64.wrap ((X : Int) * 256) = X * 256 := by rw [u64_wrap]; omega
    have w : IntKind.i64.wrap ((k : Int) - 1) = k - 1 := wrap_i64 (by omega) (by omega)
    have m8 : min 8 IntKind.u64.bits = 8 := rfl
    simp [h0, h3, h4, hix, aShift, m8, wx, wb, hor, w]
    refine l_docLong h8 k _ (by omega) ?_ ?_ ?_ Q (fun st' k1 k2 => hA st' ?_ k2)
    · simp [h0]
    · simp
    · simp [hs]; omega
    · rw [k1]
theorem c_docLong (l : List UInt8) (h8 : 8 ≤ l.length) : ∀ hE : H, callω fns 70 [bAV 5 (some l)] hE = some (.int .u64 (num64 l), hE) := by
  intro hE
  refine run70 (Nat.le_of_ble_eq_true rfl) ?_
  simp
  refine l_docLong h8 8 _ (by omega) ?_ ?_ ?_ _ (fun st' k1 k2 => ?_)
  · simp
  · simp
  · have : (l.take 8).drop 8 = [] := List.drop_eq_nil_of_le (by rw [List.length_take]; omega)
    simp [this, leN]
  · simp [k1, k2]
end Go.Proofs.YticoldgiebmmgaaGreatDoor.Abs
