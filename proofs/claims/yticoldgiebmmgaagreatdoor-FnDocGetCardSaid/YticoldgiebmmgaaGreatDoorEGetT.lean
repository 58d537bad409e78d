/- Values read from any bytes by the code: texts of three kinds, binaries, pointers, code with scope. -/
import Derived.Test.YticoldgiebmmgaaGreatDoorEGetS
namespace Go.Proofs.YticoldgiebmmgaaGreatDoor.Abs
set_option linter.all false
open Go.Proofs
set_option linter.unusedVariables false
set_option linter.unusedSimpArgs false
set_option maxRecDepth 100000
set_option maxHeartbeats 8000000

theorem c_ReadStr (l : List UInt8) (hl : l.length ≤ 5000) : ∀ hE : H, callω fns 46 [bAV 5 (some l)] hE = some (if strOk l then .tup [.str (strT l), bAV 5 (some (l.drop (4 + (num32 l).toNat))), .bool true] else .tup [.str [], bAV 5 (some l), .bool false], hE) := by
  intro hE
  have h := c_readstring l hl
  generalize strT l = T at *
  generalize l.drop (4 + (num32 l).toNat) = R at *
  cases hs : strOk l <;> rw [hs] at h <;> simp only [Bool.false_eq_true, if_true, if_false] at h ⊢ <;>
    (refine run46 (Nat.le_of_ble_eq_true rfl) ?_; simp [h, ex3_0, ex3_1, ex3_2])
theorem c_ReadJs (l : List UInt8) (hl : l.length ≤ 5000) : ∀ hE : H, callω fns 55 [bAV 5 (some l)] hE = some (if strOk l then .tup [.str (strT l), bAV 5 (some (l.drop (4 + (num32 l).toNat))), .bool true] else .tup [.str [], bAV 5 (some l), .bool false], hE) := by
  intro hE
  have h := c_readstring l hl
  generalize strT l = T at *
  generalize l.drop (4 + (num32 l).toNat) = R at *
  cases hs : strOk l <;> rw [hs] at h <;> simp only [Bool.false_eq_true, if_true, if_false] at h ⊢ <;>
    (refine run55 (Nat.le_of_ble_eq_true rfl) ?_; simp [h, ex3_0, ex3_1, ex3_2])
theorem c_ReadSym (l : List UInt8) (hl : l.length ≤ 5000) : ∀ hE : H, callω fns 56 [bAV 5 (some l)] hE = some (if strOk l then .tup [.str (strT l), bAV 5 (some (l.drop (4 + (num32 l).toNat))), .bool true] else .tup [.str [], bAV 5 (some l), .bool false], hE) := by
  intro hE
  have h := c_readstring l hl
  generalize strT l = T at *
  generalize l.drop (4 + (num32 l).toNat) = R at *
  cases hs : strOk l <;> rw [hs] at h <;> simp only [Bool.false_eq_true, if_true, if_false] at h ⊢ <;>
    (refine run56 (Nat.le_of_ble_eq_true rfl) ?_; simp [h, ex3_0, ex3_1, ex3_2])
def binOk (l : List UInt8) : Bool := decide (5 ≤ l.length) && (decide (0 ≤ num32 l) && decide (num32 l + 5 ≤ l.length))
theorem five {l : List UInt8} (h : 5 ≤ l.length) : ∃ a b c d t r, l = a :: b :: c :: d :: t :: r := by
  match l, h with
  | a :: b :: c :: d :: t :: r, _ => exact ⟨a, b, c, d, t, r, rfl⟩
theorem c_ReadBin (l : List UInt8) (hl : l.length ≤ 5000) (hag : binOk l = true → (l.drop 4).head? = some 2 → 4 ≤ num32 l ∧ num32 (l.drop 5) = num32 l - 4) :
    ∃ R, ∀ hE : H, callω fns 49 [bAV 5 (some l)] hE = some (if binOk l then .tup [.int .u8 ((l.drop 4).headD 0).toNat, bAV 5 (some (if (l.drop 4).head? = some 2 then (l.drop 9).take ((num32 l).toNat - 4) else (l.drop 5).take (num32 l).toNat)), bAV 5 (some R), .bool true] else .tup [.int .u8 0, bAV 5 none, bAV 5 (some l), .bool false], hE) := by
  have hR := c_RLen (some l)
  simp only [bls] at hR
  have hr := num32_range l
  have e0 : AV.slice .nil 0 1 [] = bAV 5 none := rfl
  by_cases hk : okL l = true
  case neg =>
    have hno : ¬ (4 ≤ l.length ∧ 0 ≤ num32 l) := by intro h; unfold okL at hk; simp [h.1, h.2] at hk
    simp only [Bool.not_eq_true] at hk
    rw [hk] at hR
    have hf : binOk l = false := by
      unfold binOk
      by_cases g1 : 5 ≤ l.length
      · have : ¬ 0 ≤ num32 l := by omega
        simp [this]
      · simp [g1]
    rw [hf]
    generalize rest4 (some l) = R4 at *
    refine ⟨[], fun hE => run49 (Nat.le_of_ble_eq_true rfl) ?_⟩
    simp [hR, e0, ex3_0, ex3_1, ex3_2]
  case pos =>
    obtain ⟨h4, h0⟩ := okL_le hk
    rw [hk, rest4_some h4] at hR
    by_cases g5 : 5 ≤ l.length
    case neg =>
      have hf : binOk l = false := by unfold binOk; simp [g5]
      have hd : (l.drop 4).length < 1 := by rw [List.length_drop]; omega
      have hd' : ((l.drop 4).length : Int) < 1 := by omega
      rw [hf]
      generalize l.drop 4 = R4 at *
      refine ⟨[], fun hE => run49 (Nat.le_of_ble_eq_true rfl) ?_⟩
      simp [hR, e0, bls, hd, hd', ex3_0, ex3_1, ex3_2]
    case pos =>
      obtain ⟨a, b, c, d, t, r, rfl⟩ := five g5
      have e9 : (a :: b :: c :: d :: t :: r).drop 9 = r.drop 4 := rfl
      simp only [List.drop_succ_cons, List.drop_zero, List.head?_cons, List.headD_cons, Option.some.injEq, e9] at hR hag ⊢
      have hlen : (a :: b :: c :: d :: t :: r).length = r.length + 5 := rfl
      obtain ⟨n, hn⟩ : ∃ n : Nat, num32 (a :: b :: c :: d :: t :: r) = n := ⟨(num32 (a :: b :: c :: d :: t :: r)).toNat, by omega⟩
      have hbo : binOk (a :: b :: c :: d :: t :: r) = decide (n ≤ r.length) := by
        unfold binOk
        rw [hn, hlen]
        have h1 : 5 ≤ r.length + 5 := by omega
        have h2 : (0 : Int) ≤ n := by omega
        have h3 : (((n : Int) + 5 ≤ ((r.length + 5 : Nat) : Int))) ↔ n ≤ r.length := by omega
        simp only [h1, h2, h3, decide_true, Bool.true_and]
      rw [hbo, hn] at hag
      rw [hbo, hn]
      simp only [Int.toNat_natCast]
      rw [hn] at hR hr
      rw [hlen] at hl
      have hbl : bl (some (a :: b :: c :: d :: t :: r)) = a :: b :: c :: d :: t :: r := rfl
      generalize a :: b :: c :: d :: t :: r = L at *
      have g1 : ¬ ((r.length : Int) + 1 < 1) := by omega
      have w64 : IntKind.i64.wrap (n : Int) = n := wrap_i64 (by omega) (by omega)
      by_cases g2 : n ≤ r.length
      case neg =>
        have g2' : (r.length : Int) < n := by omega
        have g2'' : r.length < n := by omega
        refine ⟨[], fun hE => run49 (Nat.le_of_ble_eq_true rfl) ?_⟩
        simp [hR, e0, bls, g1, g2, g2', g2'', w64, ix_head, sl_tail, ex3_0, ex3_1, ex3_2]
      case pos =>
        have g2' : ¬ ((r.length : Int) < n) := by omega
        have g2'' : ¬ (r.length < n) := by omega
        have g2d : decide (n ≤ r.length) = true := by simpa using g2
        by_cases gt : t = 2
        · obtain ⟨q1, q2⟩ := hag g2d gt
          subst gt
          have hR2 := c_RLen (some r)
          simp only [bls] at hR2
          have hk2 : okL r = true := by unfold okL; rw [q2]; simp; omega
          rw [hk2, q2, rest4_some (by omega)] at hR2
          have wm : IntKind.i64.wrap ((n : Int) - 4) = n - 4 := wrap_i64 (by omega) (by omega)
          have hd : (r.drop 4).length = r.length - 4 := by simp
          have g3 : ¬ (((r.length - 4 : Nat) : Int) < (n : Int) - 4) := by omega
          have s1 : ∀ hp : H, slSl hp 1 (bAV 5 (some (r.drop 4))) (some 0) (some ((n : Int) - 4)) = some (bAV 5 (some ((r.drop 4).take (n - 4)))) := fun hp => by
            have := sl_to (hp := hp) (e := 5) (l := r.drop 4) (m := n - 4) (by omega)
            rwa [show ((n - 4 : Nat) : Int) = (n : Int) - 4 by omega] at this
          have s2 : ∀ hp : H, slSl hp 1 (bAV 5 (some (r.drop 4))) (some ((n : Int) - 4)) (some ((r.length - 4 : Nat) : Int)) = some (bAV 5 (some ((r.drop 4).drop (n - 4)))) := fun hp => by
            have := sl_from (hp := hp) (e := 5) (l := r.drop 4) (m := n - 4) (by omega)
            rwa [show ((n - 4 : Nat) : Int) = (n : Int) - 4 by omega, hd] at this
          refine ⟨(r.drop 4).drop (n - 4), fun hE => run49 (Nat.le_of_ble_eq_true rfl) ?_⟩
          have t2 : (2 : UInt8).toNat = 2 := rfl
          generalize (r.drop 4).drop (n - 4) = RR at *
          generalize (r.drop 4).take (n - 4) = RT at *
          simp [hR, hR2, e0, bls, g1, g2, g2', g2'', g3, w64, wm, hd, s1, s2, t2, ix_head, sl_tail, pkV, ex3_0, ex3_1, ex3_2]
        · have gt' : ¬ t.toNat = 2 := fun e => gt (UInt8.toNat_inj.1 (by rw [e]; rfl))
          have gtI : ¬ (t.toNat : Int) = 2 := by omega
          have s1 : ∀ hp : H, slSl hp 1 (bAV 5 (some r)) (some 0) (some (n : Int)) = some (bAV 5 (some (r.take n))) := fun hp => sl_to g2
          have s2 : ∀ hp : H, slSl hp 1 (bAV 5 (some r)) (some (n : Int)) (some (r.length : Int)) = some (bAV 5 (some (r.drop n))) := fun hp => sl_from g2
          refine ⟨r.drop n, fun hE => run49 (Nat.le_of_ble_eq_true rfl) ?_⟩
          generalize r.drop n = RR at *
          generalize r.take n = RT at *
          simp [hR, e0, bls, g1, g2, g2', g2'', w64, gt, gt', gtI, s1, s2, ix_head, sl_tail, pkV, ex3_0, ex3_1, ex3_2]
def dbOk (l : List UInt8) : Bool := strOk l && decide ((num32 l).toNat + 16 ≤ l.length)
theorem c_ReadDB (l : List UInt8) (hl : l.length ≤ 5000) : ∃ R, ∀ hE : H, callω fns 54 [bAV 5 (some l)] hE = some (if dbOk l then .tup [.str (strT l), .agg (byteCells ((l.drop (4 + (num32 l).toNat)).take 12)), bAV 5 (some R), .bool true] else .tup [.str [], .agg (byteCells (List.replicate 12 0)), bAV 5 (some l), .bool false], hE) := by
  have h := c_readstring l hl
  have h2 := c_ReadOID (l.drop (4 + (num32 l).toNat))
  have e2 : (12 ≤ (l.drop (4 + (num32 l).toNat)).length) = ((num32 l).toNat + 16 ≤ l.length) := by apply propext; rw [List.length_drop]; omega
  simp only [e2] at h2
  have hld := fun L (hL : L.length = 12) => ldO_arr (m := .take) (l := L) hL
  have hst := fun L (hL : L.length = 12) => stO_arr (D := List.replicate 12 0) (l := L) (by simp) hL
  unfold dbOk
  cases hs : strOk l with
  | false =>
    rw [hs] at h
    simp only [Bool.false_eq_true, if_false] at h
    refine ⟨[], fun hE => run54 (Nat.le_of_ble_eq_true rfl) ?_⟩
    rw [← z12]
    simp [h, ex3_0, ex3_1, ex3_2]
  | true =>
    rw [hs] at h
    simp only [if_true] at h
    have hso : 4 ≤ l.length ∧ 1 ≤ num32 l ∧ num32 l + 4 ≤ l.length := by
      unfold strOk at hs; simpa using hs
    generalize strT l = T at *
    by_cases g : (num32 l).toNat + 16 ≤ l.length
    · simp only [g, ↓reduceIte] at h2
      have hlen : ((l.drop (4 + (num32 l).toNat)).take 12).length = 12 := by rw [List.length_take, List.length_drop]; omega
      have hld' := hld _ hlen
      have hst' := hst _ hlen
      have hst2 := stO_arr hlen hlen
      rw [← z12] at hst'
      have gd : (true && decide ((num32 l).toNat + 16 ≤ l.length)) = true := by simpa using g
      rw [gd]
      refine ⟨(l.drop (4 + (num32 l).toNat)).drop 12, fun hE => run54 (Nat.le_of_ble_eq_true rfl) ?_⟩
      generalize (l.drop (4 + (num32 l).toNat)).take 12 = ID at *
      generalize (l.drop (4 + (num32 l).toNat)).drop 12 = RR at *
      generalize l.drop (4 + (num32 l).toNat) = RM at *
      simp [h, h2, hld', hst', hst2, -ldO_ct, -stO_c, -splice, ex3_0, ex3_1, ex3_2]
    · simp only [g, ↓reduceIte] at h2
      have gd : (true && decide ((num32 l).toNat + 16 ≤ l.length)) = false := by simpa using g
      rw [gd]
      refine ⟨[], fun hE => run54 (Nat.le_of_ble_eq_true rfl) ?_⟩
      generalize l.drop (4 + (num32 l).toNat) = RM at *
      rw [← z12] at h2 ⊢
      simp [h, h2, ex3_0, ex3_1, ex3_2]
theorem c_ReadCWS (l : List UInt8) (hl : l.length ≤ 5000) (hk : okL l = true) (hn : num32 l ≤ l.length) (hs : strOk (l.drop 4) = true) (hd : docB (l.drop (8 + (num32 (l.drop 4)).toNat)) = true) :
    ∃ R, ∀ hE : H, callω fns 57 [bAV 5 (some l)] hE = some (.tup [.str (strT (l.drop 4)), bAV 5 (some ((l.drop (8 + (num32 (l.drop 4)).toNat)).take (num32 (l.drop (8 + (num32 (l.drop 4)).toNat))).toNat)), bAV 5 (some R), .bool true], hE) := by
  have hR := c_RLen (some l)
  simp only [bls] at hR
  have hr := num32_range l
  obtain ⟨h4, h0⟩ := okL_le hk
  rw [hk, rest4_some h4] at hR
  have h := c_readstring (l.drop 4) (by rw [List.length_drop]; omega)
  rw [hs] at h
  simp only [if_true, List.drop_drop] at h
  rw [show 4 + (4 + (num32 (l.drop 4)).toNat) = 8 + (num32 (l.drop 4)).toNat by omega] at h
  have h2 := c_RDoc (l.drop (8 + (num32 (l.drop 4)).toNat)) (by rw [List.length_drop]; omega)
  rw [hd] at h2
  simp only [if_true] at h2
  have w64 : IntKind.i64.wrap (num32 l) = num32 l := wrap_i64 (by omega) (by omega)
  have g : ¬ ((l.length : Int) < num32 l) := by omega
  refine ⟨(l.drop (8 + (num32 (l.drop 4)).toNat)).drop (num32 (l.drop (8 + (num32 (l.drop 4)).toNat))).toNat, fun hE => run57 (Nat.le_of_ble_eq_true rfl) ?_⟩
  generalize (l.drop (8 + (num32 (l.drop 4)).toNat)).drop (num32 (l.drop (8 + (num32 (l.drop 4)).toNat))).toNat = RR at *
  generalize (l.drop (8 + (num32 (l.drop 4)).toNat)).take (num32 (l.drop (8 + (num32 (l.drop 4)).toNat))).toNat = RT at *
  generalize l.drop (8 + (num32 (l.drop 4)).toNat) = RM at *
  generalize strT (l.drop 4) = T at *
  generalize l.drop 4 = L4 at *
  generalize num32 l = N at *
  simp [hR, h, h2, w64, g, bls, pkV, ex3_0, ex3_1, ex3_2]
end Go.Proofs.YticoldgiebmmgaaGreatDoor.Abs
