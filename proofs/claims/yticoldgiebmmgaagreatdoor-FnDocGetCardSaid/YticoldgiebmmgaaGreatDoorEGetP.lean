/- What the specification takes off any bytes, kind by kind. -/
import Derived.Test.YticoldgiebmmgaaGreatDoorEGetK
import Derived.Test.YticoldgiebmmgaaGreatDoorEGetG
namespace Go.Proofs.YticoldgiebmmgaaGreatDoor.Abs
set_option linter.all false
open Go.Proofs
set_option linter.unusedVariables false
set_option linter.unusedSimpArgs false
set_option maxRecDepth 100000
set_option maxHeartbeats 8000000

theorem bAVn : bAV 5 none = AV.slice .nil 0 1 [] := rfl
theorem some_of {o : Option (List UInt8)} (h : 1 ≤ (bl o).length) : ∃ l, o = some l := by cases o with | none => simp [bl] at h | some l => exact ⟨l, rfl⟩
theorem mkB1 (x : List UInt8) (h : x.length ≤ 5000) : ∀ hp : H, apV hp 5 1 1 false (.slice .nil 0 1 []) (bAV 5 (some x)) = some ((BS.mk x).av 5) := fun hp => by
  have := apV_b (hp := hp) (e := 5) (b := BS.nil) (o := some x) (by simp only [BS.l, List.length_nil, bls, tooLong]; omega)
  rw [BS.nil_app] at this; exact this
/-! ### By the specification's own reading -/
theorem p_long {k : Int} (hk : k = 1 ∨ k = 17) (l : List UInt8) (h8 : 8 ≤ l.length) (hLen : ∀ hE : H, callω fns 14 [.int .i64 k, bAV 5 (some l)] hE = some (.tup [.int .i64 8, .bool true], hE)) :
    ∀ hE : H, callω fns 44 [.int .i64 k, bAV 5 (some l), .int .i64 200] hE = some (.tup [.agg (tvC k ⟨[], [], 0, num64 l, 0, []⟩ none), .int .i64 8, .bool true], hE) := by
  intro hE
  have hd := c_docLong l h8
  rcases hk with rfl | rfl <;> (refine run44 (Nat.le_of_ble_eq_true rfl) ?_; simp [hLen, hd, tvC, bAVn, pkV, ex2_0, ex2_1])
theorem p_int {k : Int} (hk : k = 9 ∨ k = 18) (l : List UInt8) (h8 : 8 ≤ l.length) (hLen : ∀ hE : H, callω fns 14 [.int .i64 k, bAV 5 (some l)] hE = some (.tup [.int .i64 8, .bool true], hE)) :
    ∀ hE : H, callω fns 44 [.int .i64 k, bAV 5 (some l), .int .i64 200] hE = some (.tup [.agg (tvC k ⟨[], [], IntKind.i64.wrap (num64 l), 0, 0, []⟩ none), .int .i64 8, .bool true], hE) := by
  intro hE
  have hd := c_docLong l h8
  rcases hk with rfl | rfl <;> (refine run44 (Nat.le_of_ble_eq_true rfl) ?_; simp [hLen, hd, tvC, bAVn, pkV, ex2_0, ex2_1])
theorem p_dec (l : List UInt8) (h8 : 16 ≤ l.length) (hLen : ∀ hE : H, callω fns 14 [.int .i64 19, bAV 5 (some l)] hE = some (.tup [.int .i64 16, .bool true], hE)) :
    ∀ hE : H, callω fns 44 [.int .i64 19, bAV 5 (some l), .int .i64 200] hE = some (.tup [.agg (tvC 19 ⟨[], [], 0, num64 l, num64 (l.drop 8), []⟩ none), .int .i64 16, .bool true], hE) := by
  intro hE
  have hd := c_docLong l (by omega)
  have hd2 := c_docLong (l.drop 8) (by rw [List.length_drop]; omega)
  have s1 : ∀ hp : H, slSl hp 1 (bAV 5 (some l)) (some 8) (some (l.length : Int)) = some (bAV 5 (some (l.drop 8))) := fun hp => sl_from (m := 8) (by omega)
  generalize num64 (l.drop 8) = N2 at *
  generalize l.drop 8 = L8 at *
  refine run44 (Nat.le_of_ble_eq_true rfl) ?_
  simp [hLen, hd, hd2, s1, tvC, bls, pkV, ex2_0, ex2_1]
  rfl
theorem p_i32 (l : List UInt8) (h4 : 4 ≤ l.length) (hLen : ∀ hE : H, callω fns 14 [.int .i64 16, bAV 5 (some l)] hE = some (.tup [.int .i64 4, .bool true], hE)) :
    ∀ hE : H, callω fns 44 [.int .i64 16, bAV 5 (some l), .int .i64 200] hE = some (.tup [.agg (tvC 16 ⟨[], [], num32 l, 0, 0, []⟩ none), .int .i64 4, .bool true], hE) := by
  intro hE
  have hN := c_DocNumber (some l)
  simp only [bls] at hN
  refine run44 (Nat.le_of_ble_eq_true rfl) ?_
  simp [hLen, hN, tvC, bAVn, pkV, ex2_0, ex2_1]
theorem p_oid (l : List UInt8) (h12 : 12 ≤ l.length) (hLen : ∀ hE : H, callω fns 14 [.int .i64 7, bAV 5 (some l)] hE = some (.tup [.int .i64 12, .bool true], hE)) :
    ∀ hE : H, callω fns 44 [.int .i64 7, bAV 5 (some l), .int .i64 200] hE = some (.tup [.agg (tvC 7 ⟨[], [], 0, 0, 0, l.take 12⟩ (oB (l.take 12))), .int .i64 12, .bool true], hE) := by
  intro hE
  have s1 : ∀ hp : H, slSl hp 1 (bAV 5 (some l)) (some 0) (some 12) = some (bAV 5 (some (l.take 12))) := fun hp => sl_to (m := 12) h12
  have ha := mkB1 (l.take 12) (by rw [List.length_take]; omega)
  have e1 : (BS.mk (l.take 12)).opt = oB (l.take 12) := rfl
  generalize oB (l.take 12) = OB at *
  generalize l.take 12 = LT at *
  refine run44 (Nat.le_of_ble_eq_true rfl) ?_
  simp [hLen, s1, ha, e1, tvC, pkV, ex2_0, ex2_1]
theorem p_none {k : Int} (hk : k = 6 ∨ k = 10 ∨ k = 255 ∨ k = 127) (o : Option (List UInt8)) (hLen : ∀ hE : H, callω fns 14 [.int .i64 k, bAV 5 o] hE = some (.tup [.int .i64 0, .bool true], hE)) :
    ∀ hE : H, callω fns 44 [.int .i64 k, bAV 5 o, .int .i64 200] hE = some (.tup [.agg (tvC k tv0 none), .int .i64 0, .bool true], hE) := by
  intro hE
  rcases hk with rfl | rfl | rfl | rfl <;> (refine run44 (Nat.le_of_ble_eq_true rfl) ?_; simp [hLen, tvC, tv0, bAVn, pkV, ex2_0, ex2_1])
theorem p_rx (l : List UInt8) (hl : l.length ≤ 5000) {p q : List UInt8} {n : Nat} (hr : rxP l = some (p, q, n)) {m : Int} (hLen : ∀ hE : H, callω fns 14 [.int .i64 11, bAV 5 (some l)] hE = some (.tup [.int .i64 m, .bool true], hE)) :
    ∀ hE : H, callω fns 44 [.int .i64 11, bAV 5 (some l), .int .i64 200] hE = some (.tup [.agg (tvC 11 ⟨p, q, 0, 0, 0, []⟩ none), .int .i64 m, .bool true], hE) := by
  intro hE
  simp only [rxP, Option.bind_eq_some_iff, Option.map_eq_some_iff, Prod.mk.injEq] at hr
  obtain ⟨i, h1, j, h2, rfl, rfl, rfl⟩ := hr
  have hi := (nul_lt h1).1
  have d1 := c_DocName (some l) (by simp only [bls]; omega)
  have d2 := c_DocName (some (l.drop (i + 1))) (by simp only [bls, List.length_drop]; omega)
  have e1 : nmR l = (l.take i, i + 1, true) := by simp [nmR, h1]
  have e2 : nmR (l.drop (i + 1)) = ((l.drop (i + 1)).take j, j + 1, true) := by simp [nmR, h2]
  simp only [bls, e1] at d1
  simp only [bls, e2] at d2
  have s1 : ∀ hp : H, slSl hp 1 (bAV 5 (some l)) (some ((i : Int) + 1)) (some (l.length : Int)) = some (bAV 5 (some (l.drop (i + 1)))) := fun hp => by
    have := sl_from (hp := hp) (e := 5) (l := l) (m := i + 1) (by omega); simpa using this
  generalize (l.drop (i + 1)).take j = Q at *
  generalize l.drop (i + 1) = LD at *
  refine run44 (Nat.le_of_ble_eq_true rfl) ?_
  simp [hLen, d1, d2, s1, bls, tvC, pkV, ex2_0, ex2_1, ex3_0, ex3_1, ex3_2]
  rfl
def binAg (l : List UInt8) : Bool := decide (4 ≤ num32 l) && decide (num32 (l.drop 5) = num32 l - 4)
theorem p_bin (l : List UInt8) (hl : l.length ≤ 5000) (hb : binOk l = true) (hLen : ∀ hE : H, callω fns 14 [.int .i64 5, bAV 5 (some l)] hE = some (.tup [.int .i64 (num32 l + 5), .bool true], hE)) :
    ∀ hE : H, callω fns 44 [.int .i64 5, bAV 5 (some l), .int .i64 200] hE = some (if (l.drop 4).head? = some 2 then (if binAg l = true then .tup [.agg (tvC 5 ⟨[], [], 2, 0, 0, (l.drop 9).take ((num32 l).toNat - 4)⟩ (some ((l.drop 9).take ((num32 l).toNat - 4)))), .int .i64 (num32 l + 5), .bool true] else .tup [.agg zC8, .int .i64 0, .bool false])
      else .tup [.agg (tvC 5 ⟨[], [], ((l.drop 4).headD 0).toNat, 0, 0, (l.drop 5).take (num32 l).toNat⟩ (oB ((l.drop 5).take (num32 l).toNat))), .int .i64 (num32 l + 5), .bool true], hE) := by
  intro hE
  have hb' : 5 ≤ l.length ∧ 0 ≤ num32 l ∧ num32 l + 5 ≤ l.length := by unfold binOk at hb; simpa using hb
  obtain ⟨g5, hn0, hn1⟩ := hb'
  obtain ⟨n, hn⟩ : ∃ n : Nat, num32 l = n := ⟨(num32 l).toNat, by omega⟩
  have hix : ixV 1 (bAV 5 (some l)) (.int .i64 4) = some (.eptr (.int .u8 (((l.drop 4).headD 0).toNat : Int) :: byteCells (l.drop 5))) := by
    have h1 := bAV_at (e := 5) (l := l) (k := 4) (by omega)
    have h2 : l.drop 4 = l[4] :: l.drop 5 := by rw [List.drop_eq_getElem_cons (by omega)]
    rw [h2, List.headD_cons]; exact h1
  have hh : (l.drop 4).head? = some ((l.drop 4).headD 0) := by
    have h2 : l.drop 4 = l[4] :: l.drop 5 := by rw [List.drop_eq_getElem_cons (by omega)]
    rw [h2]; rfl
  have h59 : (l.drop 9).take (n - 4) = ((l.drop 5).take n).drop 4 := by rw [List.drop_take, List.drop_drop]
  have hag : binAg l = (decide (4 ≤ ((l.drop 5).take n).length) && decide (num32 ((l.drop 5).take n) = n - 4)) := by
    have hlt : ((l.drop 5).take n).length = n := by rw [List.length_take, List.length_drop]; omega
    unfold binAg
    rw [hn, hlt]
    by_cases g : 4 ≤ n
    · have g' : (4 : Int) ≤ n := by omega
      rw [num32_take g]; simp only [g, g']
    · have g' : ¬ (4 : Int) ≤ n := by omega
      simp only [g, g', decide_false, Bool.false_and]
  have hlt : ((l.drop 5).take n).length = n := by rw [List.length_take, List.length_drop]; omega
  rw [hn] at hLen ⊢
  rw [hag]
  simp only [Int.toNat_natCast, h59]
  rw [hh]
  simp only [Option.some.injEq]
  have s1 : ∀ hp : H, slSl hp 1 (bAV 5 (some l)) (some 5) (some ((n : Int) + 5)) = some (bAV 5 (some ((l.drop 5).take n))) := fun hp => by
    rw [sl_b (by omega) (by omega) (by omega)]
    have e5 : ((5 : Int)).toNat = 5 := rfl
    have e6 : ((n : Int) + 5).toNat - 5 = n := by omega
    rw [e5, e6]
  have ht := ((l.drop 4).headD 0).toNat_lt
  have hN := c_DocNumber (oB ((l.drop 5).take n))
  have ha := mkB1 ((l.drop 5).take n) (by omega)
  have e1 : (BS.mk ((l.drop 5).take n)).opt = oB ((l.drop 5).take n) := rfl
  have hbo : bl (oB ((l.drop 5).take n)) = (l.drop 5).take n := bl_oB _
  rw [hbo] at hN
  have s2 : 4 ≤ ((l.drop 5).take n).length → ∀ hp : H, slSl hp 1 (bAV 5 (oB ((l.drop 5).take n))) (some 4) (some (((l.drop 5).take n).length : Int)) = some (bAV 5 (some (((l.drop 5).take n).drop 4))) := fun h hp => by
    rw [oB_some (by intro e; rw [e] at h; simp at h)]; exact sl_from (m := 4) h
  have sf : ∀ hp : H, (BS.mk ((l.drop 5).take n)).sh.opt = oB ((l.drop 5).take n) := fun _ => by
    unfold oB; cases (BS.mk ((l.drop 5).take n)) <;> rfl
  have hl2 : (BS.mk ((l.drop 5).take n)).l = (l.drop 5).take n := by simp
  have wt : IntKind.i64.wrap (((l.drop 4).headD 0).toNat : Int) = ((l.drop 4).headD 0).toNat := wrap_i64 (by omega) (by omega)
  have wm : IntKind.i64.wrap ((n : Int) - 4) = n - 4 := wrap_i64 (by omega) (by omega)
  generalize (l.drop 4).headD 0 = t at *
  generalize ((l.drop 5).take n).drop 4 = D4 at *
  generalize hOB : oB ((l.drop 5).take n) = OB at *
  generalize hD : (l.drop 5).take n = D at *
  by_cases gt : t = 2
  · subst gt
    have t2 : ((2 : UInt8).toNat : Int) = 2 := rfl
    have w2 : IntKind.i64.wrap 2 = 2 := rfl
    by_cases q1 : 4 ≤ D.length
    · have s2' := s2 q1
      rw [hlt] at s2' q1 hN
      by_cases q2 : num32 D = n - 4
      · refine run44 (Nat.le_of_ble_eq_true rfl) ?_
        simp [hLen, hix, s1, ha, e1, hN, hlt, q1, q2, s2', sf, wt, w2, wm, t2, hl2, tvC, zC8, hbo, pkV, ex2_0, ex2_1]
      · refine run44 (Nat.le_of_ble_eq_true rfl) ?_
        simp [hLen, hix, s1, ha, e1, hN, hlt, q1, q2, s2', sf, wt, w2, wm, t2, hl2, tvC, zC8, hbo, pkV, ex2_0, ex2_1]
    · rw [hlt] at q1 hN
      refine run44 (Nat.le_of_ble_eq_true rfl) ?_
      simp [hLen, hix, s1, ha, e1, hN, hlt, q1, sf, wt, w2, wm, t2, hl2, tvC, zC8, hbo, pkV, ex2_0, ex2_1]
  · have gt' : ¬ t.toNat = 2 := fun e => gt (UInt8.toNat_inj.1 (by rw [e]; rfl))
    have gtI : ¬ (t.toNat : Int) = 2 := by omega
    refine run44 (Nat.le_of_ble_eq_true rfl) ?_
    simp [hLen, hix, s1, ha, e1, gt, gt', gtI, wt, tvC, pkV, ex2_0, ex2_1]
end Go.Proofs.YticoldgiebmmgaaGreatDoor.Abs
