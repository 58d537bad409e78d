/- Bytes, read as a vector of numbers of 32 bits. -/
import Derived.Test.YtjlioidknhdceaaDoorTR9
import Derived.Test.YtjlioidknhdceaaDoorEVec2
namespace Go.Proofs.YtjlioidknhdceaaDoor.Abs
set_option linter.all false
open Go.Proofs
set_option linter.unusedVariables false
set_option linter.unusedSimpArgs false
set_option maxRecDepth 100000
set_option maxHeartbeats 4000000

theorem c_U32 (x : N32) : ∀ hE : H, callω fns 31 [.agg [], .slice .frz 5 1 (byteCells (le32 (x.val : Int)))] hE = some (.int .u32 (x.val : Int), hE) := by
  intro hE
  have ha := byteOf_toNat (x.val : Int)
  have hb := byteOf_toNat ((x.val : Int) / 256)
  have hc := byteOf_toNat ((x.val : Int) / 65536)
  have hd := byteOf_toNat ((x.val : Int) / 16777216)
  have hx := x.isLt
  have hle : byteCells (le32 (x.val : Int)) = [.int .u8 ((byteOf (x.val : Int)).toNat : Int), .int .u8 ((byteOf ((x.val : Int) / 256)).toNat : Int), .int .u8 ((byteOf ((x.val : Int) / 65536)).toNat : Int), .int .u8 ((byteOf ((x.val : Int) / 16777216)).toNat : Int)] := rfl
  rw [hle]
  generalize (byteOf (x.val : Int)).toNat = a at *
  generalize (byteOf ((x.val : Int) / 256)).toNat = b at *
  generalize (byteOf ((x.val : Int) / 65536)).toNat = c at *
  generalize (byteOf ((x.val : Int) / 16777216)).toNat = d at *
  have o1 := or_u32 a b 8 (by omega) (by omega) (by omega)
  have o2 := or_u32 (a + b * 256) c 16 (by omega) (by omega) (by omega)
  have o3 := or_u32 (a + b * 256 + c * 65536) d 24 (by omega) (by omega) (by omega)
  have wb : IntKind.u32.wrap (b : Int) = b := by simp [IntKind.wrap, IntKind.signed, IntKind.bits]; omega
  have wc : IntKind.u32.wrap (c : Int) = c := by simp [IntKind.wrap, IntKind.signed, IntKind.bits]; omega
  have wd : IntKind.u32.wrap (d : Int) = d := by simp [IntKind.wrap, IntKind.signed, IntKind.bits]; omega
  have wx : IntKind.u32.wrap ((a : Int) + b * 256 + c * 65536 + d * 16777216) = x.val := by simp [IntKind.wrap, IntKind.signed, IntKind.bits]; omega
  simp only [Int.natCast_add, Int.natCast_mul, Int.cast_ofNat_Int, Int.reducePow] at o1 o2 o3
  refine run31 (Nat.le_of_ble_eq_true rfl) ?_
  simp [ixV, aShift, IntKind.bits, wb, wc, wd, o1, o2, o3, wx]
theorem sl_part {hp : H} {l : List UInt8} {i j : Int} (h0 : 0 ≤ i) (h1 : i ≤ j) (h2 : j ≤ l.length) : slSl hp 1 (.slice .frz 5 1 (byteCells l)) (some i) (some j) = some (.slice .frz 5 1 (byteCells ((l.drop i.toNat).take (j.toNat - i.toNat)))) := sl_b (e := 5) h0 h1 h2
theorem part_at {ns pre rest : List N32} {x : N32} (hp : ns = pre ++ x :: rest) : ((0 :: lesB ns).drop (1 + 4 * pre.length)).take 4 = le32 (x.val : Int) := by
  subst hp
  have h1 : (0 :: lesB (pre ++ x :: rest)) = (0 :: lesB pre) ++ (le32 (x.val : Int) ++ lesB rest) := by simp [lesB]
  rw [h1, List.drop_left' (by simp [lesB_length]; omega), List.take_left' (le32_length _)]
theorem l_read {ns : List N32} {m : Nat} (hm : ns.length = m) (hn : m ≤ 1000) : ∀ (rest pre : List N32) (st : St), ns = pre ++ rest → st.s 0 = .slice .frz 5 1 (byteCells (0 :: lesB ns)) → st.s 8 = .int .i64 (1 + 4 * (pre.length : Int)) → (∃ b : RS, b.l = pre.map fV ∧ st.s 7 = b.av 38 1) →
    ∀ Q : Ex × St → Prop, (∀ st' : St, st'.s 2 = st.s 2 → st'.b = st.b → st'.h = st.h → (∃ b : RS, b.l = ns.map fV ∧ st'.s 7 = b.av 38 1) → Q (.exit 0, st')) → LoopR fns lc27_0 st Q
  | [], pre, st, hp, h0, h8, h7, Q, hQ => by
    have hlen : m = pre.length := by rw [← hm, hp]; simp
    have hal : aLen false (.slice .frz 5 1 (byteCells (0 :: lesB ns))) = some (.int .i64 (1 + 4 * (m : Int))) := by
      have : (byteCells (0 :: lesB ns)).length = 1 + 4 * m := by simp [byteCells, lesB_length, hm]; omega
      simp only [aLen, this, Nat.div_one]; simp
    have hlt : ¬ (1 + 4 * (pre.length : Int)) < (1 + 4 * (m : Int)) := by omega
    refine loopω_run fns ?_
    simp [h0, h8, hal, hlt]
    refine hQ _ (by simp) rfl rfl ?_
    rw [hp]; simpa using h7
  | x :: rest, pre, st, hp, h0, h8, h7, Q, hQ => by
    have hlen : m = pre.length + (rest.length + 1) := by rw [← hm, hp]; simp
    have hl : (0 :: lesB ns).length = 1 + 4 * m := by simp [lesB_length, hm]; omega
    have hal : aLen false (.slice .frz 5 1 (byteCells (0 :: lesB ns))) = some (.int .i64 (1 + 4 * (m : Int))) := by
      have : (byteCells (0 :: lesB ns)).length = 1 + 4 * m := by simp [byteCells, lesB_length, hm]; omega
      simp only [aLen, this, Nat.div_one]; simp
    have hlt : (1 + 4 * (pre.length : Int)) < (1 + 4 * (m : Int)) := by omega
    have hw : IntKind.i64.wrap (1 + 4 * (pre.length : Int) + 4) = 1 + 4 * ((pre.length : Int) + 1) := by rw [wrap_i64 (by omega) (by omega)]; omega
    have hsl : ∀ hp : H, slSl hp 1 (.slice .frz 5 1 (byteCells (0 :: lesB ns))) (some (1 + 4 * (pre.length : Int))) (some (1 + 4 * ((pre.length : Int) + 1))) = some (.slice .frz 5 1 (byteCells (le32 (x.val : Int)))) := fun hh => by
      rw [sl_part (by omega) (by omega) (by omega), show (1 + 4 * (pre.length : Int)).toNat = 1 + 4 * pre.length by omega, show (1 + 4 * ((pre.length : Int) + 1)).toNat - (1 + 4 * pre.length) = 4 by omega, part_at hp]
    have hu := c_U32 x
    obtain ⟨b, hb, h7⟩ := h7
    have hbl : b.l.length = pre.length := by rw [hb]; simp
    have ha : apV st.h 38 1 4 false (b.av 38 1) (.slice (.own true) 38 1 [.flt .f32 x.val]) = some ((b.app [fV x]).av 38 1) := RS.apV (by simp [tooLong]; omega) (by simp [tooLong]; omega)
    have hgv : gvV (AV.slice .frz 5 1 (byteCells (0 :: lesB ns))) = AV.slice .frz 5 1 (byteCells (0 :: lesB ns)) := rfl
    have hgv2 : gvV (AV.slice .frz 5 1 (byteCells (le32 (x.val : Int)))) = AV.slice .frz 5 1 (byteCells (le32 (x.val : Int))) := rfl
    refine loopω_run fns ?_
    simp [h0, h8, h7, hal, hlt, hw, hsl, hu, xV, fbV, ha]
    refine l_read hm hn rest (pre ++ [x]) _ (by rw [hp]; simp) ?_ ?_ ?_ Q (fun st' q1 q2 q3 q4 => hQ st' (by rw [q1]; simp) (by rw [q2]) (by rw [q3]) q4)
    · simp [h0]
    · simp
    · exact ⟨b.app [fV x], by rw [RS.l_app, hb]; simp, by simp⟩
theorem c_newF32 {ns : List N32} {m : Nat} (hm : ns.length = m) (hn : m ≤ 1000) (h : H) : CW fns 27 [.slice .frz 5 1 (byteCells (0 :: lesB ns))] h fun q => q = (.tup [.agg (vecC h.n m), .nilI], h.push (.row 38 1 (some m) (ns.map fV))) := by
  have hal : aLen false (.slice .frz 5 1 (byteCells (0 :: lesB ns))) = some (.int .i64 (1 + 4 * (m : Int))) := by
    have : (byteCells (0 :: lesB ns)).length = 1 + 4 * m := by simp [byteCells, lesB_length, hm]; omega
    simp only [aLen, this, Nat.div_one]; simp
  refine runs27 (Nat.le_of_ble_eq_true rfl) ?_
  have hb0 : bytesOf [AV.int .u8 0] = some [0] := rfl
  have k1 : (1 : Int) ≤ 1 + 4 * (m : Int) := by omega
  have k2 : ¬ 1 + 4 * (m : Int) = 0 := by omega
  have w1 : IntKind.i64.wrap (1 + 4 * (m : Int) - 1) = 4 * m := by rw [wrap_i64 (by omega) (by omega)]; omega
  have d1 : (4 * (m : Int)).tdiv 4 = m := by rw [Int.tdiv_eq_ediv_of_nonneg (by omega)]; omega
  have w2 : IntKind.i64.wrap (m : Int) = m := wrap_i64 (by omega) (by omega)
  have w3 : IntKind.i64.wrap ((m : Int) * 4) = 4 * m := by rw [wrap_i64 (by omega) (by omega)]; omega
  have k3 : 4 * (m : Int) ≤ 140737488355328 := by omega
  have k4 : (m : Int) ≤ 140737488355328 := by omega
  have hix : ixV 1 (.slice .frz 5 1 (byteCells (0 :: lesB ns))) (.int .i64 0) = some (.eptr (.int .u8 0 :: byteCells (lesB ns))) := by
    have : (byteCells (0 :: lesB ns)) = .int .u8 0 :: byteCells (lesB ns) := rfl
    simp [ixV, this]
  simp [hal, k2, hix, w1, d1, w2, w3, mkV, mkN, tooLong, k3, k4, repCells]
  refine l_read hm hn ns [] _ rfl ?_ ?_ ⟨.own true [], rfl, ?_⟩ _ (fun st' q1 q2 q3 q4 => ?_)
  · simp
  · simp
  · simp; rfl
  · obtain ⟨b, hb, q7⟩ := q4
    have hN := c_NewVector hb (by omega) h
    rw [hm] at hN
    simp at q1 q2 q3
    simp [q1, q2, q3, q7, hN, vecC]
theorem c_fromBin {ns : List N32} {m : Nat} (hm : ns.length = m) (hn : m ≤ 1000) (h : H) : CW fns 13 [.agg [.int .u8 9, .slice .frz 5 1 (byteCells (39 :: 0 :: lesB ns))]] h fun q => q = (.tup [.agg (vecC h.n m), .nilI], h.push (.row 38 1 (some m) (ns.map fV))) := by
  have hb : (byteCells (39 :: 0 :: lesB ns)).length = 2 + 4 * m := by simp [byteCells, lesB_length, hm]; omega
  have hal : aLen false (.slice .frz 5 1 (byteCells (39 :: 0 :: lesB ns))) = some (.int .i64 (2 + 4 * (m : Int))) := by
    simp only [aLen, hb, Nat.div_one]; simp
  have hlv : lenV (.slice .frz 5 1 (byteCells (39 :: 0 :: lesB ns))) = some (2 + 4 * (m : Int)) := by
    simp only [lenV, hb, Nat.div_one]; simp
  have hix : ixV 1 (.slice .frz 5 1 (byteCells (39 :: 0 :: lesB ns))) (.int .i64 0) = some (.eptr (.int .u8 39 :: byteCells (0 :: lesB ns))) := by
    have : (byteCells (39 :: 0 :: lesB ns)) = .int .u8 39 :: byteCells (0 :: lesB ns) := rfl
    simp [ixV, this]
    omega
  have hsl : ∀ hp : H, slSl hp 1 (.slice .frz 5 1 (byteCells (39 :: 0 :: lesB ns))) (some 1) (some (2 + 4 * (m : Int))) = some (.slice .frz 5 1 (byteCells (0 :: lesB ns))) := fun hp => by
    rw [sl_part (by omega) (by omega) (by simp [lesB_length, hm]; omega), show ((1 : Int)).toNat = 1 from rfl, show (2 + 4 * (m : Int)).toNat - 1 = 1 + 4 * m by omega]
    simp [List.take_of_length_le, lesB_length, hm, Nat.add_comm]
  have k1 : ¬ (2 + 4 * (m : Int)) < 2 := by omega
  have hF := c_newF32 hm hn h
  refine runs13 (Nat.le_of_ble_eq_true rfl) ?_
  simp [hal, hlv, hix, hsl, k1]
  refine gH_use hF (fun v h' hq => ?_)
  injection hq with e1 e2
  subst e1; subst e2
  simp [vecC, ex2_0, ex2_1]
end Go.Proofs.YtjlioidknhdceaaDoor.Abs
