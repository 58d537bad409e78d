/- What the law's function FnBindValid computes. -/
import Derived.Test.YtdnfnobgeddbfaaDoorTR8
import Derived.Test.YtdnfnobgeddbfaaDoorEDoc1
import Derived.Test.YtdnfnobgeddbfaaDoorEDoc5
namespace Go.Proofs.YtdnfnobgeddbfaaDoor.Abs
set_option linter.all false
open Go.Proofs
set_option linter.unusedVariables false
set_option linter.unusedSimpArgs false
set_option maxRecDepth 100000
set_option maxHeartbeats 8000000

theorem i32_u32 (n : Int) : IntKind.i32.wrap (IntKind.u32.wrap n) = IntKind.i32.wrap n := by
  rw [i32_wrap, i32_wrap, u32_wrap]; split <;> split <;> omega
theorem c_DocNumber (o : Option (List UInt8)) : ∀ hE : H, callω fns 22 [bAV 5 o] hE = some (.tup [.int .i64 (num32 (bl o)), .bool (decide (4 ≤ (bl o).length))], hE) := by
  intro hE
  refine run22 (Nat.le_of_ble_eq_true rfl) ?_
  by_cases h : (bl o).length < 4
  · have h1 : ((bl o).length : Int) < 4 := by omega
    have h2 : ¬ 4 ≤ (bl o).length := by omega
    rw [num32_short h]
    simp [h1, h2]
  · match o, h with
    | none, h => simp [bl] at h
    | some [], h => simp [bl] at h
    | some [_], h => simp [bl] at h
    | some [_, _], h => simp [bl] at h
    | some [_, _, _], h => simp [bl] at h
    | some (a :: b :: c :: d :: r), _ =>
      have ha := a.toNat_lt; have hb := b.toNat_lt; have hc := c.toNat_lt; have hd := d.toNat_lt
      have g1 : ¬ ((r.length : Int) + 1 + 1 + 1 + 1 < 4) := by omega
      have g2 : (0 : Int) < (r.length : Int) + 1 + 1 + 1 + 1 := by omega
      have g3 : (1 : Int) < (r.length : Int) + 1 + 1 + 1 + 1 := by omega
      have g4 : (2 : Int) < (r.length : Int) + 1 + 1 + 1 + 1 := by omega
      have g5 : (3 : Int) < (r.length : Int) + 1 + 1 + 1 + 1 := by omega
      have g6 : 4 ≤ r.length + 1 + 1 + 1 + 1 := by omega
      have o1 := or_u32 a.toNat b.toNat 8 (by omega) hb (by omega)
      have o2 := or_u32 (a.toNat + b.toNat * 256) c.toNat 16 (by omega) hc (by omega)
      have o3 := or_u32 (a.toNat + b.toNat * 256 + c.toNat * 65536) d.toNat 24 (by omega) hd (by omega)
      have m8 : min 8 IntKind.u32.bits = 8 := rfl
      have m16 : min 16 IntKind.u32.bits = 16 := rfl
      have m24 : min 24 IntKind.u32.bits = 24 := rfl
      simp [bl, bAV, byteCells, aShift, ixV, g1, g2, g3, g4, g5, g6, m8, m16, m24]
      have wb : ∀ b : UInt8, IntKind.u32.wrap (b.toNat : Int) = b.toNat := fun b => by
        have := b.toNat_lt; rw [u32_wrap]; omega
      simp only [Int.natCast_add, Int.natCast_mul, Int.cast_ofNat_Int] at o2 o3
      have q1 : (2 : Int) ^ 8 = 256 := rfl
      have q2 : (2 : Int) ^ 16 = 65536 := rfl
      have q3 : (2 : Int) ^ 24 = 16777216 := rfl
      rw [q1] at o1; rw [q2] at o2; rw [q3] at o3
      rw [wb b, wb c, wb d, o1, o2, o3, i32_u32]
      show IntKind.i64.wrap _ = rd32 a b c d
      have hr : IntKind.i32.wrap ((a.toNat : Int) + b.toNat * 256 + c.toNat * 65536 + d.toNat * 16777216) = rd32 a b c d := by unfold rd32; congr 1; omega
      rw [hr]
      have := num32_range (a :: b :: c :: d :: r)
      have e : num32 (a :: b :: c :: d :: r) = rd32 a b c d := rfl
      rw [e] at this
      exact wrap_i64 (by omega) (by omega)

theorem c_BindSame (k k' : Int) (o o' : Option (List UInt8)) : ∀ hE : H, callω fns 16 [.agg [.int .i64 k, bAV 5 o], .agg [.int .i64 k', bAV 5 o']] hE = some (.bool (decide (k = k') && bl o == bl o'), hE) := by
  intro hE
  refine run16 (Nat.le_of_ble_eq_true rfl) ?_
  by_cases h : k = k'
  · simp [h]
  · simp [h]
section
variable {e : List UInt8} {t : UInt8} {nm d : List UInt8} (h1 : e = t :: (nm ++ 0 :: d)) (h2 : eParts e = some (t, nm, d)) (h3 : vGet t.toNat d = some d.length) (hl : e.length < 2147483648)
include h2 hl
theorem c_RawKey : ∀ hE : H, callω fns 23 [bAV 5 (some e)] hE = some (.tup [.str nm, .int .i64 0], hE) := by
  intro hE
  have hk := c_KeyErr e hl
  simp only [h2] at hk
  have hk2 : ∀ hE : H, callω fns 45 [bAV 5 (some e)] hE = some (.tup [.str nm, .nilI], hE) := by
    intro hE
    refine run45 (Nat.le_of_ble_eq_true rfl) ?_
    simp [hk, ex2_0, ex2_1]
  have hc := c_code .nil
  refine run23 (Nat.le_of_ble_eq_true rfl) ?_
  simp [hk2, hc, ex2_0, ex2_1]
include h3
theorem c_RawElementValue (hd : d.length < 2147483648) : ∀ hE : H, callω fns 24 [bAV 5 (some e)] hE = some (.tup [.agg [.int .i64 t.toNat, bAV 5 (oB d)], .int .i64 0], hE) := by
  intro hE
  have hv := c_ValueErr e hl
  have e1 : eVal e = .agg [.int .u8 t.toNat, bAV 5 (some d)] := by simp [eVal, h2, h3, vData, bl]
  have e2 : eValErr e = .nilI := by simp [eValErr, h2, h3]
  rw [e1, e2] at hv
  have hf := c_fromCore t.toNat (some d)
  have hv2 : ∀ hE : H, callω fns 46 [bAV 5 (some e)] hE = some (.tup [.agg [.int .u8 t.toNat, bAV 5 (some d)], .nilI], hE) := by
    intro hE
    refine run46 (Nat.le_of_ble_eq_true rfl) ?_
    simp [hv, hf, ex2_0, ex2_1]
  have hc := c_code .nil
  have ht := t.toNat_lt
  have hs := c_some1 t.toNat (by omega) (by omega) (some d) hd
  simp only [bl] at hs
  refine run24 (Nat.le_of_ble_eq_true rfl) ?_
  simp [hv2, hs, hc, ex2_0, ex2_1]
theorem c_RawElementValidate : ∀ hE : H, callω fns 25 [bAV 5 (some e)] hE = some (.int .i64 0, hE) := by
  intro hE
  have hv := c_ElemValidate e hl
  simp only [h2] at hv
  have e1 : xVal t.toNat (some d) = .nilI := by simp [xVal, bl, h3]
  rw [e1] at hv
  have hv2 : ∀ hE : H, callω fns 47 [bAV 5 (some e)] hE = some (.nilI, hE) := by
    intro hE
    refine run47 (Nat.le_of_ble_eq_true rfl) ?_
    simp [hv]
  have hc := c_code .nil
  refine run25 (Nat.le_of_ble_eq_true rfl) ?_
  simp [hv2, hc]
end

theorem l_FnBindValid {l : List UInt8} (hl : l.length ≤ 65536) : ∀ (rest pre : List (List UInt8)) (st : St) (L M : RS), st.s 0 = bAV 5 (some l) → st.s 3 = .int .i64 l.length → st.s 5 = L.av 23 1 → L.l = rowsC 5 (pre ++ rest) → st.s 7 = M.av 29 2 → M.l = rawsC 5 (pre ++ rest) →
    st.s 9 = .int .i64 (4 + pre.flatten.length : Nat) → st.s 10 = .int .i64 pre.length → (∀ e ∈ rest, eGood e) → l.drop 4 = (pre ++ rest).flatten ++ [0] → 4 ≤ l.length → (pre ++ rest).length ≤ 65536 → ∀ Q : Ex × St → Prop,
    (∀ st' : St, st'.h = st.h → st'.s 0 = bAV 5 (some l) → st'.s 3 = .int .i64 l.length → st'.s 9 = .int .i64 (4 + (pre ++ rest).flatten.length : Nat) → Q (.exit 0, st')) → LoopR fns lc6_0 st Q
  | [], pre, st, L, M, h0, h3, h5, hL, h7, hM, h9, h10, hg, hd, h4, hb, Q, hA => by
    refine loopω_run fns ?_
    have hn : aLen false (L.lv 23 1) = some (.int .i64 pre.length) := RS.lv_len (by omega) (by rw [hL]; simp)
    simp [h5, h10, hn]
    refine hA _ ?_ ?_ ?_ ?_ <;> simp [h0, h3, h9]
  | e :: rest, pre, st, L, M, h0, h3, h5, hL, h7, hM, h9, h10, hg, hd, h4, hb, Q, hA => by
    refine loopω_run fns ?_
    obtain ⟨t, nm, d, g1, g2, g3⟩ := hg e List.mem_cons_self
    have hlen : l.length = 4 + pre.flatten.length + e.length + rest.flatten.length + 1 := by
      have := congrArg List.length hd
      simp only [List.length_drop, List.length_append, List.flatten_append, List.flatten_cons, List.length_singleton] at this
      omega
    have hel : e.length = nm.length + d.length + 2 := by rw [g1]; simp; omega
    have hlt : (pre.length : Int) < pre.length + (rest.length + 1) := by omega
    have hb' : pre.length + (rest.length + 1) ≤ 65536 := by simpa using hb
    have hn : aLen false (L.lv 23 1) = some (.int .i64 (pre.length + (rest.length + 1) : Nat)) := RS.lv_len (by omega) (by rw [hL]; simp)
    have hx1 := RS.fv_at' (e := 23) (b := L) (k := pre.length) (pre := rowsC 5 pre) (r := rowsC 5 rest) (x := bAV 5 (some e)) (by rw [hL, rowsC_append]; rfl) (by simp)
    have hx2 := RS.fv_at2 (e := 29) (b := M) (k := pre.length) (m := pre.length + (rest.length + 1)) (pre := rawsC 5 pre) (r := rawsC 5 (e :: rest)) (by rw [hM, rawsC_append]) (by simp) (by rw [hM]; simp) (by omega)
    have hkv : kv e = ((t.toNat : Int), d) := by unfold kv; simp only [g2]
    rw [rawsC_cons, hkv] at hx2
    simp only [List.cons_append, List.nil_append] at hx2
    have r1 := c_RawKey g2 (by omega)
    have r2 := c_RawElementValue g2 g3 (by omega) (by omega)
    have r3 := c_RawElementValidate g2 g3 (by omega)
    have r4 := c_BindSame t.toNat t.toNat (oB d) (oB d)
    have r5 := c_DocHead t.toNat nm (by omega)
    have ehd : hdL (t.toNat : Int) nm = t :: (nm ++ [0]) := by
      unfold hdL
      congr 1
      apply UInt8.toNat_inj.1
      have := byteOf_toNat (t.toNat : Int)
      have := t.toNat_lt
      omega
    rw [ehd] at r5
    have hne : (t :: (nm ++ [0]) : List UInt8) ≠ [] := by simp
    have hmk : BS.mk (t :: (nm ++ [0])) = .own true (t :: (nm ++ [0])) := rfl
    rw [hmk] at r5
    have hol : (BS.own true (t :: (nm ++ [0]))).opt = some (t :: (nm ++ [0])) := rfl
    have hcat : (t :: (nm ++ [0])) ++ d = e := by rw [g1]; simp
    have hmax : (t :: (nm ++ [0])).length + d.length ≤ maxLen := by simp [maxLen]; omega
    have w1 : IntKind.i64.wrap (((4 + pre.flatten.length : Nat) : Int) + e.length) = (4 + pre.flatten.length + e.length : Nat) := by rw [wrap_i64 (by omega) (by omega)]; omega
    have g6 : ¬ ((l.length : Int) ≤ ((4 + pre.flatten.length + e.length : Nat) : Int)) := by omega
    have hs : ∀ hp : H, slSl hp 1 (bAV 5 (some l)) (some ((4 + pre.flatten.length : Nat) : Int)) (some ((4 + pre.flatten.length + e.length : Nat) : Int)) = some (bAV 5 (some e)) := fun hp => by
      rw [sl_b (by omega) (by omega) (by omega)]
      have e1 : l.drop (4 + pre.flatten.length) = e ++ (rest.flatten ++ [0]) := by
        rw [← List.drop_drop, hd]
        simp [List.drop_append]
      rw [Int.toNat_natCast, Int.toNat_natCast, e1, show 4 + pre.flatten.length + e.length - (4 + pre.flatten.length) = e.length by omega]
      simp
    have hw2 : IntKind.i64.wrap ((pre.length : Int) + 1) = pre.length + 1 := wrap_i64 (by omega) (by omega)
    have hfl : (pre ++ [e]).flatten.length = pre.flatten.length + e.length := by simp
    have hstep : ∀ (st2 : St) (L2 M2 : RS), st2.h = st.h → st2.s 0 = bAV 5 (some l) → st2.s 3 = .int .i64 l.length → st2.s 5 = L2.av 23 1 → L2.l = L.l → st2.s 7 = M2.av 29 2 → M2.l = M.l → st2.s 9 = .int .i64 (4 + pre.flatten.length + e.length : Nat) → st2.s 10 = .int .i64 (pre.length + 1 : Nat) → LoopR fns lc6_0 st2 Q := by
      intro st2 L2 M2 k1 k2 k3 k4 k5 k6 k7 k8 k9
      refine l_FnBindValid hl rest (pre ++ [e]) st2 L2 M2 k2 k3 k4 ?_ k6 ?_ ?_ ?_ (fun x hx => hg x (List.mem_cons_of_mem _ hx)) ?_ h4 ?_ Q (fun st' q1 q2 q3 q4 => hA st' (q1.trans k1) q2 q3 ?_)
      · rw [k5, hL]; simp
      · rw [k7, hM]; simp
      · rw [k8, hfl]; congr 2; omega
      · rw [k9]; simp
      · rw [hd]; simp
      · simpa using hb
      · rw [q4]; simp
    generalize (4 + pre.flatten.length : Nat) = A at *
    generalize (4 + pre.flatten.length + e.length : Nat) = A2 at *
    simp only [Int.natCast_add, Int.natCast_one] at hn
    have hmax2 : nm.length + 1 + 1 + d.length ≤ maxLen := by simp at hmax; omega
    have hbo : bl (oB d) = d := bl_oB d
    simp only [Int.natCast_add] at g6 hs w1
    have hoe : (BS.own true e).opt = some e := rfl
    have hme : e.length ≤ maxLen := by simp [maxLen]; omega
    generalize oB d = o at *
    cases o <;> simp only [bl] at hbo <;> subst hbo <;> (try simp only [List.length_nil, Nat.add_zero] at hmax2) <;>
      simp [h0, h3, h5, h7, h9, h10, hn, hlt, hx1, hx2, r1, r2, r3, r4, r5, hol, bl, ← g1, aStr, hmax2, hoe, hme, w1, g6, hs, hw2, ex2_0, ex2_1] <;>
      refine hstep _ L.sh M.sh ?_ ?_ ?_ ?_ ?_ ?_ ?_ ?_ ?_ <;> simp [h0, h3, h5, h7]
theorem c_RawValidateNil : ∀ hE : H, callω fns 19 [bAV 5 none] hE = some (.int .i64 1, hE) := by
  have hR := c_RLen none
  have hi := c_NewIBE none (rest4 none)
  have e0 : okL (bl none) = false := rfl
  rw [e0] at hR
  have hc := c_code_few none (rest4 none)
  generalize rest4 none = R at *
  have hD : ∀ hE : H, callω fns 59 [bAV 5 none] hE = some (xFew none R, hE) := by
    intro hE
    refine run59 (Nat.le_of_ble_eq_true rfl) ?_
    simp [hR, hi, xFew, mkI, ex3_0, ex3_1, ex3_2]
  have h3 : ∀ hE : H, callω fns 43 [bAV 5 none] hE = some (xFew none R, hE) := by
    intro hE
    refine run43 (Nat.le_of_ble_eq_true rfl) ?_
    simp [hD, xFew]
  intro hE
  refine run19 (Nat.le_of_ble_eq_true rfl) ?_
  simp only [xFew] at hc h3
  simp [hc, h3]

theorem law_FnBindValid (o : Option (List UInt8)) (h : H) : CW fns 6 [bAV 5 o] h fun q => q.1 = .bool true := by
  refine (runs6 (Nat.le_of_ble_eq_true rfl) ?_)
  have hN := c_DocNumber o
  cases o with
  | none =>
    have hV := c_RawValidateNil
    simp only [bl, num32_short (l := []) (by simp), List.length_nil] at hN
    simp [hN, hV, ex2_0, ex2_1, bl]
  | some l =>
  simp only [bl] at hN
  by_cases h1 : 2147483647 < l.length
  · have h1' : (2147483647 : Int) < l.length := by omega
    simp [bl, h1']
  have h1' : ¬ (2147483647 : Int) < l.length := by omega
  by_cases h2 : 65536 < l.length
  · have h2' : (65536 : Int) < l.length := by omega
    simp [bl, h1', h2', hN, ex2_0, ex2_1]
  have h2' : ¬ (65536 : Int) < l.length := by omega
  by_cases h3 : 4 ≤ l.length ∧ num32 l ≠ l.length
  · obtain ⟨h3, h4⟩ := h3
    simp [bl, h1', h2', h3, h4, hN, ex2_0, ex2_1]
  have hV := c_RawValidate l (by omega)
  by_cases h5 : docC l = 0
  case neg =>
    generalize docC l = C at *
    by_cases h4 : 4 ≤ l.length
    · have h6 : num32 l = l.length := Decidable.byContradiction fun e => h3 ⟨h4, e⟩
      simp [bl, h1', h2', h4, h5, h6, hN, hV, ex2_0, ex2_1]
    · simp [bl, h1', h2', h4, h5, hN, hV, ex2_0, ex2_1]
  have hk : okL l = true := by
    cases hk : okL l with
    | true => rfl
    | false => simp [docC, hk] at h5
  obtain ⟨h4, _⟩ := okL_le hk
  have h6 : num32 l = l.length := Decidable.byContradiction fun e => h3 ⟨h4, e⟩
  have g5 : ¬ num32 l < 5 := fun e => by simp [docC, hk, e, show ¬ (l.length : Int) < num32 l by omega] at h5
  have hd : (dR l).2 = true := by
    cases hd : (dR l).2 with
    | true => rfl
    | false =>
      by_cases hz : (l[(num32 l - 1).toNat]?) ≠ some 0
      · simp only [docC, hk, Bool.true_eq_false, if_false, if_neg g5, if_neg (show ¬ (l.length : Int) < num32 l by omega), if_pos hz] at h5; omega
      · simp only [docC, hk, Bool.true_eq_false, if_false, if_neg g5, if_neg (show ¬ (l.length : Int) < num32 l by omega), if_neg hz, hd, if_true] at h5; omega
  have hz : (l[(num32 l - 1).toNat]?) = some 0 := Decidable.byContradiction fun hz => by
    simp only [docC, hk, Bool.true_eq_false, if_false, if_neg g5, if_neg (show ¬ (l.length : Int) < num32 l by omega), if_pos hz] at h5; omega
  have hT : ∃ r, elemsT (l.length + 1) (num32 l - 4) (l.drop 4) = 0 :: r := by
    simp only [docC, hk, Bool.true_eq_false, if_false, if_neg g5, if_neg (show ¬ (l.length : Int) < num32 l by omega), ne_eq, hz, not_true_eq_false, hd] at h5
    cases hT : elemsT (l.length + 1) (num32 l - 4) (l.drop 4) with
    | nil => rw [hT] at h5; simp at h5
    | cons c r =>
      rw [hT] at h5
      simp only at h5
      by_cases hc : c = 0
      · exact ⟨r, by rw [hc]⟩
      · rw [if_neg hc] at h5; omega
  obtain ⟨r, hT⟩ := hT
  obtain ⟨s1, s2⟩ := elemsR_split (l.length + 1) (num32 l - 4) (l.drop 4) (by simp; omega) hd
  have hgood := elemsR_good (l.length + 1) (num32 l - 4) (l.drop 4)
  have hE := c_impElems l (by intro e; subst e; simp at h4) (by omega)
  have hM := c_impVals l (by omega)
  have hcnt := (elemsR_len (l.length + 1) (num32 l - 4) (l.drop 4)).2
  rw [hT] at s1
  have hv1 : valsOf l = (dR l).1 := by unfold valsOf; rw [hk]; rfl
  have hv2 : valsGood l = true := by unfold valsGood; rw [hk, hd]; rfl
  rw [hv1, hv2] at hM
  rw [hk, hd] at hE
  simp only [and_self, if_true] at hE
  unfold dR at hE hM
  generalize (elemsR (l.length + 1) (num32 l - 4) (l.drop 4)).1 = es at *
  have hr : r = [] := by
    have := congrArg List.length s1
    simp only [List.length_drop, List.length_append, List.length_cons] at this
    exact List.length_eq_zero_iff.1 (by omega)
  subst hr
  have hlen : l.length = 4 + es.flatten.length + 1 := by
    have := congrArg List.length s1
    simp only [List.length_drop, List.length_append, List.length_cons, List.length_nil] at this
    omega
  rw [List.length_drop] at hcnt
  have hL1 : (RS.mk (rowsC 5 es)).l = rowsC 5 es := RS.l_mk _
  have hL2 : (RS.mk (rawsC 5 es)).l = rawsC 5 es := RS.l_mk _
  have n1 : aLen false ((RS.mk (rowsC 5 es)).lv 23 1) = some (.int .i64 es.length) := RS.lv_len (by omega) (by rw [hL1]; simp)
  have n2 : aLen false ((RS.mk (rawsC 5 es)).lv 29 2) = some (.int .i64 es.length) := RS.lv_len (by omega) (by rw [hL2]; simp)
  generalize RS.mk (rowsC 5 es) = L at *
  generalize RS.mk (rawsC 5 es) = M at *
  have g7 : ¬ (l.length : Int) < 5 := by omega
  rw [h5] at hV
  rw [h6] at hN
  have hwl : IntKind.i64.wrap ((l.length : Int) - 1) = (4 + es.flatten.length : Nat) := by rw [wrap_i64 (by omega) (by omega)]; omega
  have hix : ixV 1 (bAV 5 (some l)) (.int .i64 ((4 + es.flatten.length : Nat) : Int)) = some (.eptr (.int .u8 (0 : Int) :: byteCells (l.drop (4 + es.flatten.length + 1)))) := by
    have hlt : 4 + es.flatten.length < l.length := by omega
    have := bAV_at (e := 5) hlt
    have e1 : l[4 + es.flatten.length] = 0 := by
      have := hz
      rw [show (num32 l - 1).toNat = 4 + es.flatten.length by omega, List.getElem?_eq_getElem hlt] at this
      simpa using this
    rw [e1] at this
    exact this
  simp [bl, h1', h2', h4, hN, hV, hE, hM, n1, n2, g7, ex2_0, ex2_1]
  refine l_FnBindValid (l := l) (by omega) es [] _ L M ?_ ?_ ?_ hL1 ?_ hL2 ?_ ?_ hgood ?_ h4 ?_ _ (fun st' k1 k2 k3 k4 => ?_)
  · simp
  · simp
  · simp
  · simp
  · simp
  · simp
  · simpa using s1
  · simp; omega
  · rw [List.nil_append] at k4
    generalize (4 + es.flatten.length) = A at *
    simp [k2, k3, k4, hwl, hix]
end Go.Proofs.YtdnfnobgeddbfaaDoor.Abs
