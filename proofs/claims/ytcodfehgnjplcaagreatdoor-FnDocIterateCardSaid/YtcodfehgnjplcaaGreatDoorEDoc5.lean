/- EDoc1, EDoc2, EDoc3, EDoc4, EDoc5 -/
import Derived.Test.YtcodfehgnjplcaaGreatDoorA28
import Derived.Test.YtcodfehgnjplcaaGreatDoorFDocI
/- What the reference's small functions compute: plain texts, digits, kinds, numbers, heads. -/
namespace Go.Proofs.YtcodfehgnjplcaaGreatDoor.Abs
set_option linter.all false
open Go.Proofs
set_option linter.unusedVariables false
set_option linter.unusedSimpArgs false
set_option maxRecDepth 100000
set_option maxHeartbeats 4000000

theorem l_DocPlain : ∀ (rest pre : List UInt8) (st : St), st.s 0 = .str (pre ++ rest) → st.s 3 = .int .i64 pre.length → (pre ++ rest).length ≤ maxLen → ∀ Q : Ex × St → Prop,
    (plainL rest = true → ∀ st' : St, st'.h = st.h → Q (.exit 0, st')) → (plainL rest = false → ∀ st' : St, st'.h = st.h → st'.s 2 = .bool false → Q (.ret, st')) → LoopR fns lc224_0 st Q
  | [], pre, st, h0, h3, hl, Q, hA, hB => by
    refine loopω_run fns ?_
    simp [h0, h3]
    exact hA rfl _ rfl
  | c :: rest, pre, st, h0, h3, hl, Q, hA, hB => by
    refine loopω_run fns ?_
    have hd : (pre.length : Int) < pre.length + (rest.length + 1) := by omega
    by_cases hc : c = 0
    · simp [h0, h3, hc, hd]
      exact hB (by simp [hc, plainL]) _ rfl rfl
    · have hc' : ¬ c.toNat = 0 := fun e => hc (UInt8.toNat_inj.1 e)
      have hw : IntKind.i64.wrap ((pre.length : Int) + 1) = pre.length + 1 := wrap_i64 (by omega) (by simp [maxLen] at hl; omega)
      simp [h0, h3, hc', hw, hd]
      refine l_DocPlain rest (pre ++ [c]) _ ?_ ?_ ?_ Q ?_ ?_
      · simp [h0]
      · simp
      · simpa using hl
      · exact fun h => hA (by simp [hc, h, plainL])
      · exact fun h => hB (by simp [hc, h, plainL])
theorem c_DocPlain (s : List UInt8) (hl : s.length ≤ maxLen) : ∀ hE : H, callω fns 224 [.str s] hE = some (.bool (plainL s), hE) := by
  intro hE
  refine run224 (Nat.le_of_ble_eq_true rfl) ?_
  simp 
  refine l_DocPlain s [] _ ?_ ?_ hl _ (fun h st' e => ?_) (fun h st' e h2 => ?_)
  · simp
  · simp
  · simp [h, e]
  · simp [h, e, h2]

theorem digL_length : ∀ m n : Nat, n ≤ m → (digL n).length ≤ n + 1 := by
  intro m
  induction m with
  | zero => intro n hn; obtain rfl : n = 0 := (by omega); rw [digL]; simp
  | succ m ih =>
    intro n hn; rw [digL]
    by_cases h : n < 10
    · rw [if_pos h]; simp
    · rw [if_neg h]; simp; have := ih (n / 10) (by omega); omega
theorem dig_byte {k : Nat} (hk : k < 10) : UInt8.ofNat (IntKind.u8.wrap (IntKind.i64.wrap (48 + (k : Int)))).toNat = UInt8.ofNat (48 + k) := by
  have h1 : IntKind.u8.wrap (48 + (k : Int)) = ((48 + k : Nat) : Int) := by
    simp [IntKind.wrap, IntKind.signed, IntKind.bits]; omega
  rw [wrap_i64 (by omega) (by omega), h1, Int.toNat_natCast]
theorem c_DocDigits : ∀ (m n : Nat), n ≤ m → n ≤ 4611686018427387904 → ∀ hE : H, callω fns 68 [.int .i64 n] hE = some (.str (digL n), hE) := by
  intro m
  induction m with
  | zero =>
    intro n h1 h2
    obtain rfl : n = 0 := by omega
    intro hE
    refine run68 (Nat.le_of_ble_eq_true rfl) ?_
    simp [cvBS, bytesOf, IntKind.wrap, IntKind.signed, IntKind.bits, digL]
  | succ m ih =>
    intro n h1 h2
    intro hE
    refine run68 (Nat.le_of_ble_eq_true rfl) ?_
    by_cases h : n < 10
    · have h' : (n : Int) < 10 := by omega
      have hb := dig_byte h
      rw [digL, if_pos h]
      skip
      simp [cvBS, bytesOf, h', -UInt8.ofNat_add]
      exact hb
    · have h' : ¬ (n : Int) < 10 := by omega
      have hq : (n : Int).tdiv 10 = ((n / 10 : Nat) : Int) := by simp [Int.tdiv]
      have hr : (n : Int).tmod 10 = ((n % 10 : Nat) : Int) := by simp [Int.tmod]
      have hw : IntKind.i64.wrap ((n / 10 : Nat) : Int) = ((n / 10 : Nat) : Int) := wrap_i64 (by omega) (by omega)
      have hb := dig_byte (Nat.mod_lt n (show 10 > 0 by omega))
      have hl := digL_length (n / 10) (n / 10) (Nat.le_refl _)
      have hc := ih (n / 10) (by omega) (by omega)
      have hm : (digL (n / 10)).length + 1 ≤ maxLen := by simp only [maxLen]; omega
      rw [digL, if_neg h]
      skip
      simp only [← hb]
      simp [cvBS, bytesOf, h', hq, hr, hw, hc, hm, -UInt8.ofNat_add, -Int.natCast_ediv, -Int.natCast_emod]

theorem c_DocKnown (k : Int) : ∀ hE : H, callω fns 91 [.int .i64 k] hE = some (.bool (knownK k), hE) := by
  intro hE
  refine run91 (Nat.le_of_ble_eq_true rfl) ?_
  by_cases h1 : 1 ≤ k <;> by_cases h2 : k ≤ 19 <;> by_cases h3 : k = 255 <;> by_cases h4 : k = 127 <;>
  simp [knownK, h1, h2, h3, h4]

theorem c_DocInt32 (b : BS) (n : Int) (h : b.l.length ≤ 1073741824) : ∀ hE : H, callω fns 72 [b.av 5, .int .i64 n] hE = some ((b.app (le32 n)).av 5, hE) := by
  intro hE
  refine run72 (Nat.le_of_ble_eq_true rfl) ?_
  have h8 : n.fdiv 256 = n / 256 := shr_i64 n 8
  have h16 : n.fdiv 65536 = n / 65536 := shr_i64 n 16
  have h24 : n.fdiv 16777216 = n / 16777216 := shr_i64 n 24
  have hap : ∀ hp : H, apV hp 5 1 1 false (b.av 5) (.slice (.own true) 5 1 [.int .u8 ((byteOf n).toNat : Int), .int .u8 ((byteOf (n / 256)).toNat : Int), .int .u8 ((byteOf (n / 65536)).toNat : Int), .int .u8 ((byteOf (n / 16777216)).toNat : Int)]) = some ((b.app (le32 n)).av 5) := fun hp => apV_l4 (by simp only [tooLong]; omega)
  simp [aShift, IntKind.bits, u8_wrap, hap, h8, h16, h24]

theorem l_DocInt64 {st : St} {b : BS} {n : Int} {k : Nat} {Q : Ex × St → Prop} (h0 : st.s 0 = b.av 5) (h1 : st.s 1 = .int .u64 n) (h5 : st.s 5 = .int .i64 k) (hk : k < 64) (hb : b.l.length ≤ 1073741900)
    (h : ∀ st' : St, st'.h = st.h → st'.s 0 = (b.app [byteOf (n / 2 ^ k)]).av 5 → st'.s 1 = .int .u64 n → st'.s 5 = .int .i64 ((k + 8 : Nat) : Int) → LoopR fns lc75_0 st' Q) : LoopR fns lc75_0 st Q := by
  refine loopω_run fns ?_
  have hd : (k : Int) < 64 := by omega
  have hm : min k 64 = k := by omega
  have hw : IntKind.i64.wrap ((k : Int) + 8) = k + 8 := wrap_i64 (by omega) (by omega)
  have hn : ¬ ((k : Int) < 0) := by omega
  have hap : ∀ hp : H, apV hp 5 1 1 false (b.av 5) (.slice (.own true) 5 1 [.int .u8 ((byteOf (n / 2 ^ k)).toNat : Int)]) = some ((b.app [byteOf (n / 2 ^ k)]).av 5) := fun hp => apV_l1 (by simp only [tooLong]; omega)
  simp [h0, h1, h5, hd, aShift, hn, IntKind.bits, hm, shr_i64, u8_wrap, hap, hw]
  refine h _ rfl ?_ ?_ ?_ <;> simp [h1]
theorem c_DocInt64 (b : BS) (n : Int) (h : b.l.length ≤ 1073741824) : ∀ hE : H, callω fns 75 [b.av 5, .int .u64 n] hE = some ((b.app (le64 n)).av 5, hE) := by
  intro hE
  refine run75 (Nat.le_of_ble_eq_true rfl) ?_
  simp 
  refine l_DocInt64 (b := b) (n := n) (k := 0) (by simp) (by simp) (by simp) (by omega) (by omega) fun s1 z1 a1 b1 c1 => ?_
  refine l_DocInt64 a1 b1 c1 (by omega) (by simp [BS.l_app]; omega) fun s2 z2 a1 b1 c1 => ?_
  refine l_DocInt64 a1 b1 c1 (by omega) (by simp [BS.l_app]; omega) fun s3 z3 a1 b1 c1 => ?_
  refine l_DocInt64 a1 b1 c1 (by omega) (by simp [BS.l_app]; omega) fun s4 z4 a1 b1 c1 => ?_
  refine l_DocInt64 a1 b1 c1 (by omega) (by simp [BS.l_app]; omega) fun s5 z5 a1 b1 c1 => ?_
  refine l_DocInt64 a1 b1 c1 (by omega) (by simp [BS.l_app]; omega) fun s6 z6 a1 b1 c1 => ?_
  refine l_DocInt64 a1 b1 c1 (by omega) (by simp [BS.l_app]; omega) fun s7 z7 a1 b1 c1 => ?_
  refine l_DocInt64 a1 b1 c1 (by omega) (by simp [BS.l_app]; omega) fun s8 z8 a1 b1 c1 => ?_
  refine loopω_run fns ?_
  simp [c1, a1, BS.app_app, le64, z8, z7, z6, z5, z4, z3, z2, z1]

theorem c_docText (b : BS) (s : List UInt8) (h : b.l.length + s.length ≤ 1073741000) : ∀ hE : H, callω fns 76 [b.av 5, .str s] hE = some ((b.app (txtL s)).av 5, hE) := by
  intro hE
  refine run76 (Nat.le_of_ble_eq_true rfl) ?_
  have hw : IntKind.i64.wrap ((s.length : Int) + 1) = s.length + 1 := wrap_i64 (by omega) (by omega)
  simp (disch := first | (((try simp only [BS.l_app, BS.sh_l, BS.l_mk, List.length_append, List.length_cons, List.length_nil, le32_length, le64_length, txtL_length, hdL_length, tooLong]) <;> omega); done) | fail) [hw, c_DocInt32, apV_str, apV_l0, BS.app_app, txtL]

theorem c_DocHead (k : Int) (s : List UInt8) (h : s.length ≤ 1073741000) : ∀ hE : H, callω fns 82 [.int .i64 k, .str s] hE = some ((BS.mk (hdL k s)).av 5, hE) := by
  intro hE
  refine run82 (Nat.le_of_ble_eq_true rfl) ?_
  have h1 : ∀ c : UInt8, AV.slice (.own true) 5 1 [.int .u8 (c.toNat : Int)] = (BS.mk [c]).av 5 := fun _ => rfl
  simp (disch := first | (((try simp only [BS.l_app, BS.sh_l, BS.l_mk, List.length_append, List.length_cons, List.length_nil, le32_length, le64_length, txtL_length, hdL_length, tooLong]) <;> omega); done) | fail) [u8_wrap, h1, apV_str, apV_l0, BS.mk_app, hdL]
end Go.Proofs.YtcodfehgnjplcaaGreatDoor.Abs

/- How many values there are, how many bytes: what the laws' own functions compute. -/
namespace Go.Proofs.YtcodfehgnjplcaaGreatDoor.Abs
set_option linter.all false
open Go.Proofs
set_option linter.unusedVariables false
set_option linter.unusedSimpArgs false
set_option maxRecDepth 100000
set_option maxHeartbeats 4000000

theorem take8 {eB eE : Nat} (v : Tr) (l : List AV) : (v.cells eB eE ++ l).take 8 = v.cells eB eE := by
  rw [← Tr.cells_length eB eE v, List.take_left]
theorem len8 {eB eE : Nat} (v : Tr) (l : List AV) : 8 ≤ (v.cells eB eE ++ l).length := by
  rw [List.length_append, Tr.cells_length]; omega

mutual
theorem c_docCount : ∀ (v : Tr) (most : Int), v.wf → 0 ≤ most → most ≤ 4611686018427387904 → ∀ hE : H, callω fns 69 [.agg (v.cells 5 66), .int .i64 most] hE = some (.int .i64 (v.count most), hE)
  | .mk k t m n0 bi hi b kn ks, most, hW, h1, h2 => by
    simp only [Tr.wf] at hW
    intro hE
    refine run69 (Nat.le_of_ble_eq_true rfl) ?_
    simp [Tr.cells]
    refine l_docCount ks .nil _ k t m n0 bi hi b kn 1 most ?_ ?_ ?_ ?_ ?_ (by omega) (by omega) h2 (by simpa [Ks.app] using hW.2.2.2.2.2.2.2.2.2.2.2.1) hW.2.2.2.2.2.2.2.2.2.2.2.2 _ (fun st' e h => ?_)
    · simp
    · simp
    · simp
    · simp [Ks.len]
    · simp [Tr.cells, Ks.app]
    · simp [h, e, Tr.count]
theorem l_docCount : ∀ (r pre : Ks) (st : St) (k : Int) (t m : List UInt8) (n0 bi hi : Int) (b : Option (List UInt8)) (kn : Bool) (n most : Int), st.s 1 = .int .i64 most → st.s 2 = .ptr (.loc 2) 0 → st.s 5 = .int .i64 n → st.s 6 = .int .i64 pre.len →
    st.b 2 = some (.cells (Tr.cells 5 66 (.mk k t m n0 bi hi b kn (pre.app r)))) → 1 ≤ n → n ≤ most + 1 → most ≤ 4611686018427387904 → (pre.app r).len ≤ reachBytes → r.wf →
    ∀ Q : Ex × St → Prop, (∀ st' : St, st'.h = st.h → st'.s 5 = .int .i64 (r.count n most) → Q (.exit 0, st')) → LoopR fns lc69_0 st Q
  | .nil, pre, st, k, t, m, n0, bi, hi, b, kn, n, most, h1, h2, h5, h6, hb, hn, hm, hM, hL, hW, Q, hQ => by
    refine loopω_run fns ?_
    simp only [Ks.app_nil, Tr.cells] at hb
    simp [h1, h2, h5, h6, hb]
    exact hQ _ rfl (by simp [h5, Ks.count])
  | .cons nm v r, pre, st, k, t, m, n0, bi, hi, b, kn, n, most, h1, h2, h5, h6, hb, hn, hm, hM, hL, hW, Q, hQ => by
    refine loopω_run fns ?_
    have hlt : (pre.len : Int) < ((pre.app (.cons nm v r)).len : Int) := by rw [Ks.len_app]; simp [Ks.len]; omega
    have hb' := hb
    simp only [Tr.cells] at hb'
    by_cases hc : n ≤ most
    · have hw : IntKind.i64.wrap (most - n) = most - n := wrap_i64 (by omega) (by omega)
      have hw2 : IntKind.i64.wrap ((pre.len : Int) + 1) = pre.len + 1 := by
        rw [Ks.len_app, Ks.len] at hL; simp only [reachBytes] at hL; exact wrap_i64 (by omega) (by omega)
      have hcnt := c_docCount v (most - n) hW.2.1 (by omega) (by omega)
      have hle := Tr.count_le v (most - n) (by omega)
      have hw3 : IntKind.i64.wrap (n + v.count (most - n)) = n + v.count (most - n) := wrap_i64 (by omega) (by omega)
      simp [h1, h2, h5, h6, hb', hlt, hc, Ks.av_ix, take8, len8, hw, hw2, hw3, hcnt]
      refine l_docCount r (pre.app (.cons nm v .nil)) _ k t m n0 bi hi b kn (n + v.count (most - n)) most ?_ ?_ ?_ ?_ ?_ (by omega) (by omega) hM (by simpa [Ks.app_assoc, Ks.app] using hL) hW.2.2 Q (fun st' e h => hQ st' e ?_)
      · simp [h1]
      · simp [h2]
      · simp
      · simp [Ks.len_app, Ks.len]
      · simp [Tr.cells, Ks.app_assoc, Ks.app]
      · rw [h, Ks.count, if_pos hc]
    · simp [h1, h2, h5, h6, hb', hlt, hc]
      exact hQ _ rfl (by simp [h5, Ks.count, hc])
end

theorem wrap_add_l (a b : Int) : IntKind.i64.wrap (IntKind.i64.wrap a + b) = IntKind.i64.wrap (a + b) := by
  simp only [IntKind.wrap, IntKind.signed, IntKind.bits]; simp; repeat' split
  all_goals omega
theorem wrap_add_r (a b : Int) : IntKind.i64.wrap (a + IntKind.i64.wrap b) = IntKind.i64.wrap (a + b) := by
  rw [Int.add_comm, wrap_add_l, Int.add_comm]

mutual
theorem c_docBytes : ∀ (v : Tr), v.wf → ∀ hE : H, callω fns 71 [.agg (v.cells 5 66)] hE = some (.int .i64 (IntKind.i64.wrap v.nb), hE)
  | .mk k t m n0 bi hi b kn ks, hW => by
    simp only [Tr.wf] at hW
    intro hE
    refine run71 (Nat.le_of_ble_eq_true rfl) ?_
    simp [Tr.cells, wrap_add_l, wrap_add_r]
    refine l_docBytes ks .nil _ k t m n0 bi hi b kn (t.length + m.length + (bl b).length) ?_ ?_ ?_ ?_ (by simpa [Ks.app] using hW.2.2.2.2.2.2.2.2.2.2.2.1) hW.2.2.2.2.2.2.2.2.2.2.2.2 _ (fun st' e h => ?_)
    · simp
    · simp
    · simp [Ks.len]
    · simp [Tr.cells, Ks.app]
    · simp [h, e, Tr.nb]
theorem l_docBytes : ∀ (r pre : Ks) (st : St) (k : Int) (t m : List UInt8) (n0 bi hi : Int) (b : Option (List UInt8)) (kn : Bool) (n : Nat), st.s 1 = .ptr (.loc 1) 0 → st.s 3 = .int .i64 (IntKind.i64.wrap n) → st.s 4 = .int .i64 pre.len →
    st.b 1 = some (.cells (Tr.cells 5 66 (.mk k t m n0 bi hi b kn (pre.app r)))) → (pre.app r).len ≤ reachBytes → r.wf →
    ∀ Q : Ex × St → Prop, (∀ st' : St, st'.h = st.h → st'.s 3 = .int .i64 (IntKind.i64.wrap (n + r.nb : Nat)) → Q (.exit 0, st')) → LoopR fns lc71_0 st Q
  | .nil, pre, st, k, t, m, n0, bi, hi, b, kn, n, h1, h5, h6, hb, hL, hW, Q, hQ => by
    refine loopω_run fns ?_
    simp only [Ks.app_nil, Tr.cells] at hb
    simp [h1, h5, h6, hb]
    exact hQ _ rfl (by simp [h5, Ks.nb])
  | .cons nm v r, pre, st, k, t, m, n0, bi, hi, b, kn, n, h1, h5, h6, hb, hL, hW, Q, hQ => by
    refine loopω_run fns ?_
    have hlt : (pre.len : Int) < ((pre.app (.cons nm v r)).len : Int) := by rw [Ks.len_app]; simp [Ks.len]; omega
    have hb' := hb
    simp only [Tr.cells] at hb'
    have hw2 : IntKind.i64.wrap ((pre.len : Int) + 1) = pre.len + 1 := by
      rw [Ks.len_app, Ks.len] at hL; simp only [reachBytes] at hL; exact wrap_i64 (by omega) (by omega)
    have hcnt := c_docBytes v hW.2.1
    simp [h1, h5, h6, hb', hlt, Ks.av_ix, take8, len8, hw2, hcnt, wrap_add_l, wrap_add_r]
    refine l_docBytes r (pre.app (.cons nm v .nil)) _ k t m n0 bi hi b kn (n + nm.length + v.nb) ?_ ?_ ?_ ?_ (by simpa [Ks.app_assoc, Ks.app] using hL) hW.2.2 Q (fun st' e h => hQ st' e ?_)
    · simp [h1]
    · simp
    · simp [Ks.len_app, Ks.len]
    · simp [Tr.cells, Ks.app_assoc, Ks.app]
    · rw [h]; simp only [Ks.nb]; congr 2; omega
end
end Go.Proofs.YtcodfehgnjplcaaGreatDoor.Abs

/- Right values: what the reference says of them. -/
namespace Go.Proofs.YtcodfehgnjplcaaGreatDoor.Abs
set_option linter.all false
open Go.Proofs
set_option linter.unusedVariables false
set_option linter.unusedSimpArgs false
set_option maxRecDepth 100000
set_option maxHeartbeats 8000000

theorem c_docBare (k : Int) (t m : List UInt8) (n bi hi : Int) (b : Option (List UInt8)) (kn : Bool) (ks : Ks) :
    ∀ hE : H, callω fns 223 [.agg (Tr.cells 5 66 (.mk k t m n bi hi b kn ks))] hE = some (.agg (Tr.cells 5 66 (.mk k (bareT k t) (bareM k m) (bareN k n) (bareL k bi) (bareH k hi) (bareB k b) (bareKn k kn) (bareK k ks))), hE) := by
  intro hE
  refine run223 (Nat.le_of_ble_eq_true rfl) ?_
  have e1 : bAV 5 none = AV.slice .nil 0 1 [] := rfl
  have e2 : Ks.av 5 66 .nil true = AV.slice .nil 0 1 [] := rfl
  simp [Tr.cells]
  by_cases c1 : k = 1
  · subst c1; simp [bareT, bareM, bareN, bareL, bareH, bareB, bareK, bareKn, e1, e2]
  simp [c1]
  by_cases c17 : k = 17
  · subst c17; simp [bareT, bareM, bareN, bareL, bareH, bareB, bareK, bareKn, e1, e2]
  simp [c17]
  by_cases c2 : k = 2
  · subst c2; simp [bareT, bareM, bareN, bareL, bareH, bareB, bareK, bareKn, e1, e2]
  simp [c2]
  by_cases c13 : k = 13
  · subst c13; simp [bareT, bareM, bareN, bareL, bareH, bareB, bareK, bareKn, e1, e2]
  simp [c13]
  by_cases c14 : k = 14
  · subst c14; simp [bareT, bareM, bareN, bareL, bareH, bareB, bareK, bareKn, e1, e2]
  simp [c14]
  by_cases c3 : k = 3
  · subst c3; simp [bareT, bareM, bareN, bareL, bareH, bareB, bareK, bareKn, e1, e2]
  simp [c3]
  by_cases c4 : k = 4
  · subst c4; simp [bareT, bareM, bareN, bareL, bareH, bareB, bareK, bareKn, e1, e2]
  simp [c4]
  by_cases c5 : k = 5
  · subst c5; simp [bareT, bareM, bareN, bareL, bareH, bareB, bareK, bareKn, e1, e2]
  simp [c5]
  by_cases c7 : k = 7
  · subst c7; simp [bareT, bareM, bareN, bareL, bareH, bareB, bareK, bareKn, e1, e2]
  simp [c7]
  by_cases c8 : k = 8
  · subst c8; simp [bareT, bareM, bareN, bareL, bareH, bareB, bareK, bareKn, e1, e2]
  simp [c8]
  by_cases c9 : k = 9
  · subst c9; simp [bareT, bareM, bareN, bareL, bareH, bareB, bareK, bareKn, e1, e2]
  simp [c9]
  by_cases c16 : k = 16
  · subst c16; simp [bareT, bareM, bareN, bareL, bareH, bareB, bareK, bareKn, e1, e2]
  simp [c16]
  by_cases c18 : k = 18
  · subst c18; simp [bareT, bareM, bareN, bareL, bareH, bareB, bareK, bareKn, e1, e2]
  simp [c18]
  by_cases c11 : k = 11
  · subst c11; simp [bareT, bareM, bareN, bareL, bareH, bareB, bareK, bareKn, e1, e2]
  simp [c11]
  by_cases c12 : k = 12
  · subst c12; simp [bareT, bareM, bareN, bareL, bareH, bareB, bareK, bareKn, e1, e2]
  simp [c12]
  by_cases c15 : k = 15
  · subst c15; simp [bareT, bareM, bareN, bareL, bareH, bareB, bareK, bareKn, e1, e2]
  simp [c15]
  by_cases c19 : k = 19
  · subst c19; simp [bareT, bareM, bareN, bareL, bareH, bareB, bareK, bareKn, e1, e2]
  simp [c19]
  simp [bareT, bareM, bareN, bareL, bareH, bareB, bareK, bareKn, c1, c17, c2, c13, c14, c3, c4, c5, c7, c8, c9, c16, c18, c11, c12, c15, c19]

theorem r_docRight4 {st : St} {k' : Int} {T M : List UInt8} {N L H : Int} {B : Option (List UInt8)} {K : Ks} {kn : Bool} {c : ACode} {s : List Fr} {Q : Ex × St → Prop}
    (h5 : st.s 5 = .ptr (.loc 5) 0) (hb : st.b 5 = some (.cells (Tr.cells 5 66 (.mk k' T M N L H B kn K))))
    (h : ∀ st' : St, st'.h = st.h → st'.s 52 = .bool (!(T.isEmpty && (M.isEmpty && (decide (N = 0) && (decide (L = 0) && (decide (H = 0) && (decide ((bl B).length = 0) && decide (K.len = 0)))))))) → st'.s 1 = st.s 1 → st'.s 2 = st.s 2 → st'.b 2 = st.b 2 → GoC fns Q s c st') :
    GoO fns Q s rg167_4 c st := by
  rw [org167_4]
  simp only [Tr.cells] at hb
  simp [h5, hb]
  cases hT : T.isEmpty
  · simp [hb, h5]; refine h _ rfl ?_ ?_ ?_ ?_ <;> simp [hT]
  simp [hb, h5]
  cases hM : M.isEmpty
  · simp [hb, h5]; refine h _ rfl ?_ ?_ ?_ ?_ <;> simp [hT, hM]
  simp [hb, h5]
  by_cases hN : N = 0
  case neg => simp [hb, h5, hN]; refine h _ rfl ?_ ?_ ?_ ?_ <;> simp [hT, hM, hN]
  simp [hb, h5, hN]
  by_cases hL : L = 0
  case neg => simp [hb, h5, hL]; refine h _ rfl ?_ ?_ ?_ ?_ <;> simp [hT, hM, hN, hL]
  simp [hb, h5, hL]
  by_cases hH : H = 0
  case neg => simp [hb, h5, hH]; refine h _ rfl ?_ ?_ ?_ ?_ <;> simp [hT, hM, hN, hL, hH]
  simp [hb, h5, hH]
  by_cases hB : bl B = []
  case neg => simp [hb, h5, hB]; refine h _ rfl ?_ ?_ ?_ ?_ <;> simp [hT, hM, hN, hL, hH, hB]
  simp [hb, h5, hB]
  by_cases hK : K.len = 0
  case neg => simp [hb, h5, hK]; refine h _ rfl ?_ ?_ ?_ ?_ <;> simp [hT, hM, hN, hL, hH, hB, hK]
  simp [hb, h5, hK]; refine h _ rfl ?_ ?_ ?_ ?_ <;> simp [hT, hM, hN, hL, hH, hB, hK]
end Go.Proofs.YtcodfehgnjplcaaGreatDoor.Abs

/- Right values, and values that are few and short enough. -/
namespace Go.Proofs.YtcodfehgnjplcaaGreatDoor.Abs
set_option linter.all false
open Go.Proofs
set_option linter.unusedVariables false
set_option linter.unusedSimpArgs false
set_option maxRecDepth 100000
set_option maxHeartbeats 8000000

mutual
theorem c_docRight : ∀ (v : Tr) (d : Nat), v.wf → d ≤ 1000 → ∀ hE : H, callω fns 167 [.agg (v.cells 5 66), .int .i64 d] hE = some (.bool (v.right d), hE)
  | .mk k t m n bi hi b kn ks, d, hW, hd => by
    intro hE
    refine run167 (Nat.le_of_ble_eq_true rfl) ?_
    simp only [Tr.wf] at hW
    have hbare := c_docBare k t m n bi hi b kn ks
    simp only [Tr.cells] at hbare
    have hp1 := c_DocPlain t (by have := hW.2.2.1; simp only [reachBytes] at this; simp only [maxLen]; omega)
    have hp2 := c_DocPlain m (by have := hW.2.2.2.1; simp only [reachBytes] at this; simp only [maxLen]; omega)
    simp [Tr.cells, c_DocKnown]
    cases hk : knownK k
    · simp [Tr.right, hk]
    simp
    by_cases hd0 : d = 0
    · simp [Tr.right, hd0]
    simp [hd0, hbare]
    refine r_docRight4 (k' := k) (T := bareT k t) (M := bareM k m) (N := bareN k n) (L := bareL k bi) (H := bareH k hi) (B := bareB k b) (K := bareK k ks) (kn := bareKn k kn) ?_ ?_ fun s1 a0 a1 a2 a3 a4 => ?_
    · simp
    · simp [Tr.cells]
    change s1.s 52 = .bool (!bareOk k t m n bi hi b ks) at a1
    simp at a0 a2 a3 a4
    simp [a1]
    cases hbo : bareOk k t m n bi hi b ks
    · simp [Tr.right, hbo, a0]
    simp [a3, a4, a0]
    have hR : (Tr.mk k t m n bi hi b kn ks).right d = (if k = 5 then decide (0 ≤ n) && decide (n ≤ 255)
     else if k = 7 ∨ k = 12 then decide ((bl b).length = 12)
     else if k = 8 then decide (n = 0) || decide (n = 1)
     else if k = 16 then decide (-2147483648 ≤ n) && decide (n < 2147483648)
     else if k = 11 then plainL t && plainL m
     else Ks.right ks (k == 4) 0 (d - 1)) := by simp [Tr.right, hk, hd0, hbo]
    have h12 : decide (((bl b).length : Int) = 12) = decide ((bl b).length = 12) := decide_eq_decide.2 (by omega)
    have fin : k ≠ 5 → k ≠ 7 → k ≠ 12 → k ≠ 8 → k ≠ 16 → k ≠ 11 → (Tr.mk k t m n bi hi b kn ks).right d = ks.right (k == 4) 0 (d - 1) := by
      intro g1 g2 g3 g4 g5 g6
      rw [hR]; simp [g1, g2, g3, g4, g5, g6]
    by_cases k5 : k = 5
    · by_cases n0 : 0 ≤ n <;> by_cases n1 : n ≤ 255 <;> rw [hR] <;> simp [k5, a3, a4, a0, n0, n1]
    simp [k5, a3, a4, a0]
    by_cases k7 : k = 7
    · rw [hR]; simp [k7, a3, a4, a0, h12]
    simp [k7, a3, a4, a0]
    by_cases k12 : k = 12
    · rw [hR]; simp [k12, a3, a4, a0, h12]
    simp [k12, a3, a4, a0]
    by_cases k8 : k = 8
    · by_cases n0 : n = 0 <;> by_cases n1 : n = 1 <;> rw [hR] <;> simp [k8, a3, a4, a0, n0, n1]
    simp [k8, a3, a4, a0]
    by_cases k16 : k = 16
    · by_cases n0 : -2147483648 ≤ n <;> by_cases n1 : n < 2147483648 <;> rw [hR] <;> simp [k16, a3, a4, a0, n0, n1]
    simp [k16, a3, a4, a0]
    by_cases k11 : k = 11
    · cases n0 : plainL t <;> rw [hR] <;> simp [k11, a3, a4, a0, hp1, hp2, n0]
    simp [k11, a3, a4, a0]
    refine l_docRight ks .nil _ k t m n bi hi b kn d ?_ ?_ ?_ ?_ (by omega) hd (by simpa [Ks.app] using hW.2.2.2.2.2.2.2.2.2.2.2.1) hW.2.2.2.2.2.2.2.2.2.2.2.2 _ (fun h st' e => ?_) (fun h st' e h4 => ?_)
    · simp [a2]
    · simp [a3]
    · simp [Ks.len]
    · simp [a4, Tr.cells, Ks.app]
    · rw [fin k5 k7 k12 k8 k16 k11]; simp [Ks.len] at h; simp [h, e, a0]
    · rw [fin k5 k7 k12 k8 k16 k11]; simp [Ks.len] at h; simp [h, h4, e, a0]
theorem l_docRight : ∀ (r pre : Ks) (st : St) (k : Int) (t m : List UInt8) (n0 bi hi : Int) (b : Option (List UInt8)) (kn : Bool) (d : Nat), st.s 1 = .int .i64 d → st.s 2 = .ptr (.loc 2) 0 → st.s 6 = .int .i64 pre.len →
    st.b 2 = some (.cells (Tr.cells 5 66 (.mk k t m n0 bi hi b kn (pre.app r)))) → 1 ≤ d → d ≤ 1000 → (pre.app r).len ≤ reachBytes → r.wf →
    ∀ Q : Ex × St → Prop, (r.right (k == 4) pre.len (d - 1) = true → ∀ st' : St, st'.h = st.h → Q (.exit 1, st')) → (r.right (k == 4) pre.len (d - 1) = false → ∀ st' : St, st'.h = st.h → st'.s 4 = .bool false → Q (.ret, st')) → LoopR fns lc167_0 st Q
  | .nil, pre, st, k, t, m, n0, bi, hi, b, kn, d, h1, h2, h6, hb, hd1, hd2, hL, hW, Q, hA, hB => by
    refine loopω_run fns ?_
    simp only [Ks.app_nil, Tr.cells] at hb
    simp [h1, h2, h6, hb]
    exact hA rfl _ rfl
  | .cons nm v r, pre, st, k, t, m, n0, bi, hi, b, kn, d, h1, h2, h6, hb, hd1, hd2, hL, hW, Q, hA, hB => by
    refine loopω_run fns ?_
    have hlt : (pre.len : Int) < ((pre.app (.cons nm v r)).len : Int) := by rw [Ks.len_app]; simp [Ks.len]; omega
    have hb' := hb
    simp only [Tr.cells] at hb'
    have hL' := hL
    rw [Ks.len_app, Ks.len] at hL'; simp only [reachBytes] at hL'
    have hw2 : IntKind.i64.wrap ((pre.len : Int) + 1) = pre.len + 1 := wrap_i64 (by omega) (by omega)
    have hwd : IntKind.i64.wrap ((d : Int) - 1) = ((d - 1 : Nat) : Int) := by rw [wrap_i64 (by omega) (by omega)]; omega
    have hr := c_docRight v (d - 1) hW.2.1 (by omega)
    have hp := c_DocPlain nm (by have := hW.1; simp only [reachBytes] at this; simp only [maxLen]; omega)
    have hdig := c_DocDigits pre.len pre.len (Nat.le_refl _) (by omega)
    have step : ∀ st' : St, st'.h = st.h → (plainL nm = true → (!((k == 4) && nm != digL pre.len)) = true → v.right (d - 1) = true → st'.s 1 = .int .i64 d ∧ st'.s 2 = .ptr (.loc 2) 0 ∧ st'.s 6 = .int .i64 ((pre.app (.cons nm v .nil)).len : Int) ∧
        st'.b 2 = some (.cells (Tr.cells 5 66 (.mk k t m n0 bi hi b kn ((pre.app (.cons nm v .nil)).app r)))) → LoopR fns lc167_0 st' Q) := by
      intro st' hh g1 g2 g3 ⟨e1, e2, e6, eb⟩
      refine l_docRight r (pre.app (.cons nm v .nil)) st' k t m n0 bi hi b kn d e1 e2 e6 eb hd1 hd2 (by simpa [Ks.app_assoc, Ks.app] using hL) hW.2.2 Q (fun h s2 z => hA ?_ s2 (z.trans hh)) (fun h s2 z => hB ?_ s2 (z.trans hh))
      · simp only [Ks.len_app, Ks.len] at h; simp [Ks.right, g1, g3] at g2 h ⊢; exact ⟨g2, h⟩
      · simp only [Ks.len_app, Ks.len] at h; simp [Ks.right, g1, g3] at g2 h ⊢; intro _; exact h
    have bad : ∀ st' : St, st'.h = st.h → (plainL nm && (!((k == 4) && nm != digL pre.len) && v.right (d - 1))) = false → st'.s 4 = .bool false → Q (.ret, st') := by
      intro st' hh g1 g2
      refine hB ?_ st' hh g2
      simp only [Ks.right]
      revert g1; cases plainL nm <;> cases ((k == 4) && nm != digL pre.len) <;> cases v.right (d - 1) <;> simp
    simp [h1, h2, h6, hb', hlt, Ks.av_ix, take8, len8, hp]
    cases hpl : plainL nm
    · simp [h2, hb']
      refine bad _ rfl ?_ ?_ <;> simp [hpl]
    simp [h1, h2, h6, hb', hlt, Ks.av_ix, take8, len8]
    by_cases k4 : k = 4
    · simp [k4, h1, h2, h6, hb', hlt, Ks.av_ix, take8, len8, hdig]
      generalize hnm : (nm == digL pre.len) = cc
      cases cc
      · simp [h1, h2, h6, hb', hlt, Ks.av_ix, take8, len8]
        refine bad _ rfl ?_ ?_ <;> simp_all
      simp [h1, h2, h6, hb', hlt, Ks.av_ix, take8, len8, hwd, hr]
      cases hv : v.right (d - 1)
      · simp [h1, h2, h6, hb']
        refine bad _ rfl ?_ ?_ <;> simp_all
      simp [h1, h2, h6, hb', hw2]
      refine step _ rfl hpl ?_ hv ⟨?_, ?_, ?_, ?_⟩
      · simp [k4, hnm]
      · simp [h1]
      · simp [h2]
      · simp [Ks.len_app, Ks.len]
      · simp [Tr.cells, Ks.app_assoc, Ks.app, hb', k4]
    · simp [k4, h1, h2, h6, hb', hlt, Ks.av_ix, take8, len8, hwd, hr]
      cases hv : v.right (d - 1)
      · simp [h1, h2, h6, hb']
        refine bad _ rfl ?_ ?_ <;> simp_all
      simp [h1, h2, h6, hb', hw2]
      refine step _ rfl hpl ?_ hv ⟨?_, ?_, ?_, ?_⟩
      · simp [k4]
      · simp [h1]
      · simp [h2]
      · simp [Ks.len_app, Ks.len]
      · simp [Tr.cells, Ks.app_assoc, Ks.app, hb']
end

theorem c_DocRight (v : Tr) (hW : v.wf) : ∀ hE : H, callω fns 70 [.agg (v.cells 5 66)] hE = some (.bool (v.right 200), hE) := by
  intro hE
  refine run70 (Nat.le_of_ble_eq_true rfl) ?_
  have h := c_docRight v 200 hW (by omega)
  simp only [Int.cast_ofNat_Int] at h
  cases v with
  | mk k t m n bi hi b kn ks =>
  simp only [Tr.cells] at h ⊢
  simp [h]

end Go.Proofs.YtcodfehgnjplcaaGreatDoor.Abs

/- The bytes of values, elements and documents by the reference. -/
namespace Go.Proofs.YtcodfehgnjplcaaGreatDoor.Abs
set_option linter.all false
open Go.Proofs
set_option linter.unusedVariables false
set_option linter.unusedSimpArgs false
set_option maxRecDepth 100000
set_option maxHeartbeats 8000000


def DBL (r : Ks) : Prop := ∀ (pre : Ks) (kn : Bool) (st : St) (bs : BS), st.s 0 = Ks.av 5 66 (pre.app r) kn → st.s 3 = bs.av 5 → st.s 4 = .int .i64 pre.len →
    (pre.app r).len ≤ reachBytes → r.wf → bs.l.length + r.sz ≤ 1073740000 →
    ∀ Q : Ex × St → Prop, (∀ st' : St, st'.h = st.h → st'.s 3 = (bs.app r.body).av 5 → Q (.exit 0, st')) → LoopR fns lc24_0 st Q

theorem c_DocBytes_of {ks : Ks} (kn : Bool) (h : DBL ks) (hl : ks.len ≤ reachBytes) (hW : ks.wf) (hs : ks.sz ≤ 1073740000) : ∀ hE : H, callω fns 24 [Ks.av 5 66 ks kn] hE = some ((BS.mk ks.doc).av 5, hE) := by
  intro hE
  refine run24 (Nat.le_of_ble_eq_true rfl) ?_
  simp
  refine h .nil kn _ .nil ?_ ?_ ?_ (by simpa [Ks.app] using hl) hW (by simpa [BS.l] using hs) _ fun st' e h3 => ?_
  · simp [Ks.app]
  · simp [BS.av]
  · simp [Ks.len]
  have hb := Ks.body_le ks
  unfold Ks.sz at hs
  have hw : IntKind.i64.wrap ((ks.body.length : Int) + 5) = ks.body.length + 5 := wrap_i64 (by omega) (by omega)
  have hd := c_DocInt32 .nil ((ks.body.length : Int) + 5) (by simp [BS.l])
  rw [BS.av_nil, BS.nil_app] at hd
  rw [BS.nil_app] at h3
  have h1 : ∀ hp : H, apV hp 5 1 1 false ((BS.mk (le32 ((ks.body.length : Int) + 5))).av 5) (bAV 5 (BS.mk ks.body).opt) = some ((BS.mk (le32 ((ks.body.length : Int) + 5) ++ ks.body)).av 5) := fun hp => by
    have := apV_b (hp := hp) (e := 5) (b := BS.mk (le32 ((ks.body.length : Int) + 5))) (o := (BS.mk ks.body).opt) (by simp [le32_length, tooLong]; omega)
    simpa [BS.mk_app] using this
  have h2 : ∀ hp : H, apV hp 5 1 1 false ((BS.mk (le32 ((ks.body.length : Int) + 5) ++ ks.body)).av 5) (.slice (.own true) 5 1 [.int .u8 0]) = some ((BS.mk ks.doc).av 5) := fun hp => by
    have := apV_l0 (hp := hp) (e := 5) (f := true) (b := BS.mk (le32 ((ks.body.length : Int) + 5) ++ ks.body)) (by simp [le32_length, tooLong]; omega)
    simpa [BS.mk_app, Ks.doc] using this
  simp [h3, hw, hd, h1, h2, e]

theorem c_DocElem_of {v : Tr} (nm : List UInt8) (h : ∀ hE : H, callω fns 26 [.agg (v.cells 5 66)] hE = some ((BS.mk v.val).av 5, hE)) (hs : nm.length + v.sz ≤ 1073740000) :
    ∀ hE : H, callω fns 32 [.agg (.str nm :: v.cells 5 66)] hE = some ((BS.mk (elemL nm v)).av 5, hE) := by
  intro hE
  refine run32 (Nat.le_of_ble_eq_true rfl) ?_
  have hv := Tr.val_le v
  unfold Tr.sz at hs
  have hh := c_DocHead v.kind nm (by omega)
  have h1 : ∀ hp : H, apV hp 5 1 1 false ((BS.mk (hdL v.kind nm)).av 5) ((BS.mk v.val).av 5) = some ((BS.mk (elemL nm v)).av 5) := fun hp => by
    have := apV_s (hp := hp) (e := 5) (b := BS.mk (hdL v.kind nm)) (c := BS.mk v.val) (by simp [hdL_length, tooLong]; omega)
    simpa [BS.mk_app, elemL] using this
  generalize elemL nm v = el at *
  generalize v.val = vl at *
  cases v with
  | mk k t m n bi hi b kn ks =>
  simp only [Tr.cells, Tr.kind] at h hh h1 ⊢
  simp [hh, h, h1]

theorem u64_of (n : Int) (h : True) : le64 (IntKind.u64.wrap n) = le64 n := by
  have e : IntKind.u64.wrap n = n % 18446744073709551616 := by simp [IntKind.wrap, IntKind.signed, IntKind.bits]
  rw [e]
  have hm : ∀ k : Nat, k ≤ 56 → byteOf (n % 18446744073709551616 / 2 ^ k) = byteOf (n / 2 ^ k) := fun k hk => by
    unfold byteOf
    congr 2
    have h1 : (18446744073709551616 : Int) = 2 ^ k * 2 ^ (64 - k) := by
      rw [← Int.pow_add, show k + (64 - k) = 64 by omega]; rfl
    have h2 : n % 18446744073709551616 = n - 2 ^ k * (2 ^ (64 - k) * (n / 18446744073709551616)) := by
      have := Int.emod_add_mul_ediv n 18446744073709551616
      rw [← Int.mul_assoc, ← h1]; omega
    rw [h2, Int.sub_ediv_of_dvd _ ⟨_, rfl⟩, Int.mul_ediv_cancel_left _ (Int.ne_of_gt (Int.pow_pos (by decide)))]
    have h3 : (2 : Int) ^ (64 - k) = 256 * 2 ^ (64 - k - 8) := by
      rw [show (256 : Int) = 2 ^ 8 by rfl, ← Int.pow_add]; congr 1; omega
    rw [h3, Int.mul_assoc, Int.sub_mul_emod_self_left]
  have h0 := hm 0 (by omega)
  simp at h0
  simp only [le64, h0, hm 8 (by omega), hm 16 (by omega), hm 24 (by omega), hm 32 (by omega), hm 40 (by omega), hm 48 (by omega), hm 56 (by omega)]

mutual
theorem c_DocValue : ∀ (v : Tr), v.wf → v.sz ≤ 1073740000 → ∀ hE : H, callω fns 26 [.agg (v.cells 5 66)] hE = some ((BS.mk v.val).av 5, hE)
  | .mk k t m n bi hi b kn ks, hW, hs => by
    simp only [Tr.wf] at hW
    have hsK : ks.sz ≤ 1073740000 ∧ t.length + m.length + (bl b).length + ks.sz + 18 ≤ 1073740000 := by
      simp only [Tr.sz, Tr.nb, Tr.nodes] at hs; simp only [Ks.sz]; omega
    have hB := c_DocBytes_of kn (l_DocBytes ks) hW.2.2.2.2.2.2.2.2.2.2.2.1 hW.2.2.2.2.2.2.2.2.2.2.2.2 hsK.1
    have hbl := Ks.body_le ks
    have hks : ks.sz = ks.nb + 18 * ks.nodes := rfl
    intro hE
    refine run26 (Nat.le_of_ble_eq_true rfl) ?_
    have e0 : AV.slice .nil 0 1 [] = (BS.mk []).av 5 := rfl
    simp [Tr.cells]
    by_cases k1 : k = 1
    · have := c_DocInt64 .nil bi (by simp [BS.l]); rw [BS.av_nil, BS.nil_app] at this
      have hv : (Tr.mk k t m n bi hi b kn ks).val = le64 bi := by simp [Tr.val, k1]
      rw [hv]; subst k1; simp [this]
    simp [k1]
    by_cases k17 : k = 17
    · have := c_DocInt64 .nil bi (by simp [BS.l]); rw [BS.av_nil, BS.nil_app] at this
      simp [k17, this, Tr.val]
    simp [k17]
    have ht := c_docText .nil t (by simp [BS.l]; omega)
    rw [BS.av_nil, BS.nil_app] at ht
    by_cases k2 : k = 2
    · simp [k2, ht, Tr.val]
    simp [k2]
    by_cases k13 : k = 13
    · simp [k13, ht, Tr.val]
    simp [k13]
    by_cases k14 : k = 14
    · simp [k14, ht, Tr.val]
    simp [k14]
    by_cases k3 : k = 3
    · simp [k3, hB, Tr.val, Ks.doc]
    simp [k3]
    by_cases k4 : k = 4
    · simp [k4, hB, Tr.val, Ks.doc]
    simp [k4]
    by_cases k5 : k = 5
    · have hw : IntKind.i64.wrap (((bl b).length : Int) + 4) = (bl b).length + 4 := wrap_i64 (by omega) (by omega)
      by_cases n2 : n = 2
      · have h1 := c_DocInt32 .nil (((bl b).length : Int) + 4) (by simp [BS.l]); rw [BS.av_nil, BS.nil_app] at h1
        have h2 : ∀ hp : H, apV hp 5 1 1 false ((BS.mk (le32 (((bl b).length : Int) + 4))).av 5) (.slice (.own true) 5 1 [.int .u8 2]) = some ((BS.mk (le32 (((bl b).length : Int) + 4) ++ [2])).av 5) := fun hp => by
          have := apV_l2 (hp := hp) (e := 5) (f := true) (b := BS.mk (le32 (((bl b).length : Int) + 4))) (by simp [le32_length, tooLong])
          simpa [BS.mk_app] using this
        have h3 := c_DocInt32 (BS.mk (le32 (((bl b).length : Int) + 4) ++ [2])) ((bl b).length : Int) (by simp [le32_length])
        have h4 : ∀ hp : H, apV hp 5 1 1 false (((BS.mk (le32 (((bl b).length : Int) + 4) ++ [2])).app (le32 ((bl b).length : Int))).av 5) (bAV 5 b) = some ((BS.mk (Tr.mk k t m n bi hi b kn ks).val).av 5) := fun hp => by
          have := apV_b (hp := hp) (e := 5) (o := b) (b := (BS.mk (le32 (((bl b).length : Int) + 4) ++ [2])).app (le32 ((bl b).length : Int))) (by simp [BS.l_app, le32_length, tooLong]; omega)
          simpa [BS.mk_app, Tr.val, k5, n2] using this
        generalize (Tr.mk k t m n bi hi b kn ks).val = V at *
        simp [k5, n2, hw, h1, h2, h3, h4]
      · have h1 := c_DocInt32 .nil ((bl b).length : Int) (by simp [BS.l]); rw [BS.av_nil, BS.nil_app] at h1
        have h2 : ∀ hp : H, apV hp 5 1 1 false ((BS.mk (le32 ((bl b).length : Int))).av 5) (.slice (.own true) 5 1 [.int .u8 ((byteOf n).toNat : Int)]) = some ((BS.mk (le32 ((bl b).length : Int) ++ [byteOf n])).av 5) := fun hp => by
          have := apV_l1 (hp := hp) (e := 5) (f := true) (c := byteOf n) (b := BS.mk (le32 ((bl b).length : Int))) (by simp [le32_length, tooLong])
          simpa [BS.mk_app] using this
        have h4 : ∀ hp : H, apV hp 5 1 1 false ((BS.mk (le32 ((bl b).length : Int) ++ [byteOf n])).av 5) (bAV 5 b) = some ((BS.mk (Tr.mk k t m n bi hi b kn ks).val).av 5) := fun hp => by
          have := apV_b (hp := hp) (e := 5) (o := b) (b := BS.mk (le32 ((bl b).length : Int) ++ [byteOf n])) (by simp [le32_length, tooLong]; omega)
          simpa [BS.mk_app, Tr.val, k5, n2] using this
        generalize (Tr.mk k t m n bi hi b kn ks).val = V at *
        simp [k5, n2, u8_wrap, h1, h2, h4]
    simp [k5]
    by_cases k7 : k = 7
    · have h1 : ∀ hp : H, apV hp 5 1 1 false (.slice .nil 0 1 []) (bAV 5 b) = some ((BS.mk (bl b)).av 5) := fun hp => by
        have := apV_b (hp := hp) (e := 5) (o := b) (b := .nil) (by simp [BS.l, tooLong]; omega)
        simpa [BS.av_nil, BS.nil_app] using this
      simp [k7, h1, Tr.val]
    simp [k7]
    by_cases k8 : k = 8
    · have h1 : ∀ hp : H, apV hp 5 1 1 false (.slice .nil 0 1 []) (.slice (.own true) 5 1 [.int .u8 ((byteOf n).toNat : Int)]) = some ((BS.mk [byteOf n]).av 5) := fun hp => by
        have := apV_l1 (hp := hp) (e := 5) (f := true) (c := byteOf n) (b := .nil) (by simp [BS.l, tooLong])
        simpa [BS.av_nil, BS.nil_app] using this
      simp [k8, u8_wrap, h1, Tr.val]
    simp [k8]
    have h64 := c_DocInt64 .nil (IntKind.u64.wrap n) (by simp [BS.l]); rw [BS.av_nil, BS.nil_app, u64_of n trivial] at h64
    by_cases k9 : k = 9
    · simp [k9, h64, Tr.val]
    simp [k9]
    by_cases k18 : k = 18
    · simp [k18, h64, Tr.val]
    simp [k18]
    by_cases k16 : k = 16
    · have h1 := c_DocInt32 .nil n (by simp [BS.l]); rw [BS.av_nil, BS.nil_app] at h1
      simp [k16, h1, Tr.val]
    simp [k16]
    by_cases k11 : k = 11
    · have h1 : ∀ hp : H, apV hp 5 1 1 true (.slice .nil 0 1 []) (.str t) = some ((BS.mk t).av 5) := fun hp => by
        have := apV_str (hp := hp) (e := 5) .nil t (by simp [BS.l, tooLong]; omega)
        simpa [BS.av_nil, BS.nil_app] using this
      have h2 : ∀ hp : H, apV hp 5 1 1 false ((BS.mk t).av 5) (.slice (.own true) 5 1 [.int .u8 0]) = some ((BS.mk (t ++ [0])).av 5) := fun hp => by
        have := apV_l0 (hp := hp) (e := 5) (f := true) (b := BS.mk t) (by simp [tooLong]; omega)
        simpa [BS.mk_app] using this
      have h3 : ∀ hp : H, apV hp 5 1 1 true ((BS.mk (t ++ [0])).av 5) (.str m) = some ((BS.mk (t ++ (0 :: m))).av 5) := fun hp => by
        have := apV_str (hp := hp) (e := 5) (BS.mk (t ++ [0])) m (by simp [tooLong]; omega)
        simpa [BS.mk_app] using this
      have h4 : ∀ hp : H, apV hp 5 1 1 false ((BS.mk (t ++ (0 :: m))).av 5) (.slice (.own true) 5 1 [.int .u8 0]) = some ((BS.mk (t ++ (0 :: (m ++ [0])))).av 5) := fun hp => by
        have := apV_l0 (hp := hp) (e := 5) (f := true) (b := BS.mk (t ++ (0 :: m))) (by simp [tooLong]; omega)
        simpa [BS.mk_app] using this
      simp [k11, h1, h2, h3, h4, Tr.val]
    simp [k11]
    by_cases k12 : k = 12
    · have h1 : ∀ hp : H, apV hp 5 1 1 false ((BS.mk (txtL t)).av 5) (bAV 5 b) = some ((BS.mk (txtL t ++ bl b)).av 5) := fun hp => by
        have := apV_b (hp := hp) (e := 5) (o := b) (b := BS.mk (txtL t)) (by simp [txtL_length, tooLong]; omega)
        simpa [BS.mk_app] using this
      simp [k12, ht, h1, Tr.val]
    simp [k12]
    by_cases k15 : k = 15
    · have hdl := Ks.doc_length ks
      have hw1 : IntKind.i64.wrap (4 + ((txtL t).length : Int)) = 4 + (txtL t).length := wrap_i64 (by omega) (by rw [txtL_length]; omega)
      have hw2 : IntKind.i64.wrap (4 + ((txtL t).length : Int) + (ks.doc.length : Int)) = 4 + (txtL t).length + ks.doc.length := wrap_i64 (by omega) (by rw [txtL_length]; omega)
      have h1 := c_DocInt32 .nil (4 + ((txtL t).length : Int) + (ks.doc.length : Int)) (by simp [BS.l]); rw [BS.av_nil, BS.nil_app] at h1
      have h2 : ∀ hp : H, apV hp 5 1 1 false ((BS.mk (le32 (4 + ((txtL t).length : Int) + (ks.doc.length : Int)))).av 5) (bAV 5 (BS.mk (txtL t)).opt) = some ((BS.mk (le32 (4 + ((txtL t).length : Int) + (ks.doc.length : Int)) ++ txtL t)).av 5) := fun hp => by
        have := apV_b (hp := hp) (e := 5) (o := (BS.mk (txtL t)).opt) (b := BS.mk (le32 (4 + ((txtL t).length : Int) + (ks.doc.length : Int)))) (by simp [txtL_length, le32_length, tooLong]; omega)
        simpa [BS.mk_app] using this
      have h3 : ∀ hp : H, apV hp 5 1 1 false ((BS.mk (le32 (4 + ((txtL t).length : Int) + (ks.doc.length : Int)) ++ txtL t)).av 5) (bAV 5 (BS.mk ks.doc).opt) = some ((BS.mk (Tr.mk k t m n bi hi b kn ks).val).av 5) := fun hp => by
        have := apV_b (hp := hp) (e := 5) (o := (BS.mk ks.doc).opt) (b := BS.mk (le32 (4 + ((txtL t).length : Int) + (ks.doc.length : Int)) ++ txtL t)) (by simp [txtL_length, le32_length, tooLong, hdl]; omega)
        have hv : (Tr.mk k t m n bi hi b kn ks).val = le32 (4 + ((txtL t).length : Int) + (ks.doc.length : Int)) ++ (txtL t ++ ks.doc) := by
          rw [hdl]; simp [Tr.val, k15, Ks.doc]
        rw [hv]; simpa [BS.mk_app] using this
      generalize (Tr.mk k t m n bi hi b kn ks).val = V at *
      simp [k15, ht, hB, hw1, hw2, h1, h2, h3]
    simp [k15]
    by_cases k19 : k = 19
    · have h1 := c_DocInt64 .nil bi (by simp [BS.l]); rw [BS.av_nil, BS.nil_app] at h1
      have h2 := c_DocInt64 (BS.mk (le64 bi)) hi (by simp [le64_length]); rw [BS.mk_app] at h2
      simp [k19, h1, h2, Tr.val]
    simp [k19]
    have hv : (Tr.mk k t m n bi hi b kn ks).val = [] := by simp [Tr.val, k1, k17, k2, k13, k14, k3, k4, k5, k7, k8, k9, k18, k16, k11, k12, k15, k19]
    rw [hv]; rfl
theorem l_DocBytes : ∀ (r : Ks), DBL r
  | .nil, pre, kn, st, bs, h0, h3, h4, hL, hW, hs, Q, hQ => by
    refine loopω_run fns ?_
    rw [Ks.app_nil] at h0
    simp [h0, h3, h4]
    refine hQ _ rfl ?_
    simp [h3, Ks.body]
    cases bs <;> simp [BS.app]
  | .cons nm v r, pre, kn, st, bs, h0, h3, h4, hL, hW, hs, Q, hQ => by
    refine loopω_run fns ?_
    have hlt : (pre.len : Int) < ((pre.app (.cons nm v r)).len : Int) := by rw [Ks.len_app]; simp [Ks.len]; omega
    have hL' := hL
    rw [Ks.len_app, Ks.len] at hL'; simp only [reachBytes] at hL'
    have hw2 : IntKind.i64.wrap ((pre.len : Int) + 1) = pre.len + 1 := wrap_i64 (by omega) (by omega)
    have hs' : bs.l.length + (nm.length + v.nb + r.nb + 18 * (v.nodes + r.nodes)) ≤ 1073740000 := by simpa [Ks.sz, Ks.nb, Ks.nodes] using hs
    have hE := c_DocElem_of nm (c_DocValue v hW.2.1 (by unfold Tr.sz; omega)) (by unfold Tr.sz; omega)
    have hvl := Tr.val_le v
    have hel : (elemL nm v).length = nm.length + 2 + v.val.length := by simp [elemL, hdL_length]
    have h1 : ∀ hp : H, apV hp 5 1 1 false (bs.av 5) ((BS.mk (elemL nm v)).av 5) = some ((bs.app (elemL nm v)).av 5) := fun hp => by
      have := apV_s (hp := hp) (e := 5) (b := bs) (c := BS.mk (elemL nm v)) (by simp [hel, tooLong]; omega)
      simpa using this
    simp [h0, h3, h4, hlt, Ks.av_ix, take8, hE, h1, hw2]
    refine l_DocBytes r (pre.app (.cons nm v .nil)) kn _ (bs.app (elemL nm v)) ?_ ?_ ?_ (by simpa [Ks.app_assoc, Ks.app] using hL) hW.2.2 (by simp [BS.l_app, hel, Ks.sz]; omega) Q (fun st' e h => hQ st' e ?_)
    · simp [h0, Ks.app_assoc, Ks.app]
    · simp
    · simp [Ks.len_app, Ks.len]
    · rw [h, BS.app_app]; simp [Ks.body, elemL, hdL]
end
end Go.Proofs.YtcodfehgnjplcaaGreatDoor.Abs
