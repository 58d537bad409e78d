/- TR9, EDoc1 -/
import Derived.Test.YtdnfnobgeddbfaaDoorTR8
import Derived.Test.YtdnfnobgeddbfaaDoorA28
import Derived.Test.YtdnfnobgeddbfaaDoorFFnBindLookup
/- Documents found valid, whatever their bytes: their elements stand one behind the other. -/
namespace Go.Proofs.YtdnfnobgeddbfaaDoor.Abs
set_option linter.all false

theorem u32_wrap (n : Int) : IntKind.u32.wrap n = n % 4294967296 := by simp [IntKind.wrap, IntKind.signed, IntKind.bits]
theorem ofInt_wrapU32 (n : Int) : BitVec.ofInt 32 (IntKind.u32.wrap n) = BitVec.ofInt 32 n := by
  apply BitVec.eq_of_toInt_eq
  rw [u32_wrap]; simp only [BitVec.toInt_ofInt]
  simp only [Int.bmod]; omega
theorem or_u32 (x : Nat) (c : Nat) (k : Nat) (hx : x < 2 ^ k) (hc : c < 256) (hk : k ≤ 24) :
    orI .u32 (IntKind.u32.wrap (x : Int)) (IntKind.u32.wrap ((c : Int) * 2 ^ k)) = IntKind.u32.wrap ((x : Int) + c * 2 ^ k) := by
  show IntKind.u32.wrap ((BitVec.ofInt 32 (IntKind.u32.wrap (x : Int)) ||| BitVec.ofInt 32 (IntKind.u32.wrap ((c : Int) * 2 ^ k))).toNat : Int) = _
  rw [ofInt_wrapU32, ofInt_wrapU32]
  have e1 : ((c : Int) * 2 ^ k) = ((c <<< k : Nat) : Int) := by rw [Nat.shiftLeft_eq]; simp
  rw [e1]
  simp only [BitVec.ofInt_natCast]
  have e2 : x ||| (c <<< k) = c <<< k + x := by rw [Nat.or_comm, Nat.shiftLeft_add_eq_or_of_lt hx]
  have hk2 : 2 ^ k ≤ 2 ^ 24 := Nat.pow_le_pow_right (by omega) hk
  have h1 : x < 2 ^ 32 := by omega
  have h2 : c <<< k < 2 ^ 32 := by
    rw [Nat.shiftLeft_eq]
    calc c * 2 ^ k ≤ c * 2 ^ 24 := Nat.mul_le_mul_left _ hk2
      _ < 2 ^ 32 := by omega
  rw [BitVec.toNat_or, BitVec.toNat_ofNat, BitVec.toNat_ofNat, Nat.mod_eq_of_lt h1, Nat.mod_eq_of_lt h2, e2]
  congr 1; omega

/-- An element with just its value's bytes. -/
def eGood (e : List UInt8) : Prop := ∃ t nm d, e = t :: (nm ++ 0 :: d) ∧ eParts e = some (t, nm, d) ∧ vGet t.toNat d = some d.length
theorem take_nul {r : List UInt8} {i : Nat} (h : nul r = some i) : r = r.take i ++ 0 :: r.drop (i + 1) := by
  obtain ⟨h1, h2, _⟩ := nul_lt h
  rw [List.getElem?_eq_getElem h1] at h2
  injection h2 with h2
  have := List.take_append_drop i r
  rw [List.drop_eq_getElem_cons h1, h2] at this
  exact this.symm
theorem eGood_of {l : List UInt8} {m : Nat} (h : eGet l = some m) (hk : eOk (l.take m) = true) : eGood (l.take m) := by
  obtain ⟨t, r, i, n, rfl, hn, hv, rfl, hle, hp⟩ := eParts_take h
  unfold eOk at hk
  simp only [hp] at hk
  cases hg : vGet (t.toNat : Int) ((r.drop (i + 1)).take n) with
  | none => rw [hg] at hk; cases hk
  | some q =>
    have hq := vGet_cut hv (by rw [List.length_drop]; omega) hg
    subst hq
    refine ⟨t, r.take i, (r.drop (i + 1)).take q, ?_, hp, ?_⟩
    · have h1 := take_nul hn
      have h2 : (t :: r).take (i + 2 + q) = t :: (r.take (i + 1 + q)) := by rw [show i + 2 + q = (i + 1 + q) + 1 by omega, List.take_succ_cons]
      rw [h2]
      congr 1
      have h3 : r.take (i + 1 + q) = (r.take i ++ 0 :: r.drop (i + 1)).take (i + 1 + q) := by rw [← h1]
      rw [h3, List.take_append]
      have hl : (r.take i).length = i := by rw [List.length_take]; omega
      rw [hl, List.take_of_length_le (by omega), show i + 1 + q - i = q + 1 by omega, List.take_succ_cons]
    · rw [hg, List.length_take, List.length_drop]; congr 1; omega
theorem elemsR_good : ∀ (f : Nat) (n : Int) (l : List UInt8), ∀ e ∈ (elemsR f n l).1, eGood e
  | 0, n, l, e, h => by simp [elemsR] at h
  | f + 1, n, l, e, h => by
    simp only [elemsR] at h
    split at h
    · simp at h
    · split at h
      · simp at h
      · rename_i m hm
        split at h
        · rename_i hk
          simp only [List.mem_cons] at h
          rcases h with rfl | h
          · exact eGood_of hm hk
          · exact elemsR_good f _ _ e h
        · simp at h
theorem elemsR_split : ∀ (f : Nat) (n : Int) (l : List UInt8), l.length < f → (elemsR f n l).2 = true → l = (elemsR f n l).1.flatten ++ elemsT f n l ∧ n - (elemsR f n l).1.flatten.length ≤ 1
  | 0, n, l, h, _ => by omega
  | f + 1, n, l, h, h2 => by
    simp only [elemsR, elemsT] at h2 ⊢
    by_cases hn : n ≤ 1
    · rw [if_pos hn, if_pos hn]; simp; omega
    · rw [if_neg hn] at h2
      rw [if_neg hn, if_neg hn]
      cases hm : eGet l with
      | none => rw [hm] at h2; simp at h2
      | some m =>
        rw [hm] at h2
        simp only at h2 ⊢
        have hle := eGet_le hm
        split at h2
        · rename_i hk
          obtain ⟨i1, i2⟩ := elemsR_split f (n - m) (l.drop m) (by rw [List.length_drop]; omega) h2
          simp only [hk, if_true, List.flatten_cons, List.append_assoc, List.length_append, List.length_take]
          refine ⟨?_, by omega⟩
          rw [← i1, List.take_append_drop]
        · cases h2
end Go.Proofs.YtdnfnobgeddbfaaDoor.Abs

/- What the reference's small functions compute: plain texts, digits, kinds, numbers, heads. -/
namespace Go.Proofs.YtdnfnobgeddbfaaDoor.Abs
set_option linter.all false
open Go.Proofs
set_option linter.unusedVariables false
set_option linter.unusedSimpArgs false
set_option maxRecDepth 100000
set_option maxHeartbeats 4000000

theorem l_DocPlain : ∀ (rest pre : List UInt8) (st : St), st.s 0 = .str (pre ++ rest) → st.s 3 = .int .i64 pre.length → (pre ++ rest).length ≤ maxLen → ∀ Q : Ex × St → Prop,
    (plainL rest = true → ∀ st' : St, st'.h = st.h → Q (.exit 0, st')) → (plainL rest = false → ∀ st' : St, st'.h = st.h → st'.s 2 = .bool false → Q (.ret, st')) → LoopR fns lc13_0 st Q
  | [], pre, st, h0, h3, hl, Q, hA, hB => by
    refine loopω_run fns ?_
    simp [h0, h3]
    exact hA rfl _ rfl
  | c :: rest, pre, st, h0, h3, hl, Q, hA, hB => by
    refine loopω_run fns ?_
    have hd : (pre.length : Int) < pre.length + (rest.length + 1) := by omega
    by_cases hc : c = 0
    · simp [h0, h3, hc, hd]
      exact hB (by simp [hc, plainL]) _ rfl rfl
    · have hc' : ¬ c.toNat = 0 := fun e => hc (UInt8.toNat_inj.1 e)
      have hw : IntKind.i64.wrap ((pre.length : Int) + 1) = pre.length + 1 := wrap_i64 (by omega) (by simp [maxLen] at hl; omega)
      simp [h0, h3, hc', hw, hd]
      refine l_DocPlain rest (pre ++ [c]) _ ?_ ?_ ?_ Q ?_ ?_
      · simp [h0]
      · simp
      · simpa using hl
      · exact fun h => hA (by simp [hc, h, plainL])
      · exact fun h => hB (by simp [hc, h, plainL])
theorem c_DocPlain (s : List UInt8) (hl : s.length ≤ maxLen) : ∀ hE : H, callω fns 13 [.str s] hE = some (.bool (plainL s), hE) := by
  intro hE
  refine run13 (Nat.le_of_ble_eq_true rfl) ?_
  simp 
  refine l_DocPlain s [] _ ?_ ?_ hl _ (fun h st' e => ?_) (fun h st' e h2 => ?_)
  · simp
  · simp
  · simp [h, e]
  · simp [h, e, h2]

theorem digL_length : ∀ m n : Nat, n ≤ m → (digL n).length ≤ n + 1 := by
  intro m
  induction m with
  | zero => intro n hn; obtain rfl : n = 0 := (by omega); rw [digL]; simp
  | succ m ih =>
    intro n hn; rw [digL]
    by_cases h : n < 10
    · rw [if_pos h]; simp
    · rw [if_neg h]; simp; have := ih (n / 10) (by omega); omega
theorem dig_byte {k : Nat} (hk : k < 10) : UInt8.ofNat (IntKind.u8.wrap (IntKind.i64.wrap (48 + (k : Int)))).toNat = UInt8.ofNat (48 + k) := by
  have h1 : IntKind.u8.wrap (48 + (k : Int)) = ((48 + k : Nat) : Int) := by
    simp [IntKind.wrap, IntKind.signed, IntKind.bits]; omega
  rw [wrap_i64 (by omega) (by omega), h1, Int.toNat_natCast]
theorem c_DocDigits : ∀ (m n : Nat), n ≤ m → n ≤ 4611686018427387904 → ∀ hE : H, callω fns 66 [.int .i64 n] hE = some (.str (digL n), hE) := by
  intro m
  induction m with
  | zero =>
    intro n h1 h2
    obtain rfl : n = 0 := by omega
    intro hE
    refine run66 (Nat.le_of_ble_eq_true rfl) ?_
    simp [cvBS, bytesOf, IntKind.wrap, IntKind.signed, IntKind.bits, digL]
  | succ m ih =>
    intro n h1 h2
    intro hE
    refine run66 (Nat.le_of_ble_eq_true rfl) ?_
    by_cases h : n < 10
    · have h' : (n : Int) < 10 := by omega
      have hb := dig_byte h
      rw [digL, if_pos h]
      skip
      simp [cvBS, bytesOf, h', -UInt8.ofNat_add]
      exact hb
    · have h' : ¬ (n : Int) < 10 := by omega
      have hq : (n : Int).tdiv 10 = ((n / 10 : Nat) : Int) := by simp [Int.tdiv]
      have hr : (n : Int).tmod 10 = ((n % 10 : Nat) : Int) := by simp [Int.tmod]
      have hw : IntKind.i64.wrap ((n / 10 : Nat) : Int) = ((n / 10 : Nat) : Int) := wrap_i64 (by omega) (by omega)
      have hb := dig_byte (Nat.mod_lt n (show 10 > 0 by omega))
      have hl := digL_length (n / 10) (n / 10) (Nat.le_refl _)
      have hc := ih (n / 10) (by omega) (by omega)
      have hm : (digL (n / 10)).length + 1 ≤ maxLen := by simp only [maxLen]; omega
      rw [digL, if_neg h]
      skip
      simp only [← hb]
      simp [cvBS, bytesOf, h', hq, hr, hw, hc, hm, -UInt8.ofNat_add, -Int.natCast_ediv, -Int.natCast_emod]

theorem c_DocKnown (k : Int) : ∀ hE : H, callω fns 64 [.int .i64 k] hE = some (.bool (knownK k), hE) := by
  intro hE
  refine run64 (Nat.le_of_ble_eq_true rfl) ?_
  by_cases h1 : 1 ≤ k <;> by_cases h2 : k ≤ 19 <;> by_cases h3 : k = 255 <;> by_cases h4 : k = 127 <;>
  simp [knownK, h1, h2, h3, h4]

theorem c_DocInt32 (b : BS) (n : Int) (h : b.l.length ≤ 1073741824) : ∀ hE : H, callω fns 51 [b.av 5, .int .i64 n] hE = some ((b.app (le32 n)).av 5, hE) := by
  intro hE
  refine run51 (Nat.le_of_ble_eq_true rfl) ?_
  have h8 : n.fdiv 256 = n / 256 := shr_i64 n 8
  have h16 : n.fdiv 65536 = n / 65536 := shr_i64 n 16
  have h24 : n.fdiv 16777216 = n / 16777216 := shr_i64 n 24
  have hap : ∀ hp : H, apV hp 5 1 1 false (b.av 5) (.slice (.own true) 5 1 [.int .u8 ((byteOf n).toNat : Int), .int .u8 ((byteOf (n / 256)).toNat : Int), .int .u8 ((byteOf (n / 65536)).toNat : Int), .int .u8 ((byteOf (n / 16777216)).toNat : Int)]) = some ((b.app (le32 n)).av 5) := fun hp => apV_l4 (by simp only [tooLong]; omega)
  simp [aShift, IntKind.bits, u8_wrap, hap, h8, h16, h24]

theorem l_DocInt64 {st : St} {b : BS} {n : Int} {k : Nat} {Q : Ex × St → Prop} (h0 : st.s 0 = b.av 5) (h1 : st.s 1 = .int .u64 n) (h5 : st.s 5 = .int .i64 k) (hk : k < 64) (hb : b.l.length ≤ 1073741900)
    (h : ∀ st' : St, st'.h = st.h → st'.s 0 = (b.app [byteOf (n / 2 ^ k)]).av 5 → st'.s 1 = .int .u64 n → st'.s 5 = .int .i64 ((k + 8 : Nat) : Int) → LoopR fns lc49_0 st' Q) : LoopR fns lc49_0 st Q := by
  refine loopω_run fns ?_
  have hd : (k : Int) < 64 := by omega
  have hm : min k 64 = k := by omega
  have hw : IntKind.i64.wrap ((k : Int) + 8) = k + 8 := wrap_i64 (by omega) (by omega)
  have hn : ¬ ((k : Int) < 0) := by omega
  have hap : ∀ hp : H, apV hp 5 1 1 false (b.av 5) (.slice (.own true) 5 1 [.int .u8 ((byteOf (n / 2 ^ k)).toNat : Int)]) = some ((b.app [byteOf (n / 2 ^ k)]).av 5) := fun hp => apV_l1 (by simp only [tooLong]; omega)
  simp [h0, h1, h5, hd, aShift, hn, IntKind.bits, hm, shr_i64, u8_wrap, hap, hw]
  refine h _ rfl ?_ ?_ ?_ <;> simp [h1]
theorem c_DocInt64 (b : BS) (n : Int) (h : b.l.length ≤ 1073741824) : ∀ hE : H, callω fns 49 [b.av 5, .int .u64 n] hE = some ((b.app (le64 n)).av 5, hE) := by
  intro hE
  refine run49 (Nat.le_of_ble_eq_true rfl) ?_
  simp 
  refine l_DocInt64 (b := b) (n := n) (k := 0) (by simp) (by simp) (by simp) (by omega) (by omega) fun s1 z1 a1 b1 c1 => ?_
  refine l_DocInt64 a1 b1 c1 (by omega) (by simp [BS.l_app]; omega) fun s2 z2 a1 b1 c1 => ?_
  refine l_DocInt64 a1 b1 c1 (by omega) (by simp [BS.l_app]; omega) fun s3 z3 a1 b1 c1 => ?_
  refine l_DocInt64 a1 b1 c1 (by omega) (by simp [BS.l_app]; omega) fun s4 z4 a1 b1 c1 => ?_
  refine l_DocInt64 a1 b1 c1 (by omega) (by simp [BS.l_app]; omega) fun s5 z5 a1 b1 c1 => ?_
  refine l_DocInt64 a1 b1 c1 (by omega) (by simp [BS.l_app]; omega) fun s6 z6 a1 b1 c1 => ?_
  refine l_DocInt64 a1 b1 c1 (by omega) (by simp [BS.l_app]; omega) fun s7 z7 a1 b1 c1 => ?_
  refine l_DocInt64 a1 b1 c1 (by omega) (by simp [BS.l_app]; omega) fun s8 z8 a1 b1 c1 => ?_
  refine loopω_run fns ?_
  simp [c1, a1, BS.app_app, le64, z8, z7, z6, z5, z4, z3, z2, z1]

theorem c_docText (b : BS) (s : List UInt8) (h : b.l.length + s.length ≤ 1073741000) : ∀ hE : H, callω fns 50 [b.av 5, .str s] hE = some ((b.app (txtL s)).av 5, hE) := by
  intro hE
  refine run50 (Nat.le_of_ble_eq_true rfl) ?_
  have hw : IntKind.i64.wrap ((s.length : Int) + 1) = s.length + 1 := wrap_i64 (by omega) (by omega)
  simp (disch := first | (((try simp only [BS.l_app, BS.sh_l, BS.l_mk, List.length_append, List.length_cons, List.length_nil, le32_length, le64_length, txtL_length, hdL_length, tooLong]) <;> omega); done) | fail) [hw, c_DocInt32, apV_str, apV_l0, BS.app_app, txtL]

theorem c_DocHead (k : Int) (s : List UInt8) (h : s.length ≤ 1073741000) : ∀ hE : H, callω fns 26 [.int .i64 k, .str s] hE = some ((BS.mk (hdL k s)).av 5, hE) := by
  intro hE
  refine run26 (Nat.le_of_ble_eq_true rfl) ?_
  have h1 : ∀ c : UInt8, AV.slice (.own true) 5 1 [.int .u8 (c.toNat : Int)] = (BS.mk [c]).av 5 := fun _ => rfl
  simp (disch := first | (((try simp only [BS.l_app, BS.sh_l, BS.l_mk, List.length_append, List.length_cons, List.length_nil, le32_length, le64_length, txtL_length, hdL_length, tooLong]) <;> omega); done) | fail) [u8_wrap, h1, apV_str, apV_l0, BS.mk_app, hdL]
end Go.Proofs.YtdnfnobgeddbfaaDoor.Abs
