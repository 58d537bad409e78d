/- EB11, EDoc1, EDoc2, EDoc3, EDoc4 -/
import Derived.Test.YtdnfnobgeddbfaaDoorEB7
import Derived.Test.YtdnfnobgeddbfaaDoorA28
import Derived.Test.YtdnfnobgeddbfaaDoorFFnBindLookup
/- Names that lead into a right document: the upper layers. -/
namespace Go.Proofs.YtdnfnobgeddbfaaDoor.Abs
set_option linter.all false
open Go.Proofs
set_option linter.unusedVariables false
set_option linter.unusedSimpArgs false
set_option maxRecDepth 100000
set_option maxHeartbeats 8000000

theorem lookE_cases (s : Nat → Nat × Nat) (p : List (List UInt8)) (v : Tr) (a : List UInt8) : (if p = [] then AV.nilI else if v.kind = 3 ∨ v.kind = 4 then lookE s p v.kids else xDep a v.kind) = .nilI ∨
    (if p = [] then AV.nilI else if v.kind = 3 ∨ v.kind = 4 then lookE s p v.kids else xDep a v.kind) = sE (s 1) ∨ ∃ x k, (if p = [] then AV.nilI else if v.kind = 3 ∨ v.kind = 4 then lookE s p v.kids else xDep a v.kind) = xDep x k := by
  by_cases hp : p = []
  · rw [if_pos hp]; exact .inl rfl
  · rw [if_neg hp]
    by_cases hk : v.kind = 3 ∨ v.kind = 4
    · rw [if_pos hk]
      rcases look_cases s p v.kids hp with ⟨_, h | h⟩ | ⟨_, _, h⟩
      · exact .inr (.inl h)
      · exact .inr (.inr h)
      · exact .inl h
    · rw [if_neg hk]; exact .inr (.inr ⟨_, _, rfl⟩)
def lookK (o : Option Tr) : Int := match o with | some v => v.kind | none => 0
def lookB (o : Option Tr) : Option (List UInt8) := match o with | some v => some v.val | none => none
theorem lookV_eq (o : Option Tr) : lookV o = [.int .u8 (lookK o), bAV 5 (lookB o)] := by cases o <;> rfl
theorem lookV_cases (o : Option Tr) : ∃ k b, lookV o = [.int .u8 k, bAV 5 b] := ⟨_, _, lookV_eq o⟩
theorem c_LookupErr {s : Nat → Nat × Nat} : ∀ (p : List (List UInt8)), p ≠ [] → p.length ≤ 1000 → ∀ ks : Ks, ks.good → ks.sz ≤ 90000 → ∀ hE : H, Sens hE.Γ s →
    callω fns 55 [bAV 5 (some ks.doc), (strsR p).fv 9 1] hE = some (.tup [.agg (lookV (lookT p ks)), lookE s p ks], hE)
  | [], h, _, _, _, _, _, _ => absurd rfl h
  | a :: p, _, hpl, K, hg, hs, hE, hS => by
    have hrec : p ≠ [] → ∀ ks : Ks, ks.good → ks.sz ≤ 90000 → ∀ hE : H, Sens hE.Γ s → callω fns 55 [bAV 5 (some ks.doc), (strsR p).fv 9 1] hE = some (.tup [.agg (lookV (lookT p ks)), lookE s p ks], hE) :=
      fun hp ks h1 h2 hE hS => c_LookupErr p hp (by simp at hpl; omega) ks h1 h2 hE hS
    have hsr := SR1_of a p
    generalize strsR p = b' at *
    generalize strsR (a :: p) = b at *
    obtain ⟨n1, n2⟩ := doc_num K (by omega)
    have hlen := Ks.doc_length K
    have hb := Ks.body_le K
    have hsz : K.sz = K.nb + 18 * K.nodes := rfl
    have hR := c_RLen (some K.doc)
    simp only [bl] at hR
    have hk : okL K.doc = true := by unfold okL; rw [n1, hlen]; simp; omega
    rw [n1, hk, rest4_some (by omega), n2] at hR
    have b2 := hsr.len
    have hp1 : ¬ (((p.length + 1 : Nat) : Int) < 1) := by omega
    have w1 : IntKind.i32.wrap ((K.body.length : Int) + 5 - 4) = K.body.length + 1 := by rw [i32_small (by omega) (by omega)]; omega
    simp only [lookT, lookE]
    have hg1 := hS.g1
    simp only [sE] at hg1
    generalize ((p.length + 1 : Nat) : Int) = PL at *
    refine run55 (Nat.le_of_ble_eq_true rfl) ?_
    simp [hR, b2, hp1, w1, ex3_0, ex3_1, ex3_2]
    refine l_Lookup (K := K) (p := p) hsr (by simp at hpl; omega) hrec K _ ?_ ?_ ?_ ?_ ?_ ?_ ?_ ?_ hg (by omega) ?_ _ (fun hf st' q1 q2 q3 => ?_) (fun v hf st' q1 q2 q3 q4 => ?_)
    · simp
    · simp
    · simp
    · simp
    · simp
    · simp
    · simp
    · simp
    · exact hS
    · rw [hf]
      simp [q1, q2, q3, hg1, glV, sE, lookV]
    · rw [hf]
      simp only
      have h5 := lookE_cases s p v a
      obtain ⟨k, o, hlv⟩ := lookV_cases (if p = [] then some v else if v.kind = 3 ∨ v.kind = 4 then lookT p v.kids else none)
      rw [hlv] at q3 ⊢
      generalize (if p = [] then AV.nilI else if v.kind = 3 ∨ v.kind = 4 then lookE s p v.kids else xDep a v.kind) = E5 at *
      rcases h5 with rfl | rfl | ⟨x, k, rfl⟩ <;> (try simp only [sE, xDep] at q4 ⊢) <;> simp [q1, q2, q3, q4]

theorem c_RawLookup {s : Nat → Nat × Nat} (p : List (List UInt8)) (hp : p ≠ []) (hl : p.length ≤ 1000) (ks : Ks) (hg : ks.good) (hs : ks.sz ≤ 90000) (hv0 : 0 ≤ lookK (lookT p ks) ∧ lookK (lookT p ks) < 256) (hv1 : (bl (lookB (lookT p ks))).length < 2147483648) :
    ∃ c : Int, (c = 0 ↔ (lookT p ks).isSome = true) ∧ ∀ hE : H, Sens hE.Γ s → callω fns 14 [bAV 5 (some ks.doc), (strsR p).fv 9 1] hE =
      some (.tup [.agg [.int .i64 (lookK (lookT p ks)), bAV 5 (oB (bl (lookB (lookT p ks))))], .int .i64 c], hE) := by
  have h := c_LookupErr (s := s) p hp hl ks hg hs
  have hcs := look_cases s p ks hp
  rw [lookV_eq] at h
  have hf := c_fromCore (lookK (lookT p ks)) (lookB (lookT p ks))
  have hso := c_some1 (lookK (lookT p ks)) hv0.1 hv0.2 (lookB (lookT p ks)) hv1
  have hsome : (lookT p ks).isSome = true ↔ ∃ w, lookT p ks = some w := by cases lookT p ks <;> simp
  generalize lookK (lookT p ks) = k at *
  generalize lookB (lookT p ks) = o at *
  generalize strsR p = b at *
  have hgo : ∀ (V : AV) (c : Int), lookE s p ks = V → (V = .nilI ∨ V = sE (s 1) ∨ ∃ x k, V = xDep x k) → (∀ hE : H, Sens hE.Γ s → callω fns 31 [V] hE = some (.int .i64 c, hE)) → ∀ hE : H, Sens hE.Γ s → callω fns 14 [bAV 5 (some ks.doc), b.fv 9 1] hE =
      some (.tup [.agg [.int .i64 k, bAV 5 (oB (bl o))], .int .i64 c], hE) := by
    intro V c hV hc hcode hE hS
    rw [hV] at h
    have h2 : ∀ hE : H, Sens hE.Γ s → callω fns 36 [bAV 5 (some ks.doc), b.fv 9 1] hE = some (.tup [.agg [.int .u8 k, bAV 5 o], V], hE) := by
      intro hE hS
      have h1 := h hE.mask hS
      refine run36 (Nat.le_of_ble_eq_true rfl) ?_
      rcases hc with rfl | rfl | ⟨x, k', rfl⟩ <;> (try simp only [sE, xDep] at h1 ⊢) <;> simp [h1, hf, ex2_0, ex2_1]
    have h3 := h2 hE.mask hS
    have h4 := hcode hE.mask hS
    refine run14 (Nat.le_of_ble_eq_true rfl) ?_
    rcases hc with rfl | rfl | ⟨x, k', rfl⟩ <;> (try simp only [sE, xDep] at h3 h4 ⊢) <;> simp [h3, h4, hso, ex2_0, ex2_1]
  rcases hcs with ⟨hn, h5 | ⟨x, k', h5⟩⟩ | ⟨w, hw, h5⟩
  · exact ⟨7, by rw [hn]; simp, hgo _ 7 h5 (.inr (.inl rfl)) fun hE hS => c_code_sen (i := 1) (by omega) hS⟩
  · exact ⟨10, by rw [hn]; simp, hgo _ 10 h5 (.inr (.inr ⟨_, _, rfl⟩)) fun hE _ => c_code_dep x k' hE⟩
  · exact ⟨0, by rw [hw]; simp, hgo _ 0 h5 (.inl rfl) fun hE _ => c_code_nil hE⟩
end Go.Proofs.YtdnfnobgeddbfaaDoor.Abs

/- What the reference's small functions compute: plain texts, digits, kinds, numbers, heads. -/
namespace Go.Proofs.YtdnfnobgeddbfaaDoor.Abs
set_option linter.all false
open Go.Proofs
set_option linter.unusedVariables false
set_option linter.unusedSimpArgs false
set_option maxRecDepth 100000
set_option maxHeartbeats 4000000

theorem l_DocPlain : ∀ (rest pre : List UInt8) (st : St), st.s 0 = .str (pre ++ rest) → st.s 3 = .int .i64 pre.length → (pre ++ rest).length ≤ maxLen → ∀ Q : Ex × St → Prop,
    (plainL rest = true → ∀ st' : St, st'.h = st.h → Q (.exit 0, st')) → (plainL rest = false → ∀ st' : St, st'.h = st.h → st'.s 2 = .bool false → Q (.ret, st')) → LoopR fns lc13_0 st Q
  | [], pre, st, h0, h3, hl, Q, hA, hB => by
    refine loopω_run fns ?_
    simp [h0, h3]
    exact hA rfl _ rfl
  | c :: rest, pre, st, h0, h3, hl, Q, hA, hB => by
    refine loopω_run fns ?_
    have hd : (pre.length : Int) < pre.length + (rest.length + 1) := by omega
    by_cases hc : c = 0
    · simp [h0, h3, hc, hd]
      exact hB (by simp [hc, plainL]) _ rfl rfl
    · have hc' : ¬ c.toNat = 0 := fun e => hc (UInt8.toNat_inj.1 e)
      have hw : IntKind.i64.wrap ((pre.length : Int) + 1) = pre.length + 1 := wrap_i64 (by omega) (by simp [maxLen] at hl; omega)
      simp [h0, h3, hc', hw, hd]
      refine l_DocPlain rest (pre ++ [c]) _ ?_ ?_ ?_ Q ?_ ?_
      · simp [h0]
      · simp
      · simpa using hl
      · exact fun h => hA (by simp [hc, h, plainL])
      · exact fun h => hB (by simp [hc, h, plainL])
theorem c_DocPlain (s : List UInt8) (hl : s.length ≤ maxLen) : ∀ hE : H, callω fns 13 [.str s] hE = some (.bool (plainL s), hE) := by
  intro hE
  refine run13 (Nat.le_of_ble_eq_true rfl) ?_
  simp 
  refine l_DocPlain s [] _ ?_ ?_ hl _ (fun h st' e => ?_) (fun h st' e h2 => ?_)
  · simp
  · simp
  · simp [h, e]
  · simp [h, e, h2]

theorem digL_length : ∀ m n : Nat, n ≤ m → (digL n).length ≤ n + 1 := by
  intro m
  induction m with
  | zero => intro n hn; obtain rfl : n = 0 := (by omega); rw [digL]; simp
  | succ m ih =>
    intro n hn; rw [digL]
    by_cases h : n < 10
    · rw [if_pos h]; simp
    · rw [if_neg h]; simp; have := ih (n / 10) (by omega); omega
theorem dig_byte {k : Nat} (hk : k < 10) : UInt8.ofNat (IntKind.u8.wrap (IntKind.i64.wrap (48 + (k : Int)))).toNat = UInt8.ofNat (48 + k) := by
  have h1 : IntKind.u8.wrap (48 + (k : Int)) = ((48 + k : Nat) : Int) := by
    simp [IntKind.wrap, IntKind.signed, IntKind.bits]; omega
  rw [wrap_i64 (by omega) (by omega), h1, Int.toNat_natCast]
theorem c_DocDigits : ∀ (m n : Nat), n ≤ m → n ≤ 4611686018427387904 → ∀ hE : H, callω fns 66 [.int .i64 n] hE = some (.str (digL n), hE) := by
  intro m
  induction m with
  | zero =>
    intro n h1 h2
    obtain rfl : n = 0 := by omega
    intro hE
    refine run66 (Nat.le_of_ble_eq_true rfl) ?_
    simp [cvBS, bytesOf, IntKind.wrap, IntKind.signed, IntKind.bits, digL]
  | succ m ih =>
    intro n h1 h2
    intro hE
    refine run66 (Nat.le_of_ble_eq_true rfl) ?_
    by_cases h : n < 10
    · have h' : (n : Int) < 10 := by omega
      have hb := dig_byte h
      rw [digL, if_pos h]
      skip
      simp [cvBS, bytesOf, h', -UInt8.ofNat_add]
      exact hb
    · have h' : ¬ (n : Int) < 10 := by omega
      have hq : (n : Int).tdiv 10 = ((n / 10 : Nat) : Int) := by simp [Int.tdiv]
      have hr : (n : Int).tmod 10 = ((n % 10 : Nat) : Int) := by simp [Int.tmod]
      have hw : IntKind.i64.wrap ((n / 10 : Nat) : Int) = ((n / 10 : Nat) : Int) := wrap_i64 (by omega) (by omega)
      have hb := dig_byte (Nat.mod_lt n (show 10 > 0 by omega))
      have hl := digL_length (n / 10) (n / 10) (Nat.le_refl _)
      have hc := ih (n / 10) (by omega) (by omega)
      have hm : (digL (n / 10)).length + 1 ≤ maxLen := by simp only [maxLen]; omega
      rw [digL, if_neg h]
      skip
      simp only [← hb]
      simp [cvBS, bytesOf, h', hq, hr, hw, hc, hm, -UInt8.ofNat_add, -Int.natCast_ediv, -Int.natCast_emod]

theorem c_DocKnown (k : Int) : ∀ hE : H, callω fns 64 [.int .i64 k] hE = some (.bool (knownK k), hE) := by
  intro hE
  refine run64 (Nat.le_of_ble_eq_true rfl) ?_
  by_cases h1 : 1 ≤ k <;> by_cases h2 : k ≤ 19 <;> by_cases h3 : k = 255 <;> by_cases h4 : k = 127 <;>
  simp [knownK, h1, h2, h3, h4]

theorem c_DocInt32 (b : BS) (n : Int) (h : b.l.length ≤ 1073741824) : ∀ hE : H, callω fns 51 [b.av 5, .int .i64 n] hE = some ((b.app (le32 n)).av 5, hE) := by
  intro hE
  refine run51 (Nat.le_of_ble_eq_true rfl) ?_
  have h8 : n.fdiv 256 = n / 256 := shr_i64 n 8
  have h16 : n.fdiv 65536 = n / 65536 := shr_i64 n 16
  have h24 : n.fdiv 16777216 = n / 16777216 := shr_i64 n 24
  have hap : ∀ hp : H, apV hp 5 1 1 false (b.av 5) (.slice (.own true) 5 1 [.int .u8 ((byteOf n).toNat : Int), .int .u8 ((byteOf (n / 256)).toNat : Int), .int .u8 ((byteOf (n / 65536)).toNat : Int), .int .u8 ((byteOf (n / 16777216)).toNat : Int)]) = some ((b.app (le32 n)).av 5) := fun hp => apV_l4 (by simp only [tooLong]; omega)
  simp [aShift, IntKind.bits, u8_wrap, hap, h8, h16, h24]

theorem l_DocInt64 {st : St} {b : BS} {n : Int} {k : Nat} {Q : Ex × St → Prop} (h0 : st.s 0 = b.av 5) (h1 : st.s 1 = .int .u64 n) (h5 : st.s 5 = .int .i64 k) (hk : k < 64) (hb : b.l.length ≤ 1073741900)
    (h : ∀ st' : St, st'.h = st.h → st'.s 0 = (b.app [byteOf (n / 2 ^ k)]).av 5 → st'.s 1 = .int .u64 n → st'.s 5 = .int .i64 ((k + 8 : Nat) : Int) → LoopR fns lc49_0 st' Q) : LoopR fns lc49_0 st Q := by
  refine loopω_run fns ?_
  have hd : (k : Int) < 64 := by omega
  have hm : min k 64 = k := by omega
  have hw : IntKind.i64.wrap ((k : Int) + 8) = k + 8 := wrap_i64 (by omega) (by omega)
  have hn : ¬ ((k : Int) < 0) := by omega
  have hap : ∀ hp : H, apV hp 5 1 1 false (b.av 5) (.slice (.own true) 5 1 [.int .u8 ((byteOf (n / 2 ^ k)).toNat : Int)]) = some ((b.app [byteOf (n / 2 ^ k)]).av 5) := fun hp => apV_l1 (by simp only [tooLong]; omega)
  simp [h0, h1, h5, hd, aShift, hn, IntKind.bits, hm, shr_i64, u8_wrap, hap, hw]
  refine h _ rfl ?_ ?_ ?_ <;> simp [h1]
theorem c_DocInt64 (b : BS) (n : Int) (h : b.l.length ≤ 1073741824) : ∀ hE : H, callω fns 49 [b.av 5, .int .u64 n] hE = some ((b.app (le64 n)).av 5, hE) := by
  intro hE
  refine run49 (Nat.le_of_ble_eq_true rfl) ?_
  simp 
  refine l_DocInt64 (b := b) (n := n) (k := 0) (by simp) (by simp) (by simp) (by omega) (by omega) fun s1 z1 a1 b1 c1 => ?_
  refine l_DocInt64 a1 b1 c1 (by omega) (by simp [BS.l_app]; omega) fun s2 z2 a1 b1 c1 => ?_
  refine l_DocInt64 a1 b1 c1 (by omega) (by simp [BS.l_app]; omega) fun s3 z3 a1 b1 c1 => ?_
  refine l_DocInt64 a1 b1 c1 (by omega) (by simp [BS.l_app]; omega) fun s4 z4 a1 b1 c1 => ?_
  refine l_DocInt64 a1 b1 c1 (by omega) (by simp [BS.l_app]; omega) fun s5 z5 a1 b1 c1 => ?_
  refine l_DocInt64 a1 b1 c1 (by omega) (by simp [BS.l_app]; omega) fun s6 z6 a1 b1 c1 => ?_
  refine l_DocInt64 a1 b1 c1 (by omega) (by simp [BS.l_app]; omega) fun s7 z7 a1 b1 c1 => ?_
  refine l_DocInt64 a1 b1 c1 (by omega) (by simp [BS.l_app]; omega) fun s8 z8 a1 b1 c1 => ?_
  refine loopω_run fns ?_
  simp [c1, a1, BS.app_app, le64, z8, z7, z6, z5, z4, z3, z2, z1]

theorem c_docText (b : BS) (s : List UInt8) (h : b.l.length + s.length ≤ 1073741000) : ∀ hE : H, callω fns 50 [b.av 5, .str s] hE = some ((b.app (txtL s)).av 5, hE) := by
  intro hE
  refine run50 (Nat.le_of_ble_eq_true rfl) ?_
  have hw : IntKind.i64.wrap ((s.length : Int) + 1) = s.length + 1 := wrap_i64 (by omega) (by omega)
  simp (disch := first | (((try simp only [BS.l_app, BS.sh_l, BS.l_mk, List.length_append, List.length_cons, List.length_nil, le32_length, le64_length, txtL_length, hdL_length, tooLong]) <;> omega); done) | fail) [hw, c_DocInt32, apV_str, apV_l0, BS.app_app, txtL]

theorem c_DocHead (k : Int) (s : List UInt8) (h : s.length ≤ 1073741000) : ∀ hE : H, callω fns 26 [.int .i64 k, .str s] hE = some ((BS.mk (hdL k s)).av 5, hE) := by
  intro hE
  refine run26 (Nat.le_of_ble_eq_true rfl) ?_
  have h1 : ∀ c : UInt8, AV.slice (.own true) 5 1 [.int .u8 (c.toNat : Int)] = (BS.mk [c]).av 5 := fun _ => rfl
  simp (disch := first | (((try simp only [BS.l_app, BS.sh_l, BS.l_mk, List.length_append, List.length_cons, List.length_nil, le32_length, le64_length, txtL_length, hdL_length, tooLong]) <;> omega); done) | fail) [u8_wrap, h1, apV_str, apV_l0, BS.mk_app, hdL]
end Go.Proofs.YtdnfnobgeddbfaaDoor.Abs

/- How many values there are, how many bytes: what the laws' own functions compute. -/
namespace Go.Proofs.YtdnfnobgeddbfaaDoor.Abs
set_option linter.all false
open Go.Proofs
set_option linter.unusedVariables false
set_option linter.unusedSimpArgs false
set_option maxRecDepth 100000
set_option maxHeartbeats 4000000

theorem take8 {eB eE : Nat} (v : Tr) (l : List AV) : (v.cells eB eE ++ l).take 8 = v.cells eB eE := by
  rw [← Tr.cells_length eB eE v, List.take_left]
theorem len8 {eB eE : Nat} (v : Tr) (l : List AV) : 8 ≤ (v.cells eB eE ++ l).length := by
  rw [List.length_append, Tr.cells_length]; omega

mutual
theorem c_docCount : ∀ (v : Tr) (most : Int), v.wf → 0 ≤ most → most ≤ 4611686018427387904 → ∀ hE : H, callω fns 27 [.agg (v.cells 5 53), .int .i64 most] hE = some (.int .i64 (v.count most), hE)
  | .mk k t m n0 bi hi b kn ks, most, hW, h1, h2 => by
    simp only [Tr.wf] at hW
    intro hE
    refine run27 (Nat.le_of_ble_eq_true rfl) ?_
    simp [Tr.cells]
    refine l_docCount ks .nil _ k t m n0 bi hi b kn 1 most ?_ ?_ ?_ ?_ ?_ (by omega) (by omega) h2 (by simpa [Ks.app] using hW.2.2.2.2.2.2.2.2.2.2.2.1) hW.2.2.2.2.2.2.2.2.2.2.2.2 _ (fun st' e h => ?_)
    · simp
    · simp
    · simp
    · simp [Ks.len]
    · simp [Tr.cells, Ks.app]
    · simp [h, e, Tr.count]
theorem l_docCount : ∀ (r pre : Ks) (st : St) (k : Int) (t m : List UInt8) (n0 bi hi : Int) (b : Option (List UInt8)) (kn : Bool) (n most : Int), st.s 1 = .int .i64 most → st.s 2 = .ptr (.loc 2) 0 → st.s 5 = .int .i64 n → st.s 6 = .int .i64 pre.len →
    st.b 2 = some (.cells (Tr.cells 5 53 (.mk k t m n0 bi hi b kn (pre.app r)))) → 1 ≤ n → n ≤ most + 1 → most ≤ 4611686018427387904 → (pre.app r).len ≤ reachBytes → r.wf →
    ∀ Q : Ex × St → Prop, (∀ st' : St, st'.h = st.h → st'.s 5 = .int .i64 (r.count n most) → Q (.exit 0, st')) → LoopR fns lc27_0 st Q
  | .nil, pre, st, k, t, m, n0, bi, hi, b, kn, n, most, h1, h2, h5, h6, hb, hn, hm, hM, hL, hW, Q, hQ => by
    refine loopω_run fns ?_
    simp only [Ks.app_nil, Tr.cells] at hb
    simp [h1, h2, h5, h6, hb]
    exact hQ _ rfl (by simp [h5, Ks.count])
  | .cons nm v r, pre, st, k, t, m, n0, bi, hi, b, kn, n, most, h1, h2, h5, h6, hb, hn, hm, hM, hL, hW, Q, hQ => by
    refine loopω_run fns ?_
    have hlt : (pre.len : Int) < ((pre.app (.cons nm v r)).len : Int) := by rw [Ks.len_app]; simp [Ks.len]; omega
    have hb' := hb
    simp only [Tr.cells] at hb'
    by_cases hc : n ≤ most
    · have hw : IntKind.i64.wrap (most - n) = most - n := wrap_i64 (by omega) (by omega)
      have hw2 : IntKind.i64.wrap ((pre.len : Int) + 1) = pre.len + 1 := by
        rw [Ks.len_app, Ks.len] at hL; simp only [reachBytes] at hL; exact wrap_i64 (by omega) (by omega)
      have hcnt := c_docCount v (most - n) hW.2.1 (by omega) (by omega)
      have hle := Tr.count_le v (most - n) (by omega)
      have hw3 : IntKind.i64.wrap (n + v.count (most - n)) = n + v.count (most - n) := wrap_i64 (by omega) (by omega)
      simp [h1, h2, h5, h6, hb', hlt, hc, Ks.av_ix, take8, len8, hw, hw2, hw3, hcnt]
      refine l_docCount r (pre.app (.cons nm v .nil)) _ k t m n0 bi hi b kn (n + v.count (most - n)) most ?_ ?_ ?_ ?_ ?_ (by omega) (by omega) hM (by simpa [Ks.app_assoc, Ks.app] using hL) hW.2.2 Q (fun st' e h => hQ st' e ?_)
      · simp [h1]
      · simp [h2]
      · simp
      · simp [Ks.len_app, Ks.len]
      · simp [Tr.cells, Ks.app_assoc, Ks.app]
      · rw [h, Ks.count, if_pos hc]
    · simp [h1, h2, h5, h6, hb', hlt, hc]
      exact hQ _ rfl (by simp [h5, Ks.count, hc])
end

theorem wrap_add_l (a b : Int) : IntKind.i64.wrap (IntKind.i64.wrap a + b) = IntKind.i64.wrap (a + b) := by
  simp only [IntKind.wrap, IntKind.signed, IntKind.bits]; simp; repeat' split
  all_goals omega
theorem wrap_add_r (a b : Int) : IntKind.i64.wrap (a + IntKind.i64.wrap b) = IntKind.i64.wrap (a + b) := by
  rw [Int.add_comm, wrap_add_l, Int.add_comm]

mutual
theorem c_docBytes : ∀ (v : Tr), v.wf → ∀ hE : H, callω fns 29 [.agg (v.cells 5 53)] hE = some (.int .i64 (IntKind.i64.wrap v.nb), hE)
  | .mk k t m n0 bi hi b kn ks, hW => by
    simp only [Tr.wf] at hW
    intro hE
    refine run29 (Nat.le_of_ble_eq_true rfl) ?_
    simp [Tr.cells, wrap_add_l, wrap_add_r]
    refine l_docBytes ks .nil _ k t m n0 bi hi b kn (t.length + m.length + (bl b).length) ?_ ?_ ?_ ?_ (by simpa [Ks.app] using hW.2.2.2.2.2.2.2.2.2.2.2.1) hW.2.2.2.2.2.2.2.2.2.2.2.2 _ (fun st' e h => ?_)
    · simp
    · simp
    · simp [Ks.len]
    · simp [Tr.cells, Ks.app]
    · simp [h, e, Tr.nb]
theorem l_docBytes : ∀ (r pre : Ks) (st : St) (k : Int) (t m : List UInt8) (n0 bi hi : Int) (b : Option (List UInt8)) (kn : Bool) (n : Nat), st.s 1 = .ptr (.loc 1) 0 → st.s 3 = .int .i64 (IntKind.i64.wrap n) → st.s 4 = .int .i64 pre.len →
    st.b 1 = some (.cells (Tr.cells 5 53 (.mk k t m n0 bi hi b kn (pre.app r)))) → (pre.app r).len ≤ reachBytes → r.wf →
    ∀ Q : Ex × St → Prop, (∀ st' : St, st'.h = st.h → st'.s 3 = .int .i64 (IntKind.i64.wrap (n + r.nb : Nat)) → Q (.exit 0, st')) → LoopR fns lc29_0 st Q
  | .nil, pre, st, k, t, m, n0, bi, hi, b, kn, n, h1, h5, h6, hb, hL, hW, Q, hQ => by
    refine loopω_run fns ?_
    simp only [Ks.app_nil, Tr.cells] at hb
    simp [h1, h5, h6, hb]
    exact hQ _ rfl (by simp [h5, Ks.nb])
  | .cons nm v r, pre, st, k, t, m, n0, bi, hi, b, kn, n, h1, h5, h6, hb, hL, hW, Q, hQ => by
    refine loopω_run fns ?_
    have hlt : (pre.len : Int) < ((pre.app (.cons nm v r)).len : Int) := by rw [Ks.len_app]; simp [Ks.len]; omega
    have hb' := hb
    simp only [Tr.cells] at hb'
    have hw2 : IntKind.i64.wrap ((pre.len : Int) + 1) = pre.len + 1 := by
      rw [Ks.len_app, Ks.len] at hL; simp only [reachBytes] at hL; exact wrap_i64 (by omega) (by omega)
    have hcnt := c_docBytes v hW.2.1
    simp [h1, h5, h6, hb', hlt, Ks.av_ix, take8, len8, hw2, hcnt, wrap_add_l, wrap_add_r]
    refine l_docBytes r (pre.app (.cons nm v .nil)) _ k t m n0 bi hi b kn (n + nm.length + v.nb) ?_ ?_ ?_ ?_ (by simpa [Ks.app_assoc, Ks.app] using hL) hW.2.2 Q (fun st' e h => hQ st' e ?_)
    · simp [h1]
    · simp
    · simp [Ks.len_app, Ks.len]
    · simp [Tr.cells, Ks.app_assoc, Ks.app]
    · rw [h]; simp only [Ks.nb]; congr 2; omega
end
end Go.Proofs.YtdnfnobgeddbfaaDoor.Abs

/- Right values: what the reference says of them. -/
namespace Go.Proofs.YtdnfnobgeddbfaaDoor.Abs
set_option linter.all false
open Go.Proofs
set_option linter.unusedVariables false
set_option linter.unusedSimpArgs false
set_option maxRecDepth 100000
set_option maxHeartbeats 8000000

theorem c_docBare (k : Int) (t m : List UInt8) (n bi hi : Int) (b : Option (List UInt8)) (kn : Bool) (ks : Ks) :
    ∀ hE : H, callω fns 65 [.agg (Tr.cells 5 53 (.mk k t m n bi hi b kn ks))] hE = some (.agg (Tr.cells 5 53 (.mk k (bareT k t) (bareM k m) (bareN k n) (bareL k bi) (bareH k hi) (bareB k b) (bareKn k kn) (bareK k ks))), hE) := by
  intro hE
  refine run65 (Nat.le_of_ble_eq_true rfl) ?_
  have e1 : bAV 5 none = AV.slice .nil 0 1 [] := rfl
  have e2 : Ks.av 5 53 .nil true = AV.slice .nil 0 1 [] := rfl
  simp [Tr.cells]
  by_cases c1 : k = 1
  · subst c1; simp [bareT, bareM, bareN, bareL, bareH, bareB, bareK, bareKn, e1, e2]
  simp [c1]
  by_cases c17 : k = 17
  · subst c17; simp [bareT, bareM, bareN, bareL, bareH, bareB, bareK, bareKn, e1, e2]
  simp [c17]
  by_cases c2 : k = 2
  · subst c2; simp [bareT, bareM, bareN, bareL, bareH, bareB, bareK, bareKn, e1, e2]
  simp [c2]
  by_cases c13 : k = 13
  · subst c13; simp [bareT, bareM, bareN, bareL, bareH, bareB, bareK, bareKn, e1, e2]
  simp [c13]
  by_cases c14 : k = 14
  · subst c14; simp [bareT, bareM, bareN, bareL, bareH, bareB, bareK, bareKn, e1, e2]
  simp [c14]
  by_cases c3 : k = 3
  · subst c3; simp [bareT, bareM, bareN, bareL, bareH, bareB, bareK, bareKn, e1, e2]
  simp [c3]
  by_cases c4 : k = 4
  · subst c4; simp [bareT, bareM, bareN, bareL, bareH, bareB, bareK, bareKn, e1, e2]
  simp [c4]
  by_cases c5 : k = 5
  · subst c5; simp [bareT, bareM, bareN, bareL, bareH, bareB, bareK, bareKn, e1, e2]
  simp [c5]
  by_cases c7 : k = 7
  · subst c7; simp [bareT, bareM, bareN, bareL, bareH, bareB, bareK, bareKn, e1, e2]
  simp [c7]
  by_cases c8 : k = 8
  · subst c8; simp [bareT, bareM, bareN, bareL, bareH, bareB, bareK, bareKn, e1, e2]
  simp [c8]
  by_cases c9 : k = 9
  · subst c9; simp [bareT, bareM, bareN, bareL, bareH, bareB, bareK, bareKn, e1, e2]
  simp [c9]
  by_cases c16 : k = 16
  · subst c16; simp [bareT, bareM, bareN, bareL, bareH, bareB, bareK, bareKn, e1, e2]
  simp [c16]
  by_cases c18 : k = 18
  · subst c18; simp [bareT, bareM, bareN, bareL, bareH, bareB, bareK, bareKn, e1, e2]
  simp [c18]
  by_cases c11 : k = 11
  · subst c11; simp [bareT, bareM, bareN, bareL, bareH, bareB, bareK, bareKn, e1, e2]
  simp [c11]
  by_cases c12 : k = 12
  · subst c12; simp [bareT, bareM, bareN, bareL, bareH, bareB, bareK, bareKn, e1, e2]
  simp [c12]
  by_cases c15 : k = 15
  · subst c15; simp [bareT, bareM, bareN, bareL, bareH, bareB, bareK, bareKn, e1, e2]
  simp [c15]
  by_cases c19 : k = 19
  · subst c19; simp [bareT, bareM, bareN, bareL, bareH, bareB, bareK, bareKn, e1, e2]
  simp [c19]
  simp [bareT, bareM, bareN, bareL, bareH, bareB, bareK, bareKn, c1, c17, c2, c13, c14, c3, c4, c5, c7, c8, c9, c16, c18, c11, c12, c15, c19]

theorem r_docRight4 {st : St} {k' : Int} {T M : List UInt8} {N L H : Int} {B : Option (List UInt8)} {K : Ks} {kn : Bool} {c : ACode} {s : List Fr} {Q : Ex × St → Prop}
    (h5 : st.s 5 = .ptr (.loc 5) 0) (hb : st.b 5 = some (.cells (Tr.cells 5 53 (.mk k' T M N L H B kn K))))
    (h : ∀ st' : St, st'.h = st.h → st'.s 52 = .bool (!(T.isEmpty && (M.isEmpty && (decide (N = 0) && (decide (L = 0) && (decide (H = 0) && (decide ((bl B).length = 0) && decide (K.len = 0)))))))) → st'.s 1 = st.s 1 → st'.s 2 = st.s 2 → st'.b 2 = st.b 2 → GoC fns Q s c st') :
    GoO fns Q s rg48_4 c st := by
  rw [org48_4]
  simp only [Tr.cells] at hb
  simp [h5, hb]
  cases hT : T.isEmpty
  · simp [hb, h5]; refine h _ rfl ?_ ?_ ?_ ?_ <;> simp [hT]
  simp [hb, h5]
  cases hM : M.isEmpty
  · simp [hb, h5]; refine h _ rfl ?_ ?_ ?_ ?_ <;> simp [hT, hM]
  simp [hb, h5]
  by_cases hN : N = 0
  case neg => simp [hb, h5, hN]; refine h _ rfl ?_ ?_ ?_ ?_ <;> simp [hT, hM, hN]
  simp [hb, h5, hN]
  by_cases hL : L = 0
  case neg => simp [hb, h5, hL]; refine h _ rfl ?_ ?_ ?_ ?_ <;> simp [hT, hM, hN, hL]
  simp [hb, h5, hL]
  by_cases hH : H = 0
  case neg => simp [hb, h5, hH]; refine h _ rfl ?_ ?_ ?_ ?_ <;> simp [hT, hM, hN, hL, hH]
  simp [hb, h5, hH]
  by_cases hB : bl B = []
  case neg => simp [hb, h5, hB]; refine h _ rfl ?_ ?_ ?_ ?_ <;> simp [hT, hM, hN, hL, hH, hB]
  simp [hb, h5, hB]
  by_cases hK : K.len = 0
  case neg => simp [hb, h5, hK]; refine h _ rfl ?_ ?_ ?_ ?_ <;> simp [hT, hM, hN, hL, hH, hB, hK]
  simp [hb, h5, hK]; refine h _ rfl ?_ ?_ ?_ ?_ <;> simp [hT, hM, hN, hL, hH, hB, hK]
end Go.Proofs.YtdnfnobgeddbfaaDoor.Abs

/- Right values, and values that are few and short enough. -/
namespace Go.Proofs.YtdnfnobgeddbfaaDoor.Abs
set_option linter.all false
open Go.Proofs
set_option linter.unusedVariables false
set_option linter.unusedSimpArgs false
set_option maxRecDepth 100000
set_option maxHeartbeats 8000000

mutual
theorem c_docRight : ∀ (v : Tr) (d : Nat), v.wf → d ≤ 1000 → ∀ hE : H, callω fns 48 [.agg (v.cells 5 53), .int .i64 d] hE = some (.bool (v.right d), hE)
  | .mk k t m n bi hi b kn ks, d, hW, hd => by
    intro hE
    refine run48 (Nat.le_of_ble_eq_true rfl) ?_
    simp only [Tr.wf] at hW
    have hbare := c_docBare k t m n bi hi b kn ks
    simp only [Tr.cells] at hbare
    have hp1 := c_DocPlain t (by have := hW.2.2.1; simp only [reachBytes] at this; simp only [maxLen]; omega)
    have hp2 := c_DocPlain m (by have := hW.2.2.2.1; simp only [reachBytes] at this; simp only [maxLen]; omega)
    simp [Tr.cells, c_DocKnown]
    cases hk : knownK k
    · simp [Tr.right, hk]
    simp
    by_cases hd0 : d = 0
    · simp [Tr.right, hd0]
    simp [hd0, hbare]
    refine r_docRight4 (k' := k) (T := bareT k t) (M := bareM k m) (N := bareN k n) (L := bareL k bi) (H := bareH k hi) (B := bareB k b) (K := bareK k ks) (kn := bareKn k kn) ?_ ?_ fun s1 a0 a1 a2 a3 a4 => ?_
    · simp
    · simp [Tr.cells]
    change s1.s 52 = .bool (!bareOk k t m n bi hi b ks) at a1
    simp at a0 a2 a3 a4
    simp [a1]
    cases hbo : bareOk k t m n bi hi b ks
    · simp [Tr.right, hbo, a0]
    simp [a3, a4, a0]
    have hR : (Tr.mk k t m n bi hi b kn ks).right d = (if k = 5 then decide (0 ≤ n) && decide (n ≤ 255)
     else if k = 7 ∨ k = 12 then decide ((bl b).length = 12)
     else if k = 8 then decide (n = 0) || decide (n = 1)
     else if k = 16 then decide (-2147483648 ≤ n) && decide (n < 2147483648)
     else if k = 11 then plainL t && plainL m
     else Ks.right ks (k == 4) 0 (d - 1)) := by simp [Tr.right, hk, hd0, hbo]
    have h12 : decide (((bl b).length : Int) = 12) = decide ((bl b).length = 12) := decide_eq_decide.2 (by omega)
    have fin : k ≠ 5 → k ≠ 7 → k ≠ 12 → k ≠ 8 → k ≠ 16 → k ≠ 11 → (Tr.mk k t m n bi hi b kn ks).right d = ks.right (k == 4) 0 (d - 1) := by
      intro g1 g2 g3 g4 g5 g6
      rw [hR]; simp [g1, g2, g3, g4, g5, g6]
    by_cases k5 : k = 5
    · by_cases n0 : 0 ≤ n <;> by_cases n1 : n ≤ 255 <;> rw [hR] <;> simp [k5, a3, a4, a0, n0, n1]
    simp [k5, a3, a4, a0]
    by_cases k7 : k = 7
    · rw [hR]; simp [k7, a3, a4, a0, h12]
    simp [k7, a3, a4, a0]
    by_cases k12 : k = 12
    · rw [hR]; simp [k12, a3, a4, a0, h12]
    simp [k12, a3, a4, a0]
    by_cases k8 : k = 8
    · by_cases n0 : n = 0 <;> by_cases n1 : n = 1 <;> rw [hR] <;> simp [k8, a3, a4, a0, n0, n1]
    simp [k8, a3, a4, a0]
    by_cases k16 : k = 16
    · by_cases n0 : -2147483648 ≤ n <;> by_cases n1 : n < 2147483648 <;> rw [hR] <;> simp [k16, a3, a4, a0, n0, n1]
    simp [k16, a3, a4, a0]
    by_cases k11 : k = 11
    · cases n0 : plainL t <;> rw [hR] <;> simp [k11, a3, a4, a0, hp1, hp2, n0]
    simp [k11, a3, a4, a0]
    refine l_docRight ks .nil _ k t m n bi hi b kn d ?_ ?_ ?_ ?_ (by omega) hd (by simpa [Ks.app] using hW.2.2.2.2.2.2.2.2.2.2.2.1) hW.2.2.2.2.2.2.2.2.2.2.2.2 _ (fun h st' e => ?_) (fun h st' e h4 => ?_)
    · simp [a2]
    · simp [a3]
    · simp [Ks.len]
    · simp [a4, Tr.cells, Ks.app]
    · rw [fin k5 k7 k12 k8 k16 k11]; simp [Ks.len] at h; simp [h, e, a0]
    · rw [fin k5 k7 k12 k8 k16 k11]; simp [Ks.len] at h; simp [h, h4, e, a0]
theorem l_docRight : ∀ (r pre : Ks) (st : St) (k : Int) (t m : List UInt8) (n0 bi hi : Int) (b : Option (List UInt8)) (kn : Bool) (d : Nat), st.s 1 = .int .i64 d → st.s 2 = .ptr (.loc 2) 0 → st.s 6 = .int .i64 pre.len →
    st.b 2 = some (.cells (Tr.cells 5 53 (.mk k t m n0 bi hi b kn (pre.app r)))) → 1 ≤ d → d ≤ 1000 → (pre.app r).len ≤ reachBytes → r.wf →
    ∀ Q : Ex × St → Prop, (r.right (k == 4) pre.len (d - 1) = true → ∀ st' : St, st'.h = st.h → Q (.exit 1, st')) → (r.right (k == 4) pre.len (d - 1) = false → ∀ st' : St, st'.h = st.h → st'.s 4 = .bool false → Q (.ret, st')) → LoopR fns lc48_0 st Q
  | .nil, pre, st, k, t, m, n0, bi, hi, b, kn, d, h1, h2, h6, hb, hd1, hd2, hL, hW, Q, hA, hB => by
    refine loopω_run fns ?_
    simp only [Ks.app_nil, Tr.cells] at hb
    simp [h1, h2, h6, hb]
    exact hA rfl _ rfl
  | .cons nm v r, pre, st, k, t, m, n0, bi, hi, b, kn, d, h1, h2, h6, hb, hd1, hd2, hL, hW, Q, hA, hB => by
    refine loopω_run fns ?_
    have hlt : (pre.len : Int) < ((pre.app (.cons nm v r)).len : Int) := by rw [Ks.len_app]; simp [Ks.len]; omega
    have hb' := hb
    simp only [Tr.cells] at hb'
    have hL' := hL
    rw [Ks.len_app, Ks.len] at hL'; simp only [reachBytes] at hL'
    have hw2 : IntKind.i64.wrap ((pre.len : Int) + 1) = pre.len + 1 := wrap_i64 (by omega) (by omega)
    have hwd : IntKind.i64.wrap ((d : Int) - 1) = ((d - 1 : Nat) : Int) := by rw [wrap_i64 (by omega) (by omega)]; omega
    have hr := c_docRight v (d - 1) hW.2.1 (by omega)
    have hp := c_DocPlain nm (by have := hW.1; simp only [reachBytes] at this; simp only [maxLen]; omega)
    have hdig := c_DocDigits pre.len pre.len (Nat.le_refl _) (by omega)
    have step : ∀ st' : St, st'.h = st.h → (plainL nm = true → (!((k == 4) && nm != digL pre.len)) = true → v.right (d - 1) = true → st'.s 1 = .int .i64 d ∧ st'.s 2 = .ptr (.loc 2) 0 ∧ st'.s 6 = .int .i64 ((pre.app (.cons nm v .nil)).len : Int) ∧
        st'.b 2 = some (.cells (Tr.cells 5 53 (.mk k t m n0 bi hi b kn ((pre.app (.cons nm v .nil)).app r)))) → LoopR fns lc48_0 st' Q) := by
      intro st' hh g1 g2 g3 ⟨e1, e2, e6, eb⟩
      refine l_docRight r (pre.app (.cons nm v .nil)) st' k t m n0 bi hi b kn d e1 e2 e6 eb hd1 hd2 (by simpa [Ks.app_assoc, Ks.app] using hL) hW.2.2 Q (fun h s2 z => hA ?_ s2 (z.trans hh)) (fun h s2 z => hB ?_ s2 (z.trans hh))
      · simp only [Ks.len_app, Ks.len] at h; simp [Ks.right, g1, g3] at g2 h ⊢; exact ⟨g2, h⟩
      · simp only [Ks.len_app, Ks.len] at h; simp [Ks.right, g1, g3] at g2 h ⊢; intro _; exact h
    have bad : ∀ st' : St, st'.h = st.h → (plainL nm && (!((k == 4) && nm != digL pre.len) && v.right (d - 1))) = false → st'.s 4 = .bool false → Q (.ret, st') := by
      intro st' hh g1 g2
      refine hB ?_ st' hh g2
      simp only [Ks.right]
      revert g1; cases plainL nm <;> cases ((k == 4) && nm != digL pre.len) <;> cases v.right (d - 1) <;> simp
    simp [h1, h2, h6, hb', hlt, Ks.av_ix, take8, len8, hp]
    cases hpl : plainL nm
    · simp [h2, hb']
      refine bad _ rfl ?_ ?_ <;> simp [hpl]
    simp [h1, h2, h6, hb', hlt, Ks.av_ix, take8, len8]
    by_cases k4 : k = 4
    · simp [k4, h1, h2, h6, hb', hlt, Ks.av_ix, take8, len8, hdig]
      generalize hnm : (nm == digL pre.len) = cc
      cases cc
      · simp [h1, h2, h6, hb', hlt, Ks.av_ix, take8, len8]
        refine bad _ rfl ?_ ?_ <;> simp_all
      simp [h1, h2, h6, hb', hlt, Ks.av_ix, take8, len8, hwd, hr]
      cases hv : v.right (d - 1)
      · simp [h1, h2, h6, hb']
        refine bad _ rfl ?_ ?_ <;> simp_all
      simp [h1, h2, h6, hb', hw2]
      refine step _ rfl hpl ?_ hv ⟨?_, ?_, ?_, ?_⟩
      · simp [k4, hnm]
      · simp [h1]
      · simp [h2]
      · simp [Ks.len_app, Ks.len]
      · simp [Tr.cells, Ks.app_assoc, Ks.app, hb', k4]
    · simp [k4, h1, h2, h6, hb', hlt, Ks.av_ix, take8, len8, hwd, hr]
      cases hv : v.right (d - 1)
      · simp [h1, h2, h6, hb']
        refine bad _ rfl ?_ ?_ <;> simp_all
      simp [h1, h2, h6, hb', hw2]
      refine step _ rfl hpl ?_ hv ⟨?_, ?_, ?_, ?_⟩
      · simp [k4]
      · simp [h1]
      · simp [h2]
      · simp [Ks.len_app, Ks.len]
      · simp [Tr.cells, Ks.app_assoc, Ks.app, hb']
end

theorem c_DocRight (v : Tr) (hW : v.wf) : ∀ hE : H, callω fns 28 [.agg (v.cells 5 53)] hE = some (.bool (v.right 200), hE) := by
  intro hE
  refine run28 (Nat.le_of_ble_eq_true rfl) ?_
  have h := c_docRight v 200 hW (by omega)
  simp only [Int.cast_ofNat_Int] at h
  cases v with
  | mk k t m n bi hi b kn ks =>
  simp only [Tr.cells] at h ⊢
  simp [h]

end Go.Proofs.YtdnfnobgeddbfaaDoor.Abs
