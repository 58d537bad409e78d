/- EB9, EB10 -/
import Derived.Test.YtdnfnobgeddbfaaGreatDoorEB8
import Derived.Test.YtdnfnobgeddbfaaGreatDoorTR10
/- Names that lead into a right document. -/
namespace Go.Proofs.YtdnfnobgeddbfaaGreatDoor.Abs
set_option linter.all false
open Go.Proofs
set_option linter.unusedVariables false
set_option linter.unusedSimpArgs false
set_option maxRecDepth 100000
set_option maxHeartbeats 8000000

def Ks.find (nm : List UInt8) : Ks → Option Tr
  | .nil => none
  | .cons n v r => if n = nm then some v else Ks.find nm r
def Tr.kids : Tr → Ks
  | .mk _ _ _ _ _ _ _ _ ks => ks
theorem Tr.val_kids {v : Tr} (h : v.kind = 3 ∨ v.kind = 4) : v.val = v.kids.doc := by
  cases v with
  | mk k t m n bi hi b kn ks =>
    simp only [Tr.kind] at h
    rcases h with rfl | rfl <;> simp [Tr.val, Tr.kids, Ks.doc]
theorem Tr.kids_good {v : Tr} {d : Nat} (h : v.kind = 3 ∨ v.kind = 4) (hr : v.right d = true) : v.kids.good := by
  cases v with
  | mk k t m n bi hi b kn ks =>
    simp only [Tr.kind] at h
    simp only [Tr.right, Bool.and_eq_true] at hr
    have h2 := hr.2.2.2
    have e1 : ¬ k = 5 := by omega
    have e2 : ¬ (k = 7 ∨ k = 12) := by omega
    have e3 : ¬ k = 8 := by omega
    have e4 : ¬ k = 16 := by omega
    have e5 : ¬ k = 11 := by omega
    rw [if_neg e1, if_neg e2, if_neg e3, if_neg e4, if_neg e5] at h2
    exact Ks.right_good h2
theorem Tr.kids_sz (v : Tr) : v.kids.sz ≤ v.sz := by
  cases v with
  | mk k t m n bi hi b kn ks =>
    simp only [Tr.kids, Tr.sz, Ks.sz, Tr.nb, Tr.nodes]
    omega
def strsA (l : List (List UInt8)) : AV := .slice .frz 9 1 (l.map AV.str)
def xDep (a : List UInt8) (k : Int) : AV := .iface 100 (.agg [.str a, .int .u8 k])
def lookE (s : Nat → Nat × Nat) : List (List UInt8) → Ks → AV
  | [], _ => .nilI
  | a :: r, ks => match ks.find a with
    | none => sE (s 1)
    | some v => if r = [] then .nilI else if v.kind = 3 ∨ v.kind = 4 then lookE s r v.kids else xDep a v.kind
def lookT : List (List UInt8) → Ks → Option Tr
  | [], _ => none
  | a :: r, ks => match ks.find a with
    | none => none
    | some v => if r = [] then some v else if v.kind = 3 ∨ v.kind = 4 then lookT r v.kids else none
def lookV (o : Option Tr) : List AV := match o with | some v => [.int .u8 v.kind, bAV 5 (some v.val)] | none => [.int .u8 0, .slice .nil 0 1 []]
theorem c_code_dep (a : List UInt8) (k : Int) : ∀ hE : H, callω fns 23 [xDep a k] hE = some (.int .i64 10, hE) := by
  intro hE
  refine run23 (Nat.le_of_ble_eq_true rfl) ?_
  simp [xDep, taOk, exV]

theorem c_rlb (K : Ks) (hs : K.sz ≤ 90000) : ∀ hE : H, callω fns 73 [bAV 5 (some K.doc)] hE = some (.tup [bAV 5 (some K.doc), bAV 5 (some []), .bool true], hE) := by
  intro hE
  obtain ⟨n1, n2⟩ := doc_num K (by omega)
  have hlen := Ks.doc_length K
  have hb := Ks.body_le K
  have hsz : K.sz = K.nb + 18 * K.nodes := rfl
  have hR := c_RLen (some K.doc)
  simp only [bl] at hR
  have hk : okL K.doc = true := by unfold okL; rw [n1, hlen]; simp; omega
  rw [n1, hk, rest4_some (by omega)] at hR
  have hlt : ¬ ((K.body.length : Int) + 5 < 4) := by omega
  have hln : (K.doc.length : Int) = (K.body.length : Int) + 5 := by omega
  have w : IntKind.i64.wrap ((K.body.length : Int) + 5) = K.body.length + 5 := wrap_i64 (by omega) (by omega)
  have s1 : ∀ hp : H, slSl hp 1 (bAV 5 (some K.doc)) (some 0) (some ((K.body.length : Int) + 5)) = some (bAV 5 (some K.doc)) := fun hp => by
    have := sl_to (hp := hp) (e := 5) (l := K.doc) (m := K.doc.length) (Nat.le_refl _)
    rw [hln, List.take_length] at this; exact this
  have s2 : ∀ hp : H, slSl hp 1 (bAV 5 (some K.doc)) (some ((K.body.length : Int) + 5)) (some ((K.body.length : Int) + 5)) = some (bAV 5 (some [])) := fun hp => by
    have := sl_from (hp := hp) (e := 5) (l := K.doc) (m := K.doc.length) (Nat.le_refl _)
    rw [hln, List.drop_length] at this; exact this
  generalize K.doc = D at *
  generalize (K.body.length : Int) + 5 = N at *
  refine run73 (Nat.le_of_ble_eq_true rfl) ?_
  simp [hR, hlt, hln, w, s1, s2, bl, ex3_0, ex3_1, ex3_2]
theorem c_ValDoc (K : Ks) (hs : K.sz ≤ 90000) : ∀ hE : H, callω fns 53 [.agg [.int .u8 3, bAV 5 (some K.doc)]] hE = some (bAV 5 (some K.doc), hE) := by
  intro hE
  have h := c_rlb K hs
  have h2 : ∀ hE : H, callω fns 67 [bAV 5 (some K.doc)] hE = some (.tup [bAV 5 (some K.doc), bAV 5 (some []), .bool true], hE) := by
    intro hE
    refine run67 (Nat.le_of_ble_eq_true rfl) ?_
    simp [h, ex3_0, ex3_1, ex3_2]
  refine run53 (Nat.le_of_ble_eq_true rfl) ?_
  simp [h2, ex3_0, ex3_1, ex3_2]
theorem c_ValArr (K : Ks) (hs : K.sz ≤ 90000) : ∀ hE : H, callω fns 54 [.agg [.int .u8 4, bAV 5 (some K.doc)]] hE = some (bAV 5 (some K.doc), hE) := by
  intro hE
  have h := c_rlb K hs
  have h2 : ∀ hE : H, callω fns 68 [bAV 5 (some K.doc)] hE = some (.tup [bAV 5 (some K.doc), bAV 5 (some []), .bool true], hE) := by
    intro hE
    refine run68 (Nat.le_of_ble_eq_true rfl) ?_
    simp [h, ex3_0, ex3_1, ex3_2]
  refine run54 (Nat.le_of_ble_eq_true rfl) ?_
  simp [h2, ex3_0, ex3_1, ex3_2]
end Go.Proofs.YtdnfnobgeddbfaaGreatDoor.Abs

/- Names that lead into a right document: the walk. -/
namespace Go.Proofs.YtdnfnobgeddbfaaGreatDoor.Abs
set_option linter.all false
open Go.Proofs
set_option linter.unusedVariables false
set_option linter.unusedSimpArgs false
set_option maxRecDepth 100000
set_option maxHeartbeats 8000000

theorem eVal_elem {nm : List UInt8} {v : Tr} {dd : Nat} (hp : plainL nm = true) (hR : v.right dd = true) (hs : v.sz ≤ 1000000000) :
    eVal (elemL nm v) = .agg [.int .u8 v.kind, bAV 5 (some v.val)] ∧ eValErr (elemL nm v) = .nilI := by
  have h1 := eParts_elem (v := v) hp
  have h2 := vGet_val v hR hs []
  rw [List.append_nil] at h2
  have h3 := byteOf_kind hR
  unfold eVal eValErr
  rw [h1]
  simp only [h3, h2, Option.isSome_some, if_true, vData, bl, Option.map_some, List.take_length, and_self]
structure SR1 (b b' : RS) (a : List UInt8) (p : List (List UInt8)) : Prop where
  at0 : ∃ r, ixV 1 (b.fv 9 1) (.int .i64 0) = some (.eptr (.str a :: r))
  len : aLen false (b.fv 9 1) = some (.int .i64 (p.length + 1 : Nat))
  lenV : lenV (b.fv 9 1) = some ((p.length + 1 : Nat) : Int)
  sl : ∀ hp : H, slSl hp 1 (b.fv 9 1) (some 1) (some ((p.length + 1 : Nat) : Int)) = some (b'.fv 9 1)
def strsR (l : List (List UInt8)) : RS := .own true (l.map AV.str)
theorem SR1_of (a : List UInt8) (p : List (List UInt8)) : SR1 (strsR (a :: p)) (strsR p) a p where
  at0 := ⟨p.map AV.str, RS.fv_at' (k := 0) (pre := []) (by simp [strsR, RS.l]) rfl⟩
  len := by rw [RS.fv_len1]; simp [strsR, RS.l]
  lenV := by simp [strsR, RS.fv]
  sl := fun hp => by
    show slSl hp 1 (.slice .frz 9 1 ((a :: p).map AV.str)) (some 1) (some ((p.length + 1 : Nat) : Int)) = _
    simp only [slSl]
    rw [if_pos ⟨by omega, by omega, by simp, .inr trivial⟩]
    simp [strsR, RS.fv, List.take_of_length_le]

theorem c_Key1 {nm : List UInt8} {v : Tr} (hp : plainL nm = true) (hl : (elemL nm v).length < 2147483648) : ∀ hE : H, callω fns 55 [bAV 5 (some (elemL nm v))] hE = some (.str nm, hE) := by
  intro hE
  have h := c_KeyErr (elemL nm v) hl
  rw [eParts_elem (v := v) hp] at h
  simp only at h
  refine run55 (Nat.le_of_ble_eq_true rfl) ?_
  simp [h, ex2_0, ex2_1]
theorem look_cases (s : Nat → Nat × Nat) : ∀ (p : List (List UInt8)) (ks : Ks), p ≠ [] → (lookT p ks = none ∧ (lookE s p ks = sE (s 1) ∨ ∃ x k, lookE s p ks = xDep x k)) ∨ ∃ w, lookT p ks = some w ∧ lookE s p ks = .nilI
  | [], ks, h => absurd rfl h
  | a :: r, ks, _ => by
    simp only [lookT, lookE]
    cases ks.find a with
    | none => exact .inl ⟨rfl, .inl rfl⟩
    | some v =>
      simp only
      by_cases hr : r = []
      · rw [if_pos hr, if_pos hr]; exact .inr ⟨v, rfl, rfl⟩
      · rw [if_neg hr, if_neg hr]
        by_cases hk : v.kind = 3 ∨ v.kind = 4
        · rw [if_pos hk, if_pos hk]; exact look_cases s r v.kids hr
        · rw [if_neg hk, if_neg hk]; exact .inl ⟨rfl, .inr ⟨_, _, rfl⟩⟩
theorem l_Lookup {K : Ks} {a : List UInt8} {p : List (List UInt8)} {b b' : RS} (hb : SR1 b b' a p) (hpl : p.length ≤ 1000000) {s : Nat → Nat × Nat}
    (hrec : p ≠ [] → ∀ ks : Ks, ks.good → ks.sz ≤ 90000 → ∀ hE : H, Sens hE.Γ s → callω fns 36 [bAV 5 (some ks.doc), b'.fv 9 1] hE = some (.tup [.agg (lookV (lookT p ks)), lookE s p ks], hE)) :
    ∀ (r : Ks) (st : St), st.s 0 = bAV 5 (some K.doc) → st.s 1 = b.fv 9 1 → st.s 4 = .ptr (.loc 4) 0 → st.b 4 = some (.cells [.int .u8 0, .slice .nil 0 1 []]) → st.b 11 = none → st.b 13 = none → st.s 6 = .int .i32 (r.body.length + 1) → st.s 7 = bAV 5 (some (r.body ++ [0])) →
      r.good → r.sz ≤ 90000 → Sens st.h.Γ s → ∀ Q : Ex × St → Prop,
      (r.find a = none → ∀ st' : St, st'.h = st.h → st'.s 4 = .ptr (.loc 4) 0 → st'.b 4 = some (.cells [.int .u8 0, .slice .nil 0 1 []]) → Q (.exit 0, st')) →
      (∀ v, r.find a = some v → ∀ st' : St, st'.h = st.h → st'.s 4 = .ptr (.loc 4) 0 → st'.b 4 = some (.cells (lookV (if p = [] then some v else if v.kind = 3 ∨ v.kind = 4 then lookT p v.kids else none))) →
        st'.s 5 = (if p = [] then .nilI else if v.kind = 3 ∨ v.kind = 4 then lookE s p v.kids else xDep a v.kind) → Q (.ret, st')) → LoopR fns lc36_0 st Q
  | .nil, st, h0, h1, h4, hb4, hb11, hb13, h6, h7, hg, hsz, hS, Q, hA, hB => by
    refine loopω_run fns ?_
    simp [Ks.body, h6]
    refine hA rfl _ ?_ ?_ ?_ <;> simp [h4, hb4]
  | .cons nm v r, st, h0, h1, h4, hb4, hb11, hb13, h6, h7, hg, hsz, hS, Q, hA, hB => by
    refine loopω_run fns ?_
    obtain ⟨hp, ⟨dd, hR⟩, hG⟩ := hg
    rw [Ks.sz_cons] at hsz
    have hvl := Tr.val_le v
    have hvs : v.sz = v.nb + 18 * v.nodes := rfl
    have hel := elemL_length nm v
    have hbl := Ks.body_le r
    have hrs : r.sz = r.nb + 18 * r.nodes := rfl
    have hB0 : (Ks.cons nm v r).body = elemL nm v ++ r.body := by simp [Ks.body, elemL, hdL]
    rw [hB0] at h6 h7
    rw [List.append_assoc] at h7
    have hre := c_ReadElement (elemL nm v ++ (r.body ++ [0])) (by simp; omega)
    have he : eRes (elemL nm v ++ (r.body ++ [0])) = .tup [bAV 5 (some (elemL nm v)), bAV 5 (some (r.body ++ [0])), .bool true] := by
      simp only [eRes, eGet_elem hp hR (by omega) (r.body ++ [0]), List.take_left, List.drop_left]
    rw [he] at hre
    have hkb := c_KeyBytes (elemL nm v) (by omega)
    rw [eParts_elem (v := v) hp] at hkb
    simp only at hkb
    have hg1 : (1 : Int) < ((elemL nm v ++ r.body).length : Int) + 1 := by simp; omega
    have w0 : IntKind.i32.wrap ((elemL nm v).length : Int) = (elemL nm v).length := i32_small (by omega) (by omega)
    have w1 : IntKind.i32.wrap ((((elemL nm v ++ r.body).length : Int) + 1) - (elemL nm v).length) = r.body.length + 1 := by
      rw [i32_small] <;> simp <;> omega
    obtain ⟨rst, b1⟩ := hb.at0
    have b2 := hb.len
    have b3 := hb.lenV
    have b4 := hb.sl
    generalize ((elemL nm v ++ r.body).length : Int) + 1 = N at *
    by_cases hnm : nm = a
    case neg =>
      have hf : (Ks.cons nm v r).find a = r.find a := by simp [Ks.find, hnm]
      rw [hf] at hA hB
      have hnm' : (nm == a) = false := by simpa using hnm
      generalize elemL nm v = E at *
      simp [h0, h1, h4, hb4, h6, h7, hg1, hre, hkb, w0, w1, b1, hnm', ex3_0, ex3_1, ex3_2, bl]
      refine l_Lookup (K := K) hb hpl hrec r _ ?_ ?_ ?_ ?_ ?_ ?_ ?_ ?_ hG (by omega) ?_ Q (fun k st' q1 q2 q3 => hA k st' ?_ q2 q3) (fun v k st' q1 q2 q3 q4 => hB v k st' ?_ q2 q3 q4)
      · simp [h0]
      · simp [h1]
      · simp [h4]
      · simp [hb4]
      · simp [hb11]
      · simp [hb13]
      · simp
      · simp
      · exact hS
      · rw [q1]
      · rw [q1]
    subst hnm
    have hf : (Ks.cons nm v r).find nm = some v := by simp [Ks.find]
    have hB' := hB v hf
    obtain ⟨ev, ee⟩ := eVal_elem (v := v) hp hR (by omega)
    by_cases hpe : p = []
    · subst hpe
      have hv := c_ValueErr (elemL nm v) (by omega)
      rw [ev, ee] at hv
      simp only [List.length_nil, Nat.zero_add] at b2
      simp only [if_true] at hB'
      generalize elemL nm v = E at *
      simp [h0, h1, h4, hb4, h6, h7, hg1, hre, hkb, w0, w1, b1, b2, hv, ex3_0, ex3_1, ex3_2, ex2_0, ex2_1, bl]
      refine hB' _ ?_ ?_ ?_ ?_ <;> simp [lookV, h4]
    · simp only [if_neg hpe] at hB'
      have hp1 : (1 : Int) < ((p.length + 1 : Nat) : Int) := by have : p.length ≠ 0 := fun e => hpe (List.length_eq_zero_iff.1 e); omega
      have hev := c_ElemValue (elemL nm v) (by omega)
      rw [ev] at hev
      have hix0 : ixV 1 (bAV 5 (some (elemL nm v))) (.int .i64 0) = some (.eptr (.int .u8 v.kind :: byteCells (nm ++ 0 :: v.val))) := by
        have e : elemL nm v = byteOf v.kind :: (nm ++ 0 :: v.val) := by simp [elemL, hdL]
        rw [e, ix_head, byteOf_kind hR]
      generalize (p.length + 1 : Nat) = PL at *
      by_cases h3 : v.kind = 3
      · have hk : v.kind = 3 ∨ v.kind = 4 := .inl h3
        rw [if_pos hk, if_pos hk] at hB'
        have hs2 := Tr.kids_sz v
        have hr2 := hrec hpe v.kids (Tr.kids_good hk hR) (by omega)
        have hd2 := c_ValDoc v.kids (by omega)
        rw [Tr.val_kids hk] at hev
        have hcs : (lookT p v.kids = none ∧ (lookE s p v.kids = sE (s 1) ∨ ∃ x k, lookE s p v.kids = xDep x k)) ∨ ∃ w, lookT p v.kids = some w ∧ lookE s p v.kids = .nilI := look_cases s p v.kids hpe
        generalize elemL nm v = E at *
        generalize v.kids.doc = D at *
        rw [h3] at hev hix0
        generalize lookT p v.kids = LT at *
        generalize lookE s p v.kids = LE at *
        have hr3 := hr2 st.h.mask hS
        rcases hcs with ⟨rfl, hle⟩ | ⟨w, rfl, rfl⟩
        · rcases hle with rfl | ⟨x, k, rfl⟩ <;> simp only [sE, xDep] at hr3 hB' <;>
            simp [h0, h1, h4, hb4, hb11, hb13, h6, h7, hg1, hre, hkb, w0, w1, b1, b2, b3, b4, hp1, hix0, hev, hd2, hr3, lookV, ex3_0, ex3_1, ex3_2, ex2_0, ex2_1, bl] <;>
            refine hB' _ ?_ ?_ ?_ ?_ <;> simp [lookV, h4, hb4]
        · simp [h0, h1, h4, hb4, hb11, hb13, h6, h7, hg1, hre, hkb, w0, w1, b1, b2, b3, b4, hp1, hix0, hev, hd2, hr3, lookV, ex3_0, ex3_1, ex3_2, ex2_0, ex2_1, bl]
          refine hB' _ ?_ ?_ ?_ ?_ <;> simp [lookV, h4, hb4]
      by_cases h4k : v.kind = 4
      · have hk : v.kind = 3 ∨ v.kind = 4 := .inr h4k
        rw [if_pos hk, if_pos hk] at hB'
        have hs2 := Tr.kids_sz v
        have hr2 := hrec hpe v.kids (Tr.kids_good hk hR) (by omega)
        have hd2 := c_ValArr v.kids (by omega)
        rw [Tr.val_kids hk] at hev
        have hcs : (lookT p v.kids = none ∧ (lookE s p v.kids = sE (s 1) ∨ ∃ x k, lookE s p v.kids = xDep x k)) ∨ ∃ w, lookT p v.kids = some w ∧ lookE s p v.kids = .nilI := look_cases s p v.kids hpe
        generalize elemL nm v = E at *
        generalize v.kids.doc = D at *
        rw [h4k] at hev hix0
        generalize lookT p v.kids = LT at *
        generalize lookE s p v.kids = LE at *
        have hr3 := hr2 st.h.mask hS
        rcases hcs with ⟨rfl, hle⟩ | ⟨w, rfl, rfl⟩
        · rcases hle with rfl | ⟨x, k, rfl⟩ <;> simp only [sE, xDep] at hr3 hB' <;>
            simp [h0, h1, h4, hb4, hb11, hb13, h6, h7, hg1, hre, hkb, w0, w1, b1, b2, b3, b4, hp1, hix0, hev, hd2, hr3, lookV, ex3_0, ex3_1, ex3_2, ex2_0, ex2_1, bl] <;>
            refine hB' _ ?_ ?_ ?_ ?_ <;> simp [lookV, h4, hb4]
        · simp [h0, h1, h4, hb4, hb11, hb13, h6, h7, hg1, hre, hkb, w0, w1, b1, b2, b3, b4, hp1, hix0, hev, hd2, hr3, lookV, ex3_0, ex3_1, ex3_2, ex2_0, ex2_1, bl]
          refine hB' _ ?_ ?_ ?_ ?_ <;> simp [lookV, h4, hb4]
      · have hk : ¬ (v.kind = 3 ∨ v.kind = 4) := by omega
        rw [if_neg hk, if_neg hk] at hB'
        have hkey := c_Key1 hp (v := v) (by omega)
        generalize elemL nm v = E at *
        generalize v.kind = VK at *
        simp only [xDep] at hB'
        simp [h0, h1, h4, hb4, hb11, hb13, h6, h7, hg1, hre, hkb, w0, w1, b1, b2, b3, b4, hp1, hix0, hev, hkey, h3, h4k, lookV, ex3_0, ex3_1, ex3_2, ex2_0, ex2_1, bl, mkI]
        refine hB' _ ?_ ?_ ?_ ?_ <;> simp [lookV, h4, hb4]
end Go.Proofs.YtdnfnobgeddbfaaGreatDoor.Abs
