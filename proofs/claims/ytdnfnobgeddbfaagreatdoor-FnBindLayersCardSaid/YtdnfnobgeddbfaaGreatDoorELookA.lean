/- Names that lead into any bytes. -/
import Derived.Test.YtdnfnobgeddbfaaGreatDoorEB10
import Derived.Test.YtdnfnobgeddbfaaGreatDoorTR10
namespace Go.Proofs.YtdnfnobgeddbfaaGreatDoor.Abs
set_option linter.all false
open Go.Proofs
set_option linter.unusedVariables false
set_option linter.unusedSimpArgs false
set_option maxRecDepth 100000
set_option maxHeartbeats 8000000

inductive LkE where
  | nil
  | few (a b : Option (List UInt8))
  | nf
  | dep (a : List UInt8) (k : Int)
  | emp
def LkE.av (s : Nat → Nat × Nat) : LkE → AV
  | .nil => .nilI
  | .few a b => xFew a b
  | .nf => sE (s 1)
  | .dep a k => xDep a k
  | .emp => sE (s 2)
def LkE.code : LkE → Int
  | .nil => 0
  | .few _ _ => 1
  | .nf => 7
  | .dep _ _ => 10
  | .emp => 8
abbrev LkT := Option (Option (Int × List UInt8) × LkE)
def lkL (d a : List UInt8) (last : Bool) (rec : List UInt8 → LkT) : Nat → Int → List UInt8 → LkT
  | 0, _, _ => some (none, .nf)
  | f + 1, n, l => if n ≤ 1 then some (none, .nf) else match eGet l with
    | none => some (none, .few (some d) (some l))
    | some m => if nmE (l.take m) = a then
        (if last = true then some (if eOk (l.take m) = true then (some (kv (l.take m)), .nil) else (none, .few (some (l.take m)) (eDat (l.take m))))
         else if eOk (l.take m) = true then (if (kv (l.take m)).1 = 3 ∨ (kv (l.take m)).1 = 4 then rec (kv (l.take m)).2 else some (none, .dep a (kv (l.take m)).1)) else none)
      else lkL d a last rec f (n - m) (l.drop m)
def lkR : List (List UInt8) → List UInt8 → LkT
  | [], _ => some (none, .emp)
  | a :: p, d => if okL d then lkL d a p.isEmpty (lkR p) (d.length + 1) (num32 d - 4) (d.drop 4) else some (none, .few (some d) (rest4 (some d)))
def lkOk (R : Option (Int × List UInt8) × LkE) : Prop := (R.2 = .nil ∧ ∃ v, R.1 = some v) ∨ (R.2 ≠ .nil ∧ R.1 = none)
theorem lkL_ok {d a : List UInt8} {last : Bool} {rec : List UInt8 → LkT} (hrec : ∀ d R, rec d = some R → lkOk R) : ∀ (f : Nat) (n : Int) (l : List UInt8) (R), lkL d a last rec f n l = some R → lkOk R
  | 0, n, l, R, h => by simp only [lkL, Option.some.injEq] at h; subst h; exact .inr ⟨by simp, rfl⟩
  | f + 1, n, l, R, h => by
    simp only [lkL] at h
    split at h
    · injection h with h; subst h; exact .inr ⟨by simp, rfl⟩
    split at h
    · injection h with h; subst h; exact .inr ⟨by simp, rfl⟩
    split at h
    · split at h
      · injection h with h; subst h
        split
        · exact .inl ⟨rfl, _, rfl⟩
        · exact .inr ⟨by simp, rfl⟩
      split at h
      · split at h
        · exact hrec _ _ h
        · injection h with h; subst h; exact .inr ⟨by simp, rfl⟩
      · cases h
    · exact lkL_ok hrec f _ _ R h
theorem lkR_ok : ∀ (p : List (List UInt8)) (d : List UInt8) (R), lkR p d = some R → lkOk R
  | [], d, R, h => by simp only [lkR, Option.some.injEq] at h; subst h; exact .inr ⟨by simp, rfl⟩
  | a :: p, d, R, h => by
    simp only [lkR] at h
    split at h
    · exact lkL_ok (fun d R h => lkR_ok p d R h) _ _ _ R h
    · injection h with h; subst h; exact .inr ⟨by simp, rfl⟩
def lkV (o : Option (Int × List UInt8)) : List AV := match o with | some v => [.int .u8 v.1, bAV 5 (some v.2)] | none => [.int .u8 0, .slice .nil 0 1 []]
def lkK (o : Option (Int × List UInt8)) : Int := match o with | some v => v.1 | none => 0
def lkB (o : Option (Int × List UInt8)) : Option (List UInt8) := match o with | some v => some v.2 | none => none
theorem lkV_eq (o : Option (Int × List UInt8)) : lkV o = [.int .u8 (lkK o), bAV 5 (lkB o)] := by cases o <;> rfl

theorem kv_doc {l : List UInt8} {m : Nat} (he : eGet l = some m) (hk : eOk (l.take m) = true) (h3 : (kv (l.take m)).1 = 3 ∨ (kv (l.take m)).1 = 4) : 4 ≤ (kv (l.take m)).2.length ∧ num32 (kv (l.take m)).2 = (kv (l.take m)).2.length := by
  obtain ⟨t, nm, d, e1, e2, e3⟩ := eGood_of he hk
  have e4 : kv (l.take m) = ((t.toNat : Int), d) := by simp [kv, e2]
  rw [e4] at h3 ⊢
  simp only at h3 ⊢
  unfold vGet vLen at e3
  rw [if_pos (by omega)] at e3
  unfold lenD at e3
  split at e3
  · rename_i hc
    simp only [Option.bind_some] at e3
    split at e3
    · injection e3 with e3
      exact ⟨hc.1, by omega⟩
    · cases e3
  · cases e3
theorem c_rlbG (d : List UInt8) (h4 : 4 ≤ d.length) (hn : num32 d = d.length) (hl : d.length ≤ 5000) : ∀ hE : H, callω fns 73 [bAV 5 (some d)] hE = some (.tup [bAV 5 (some d), bAV 5 (some []), .bool true], hE) := by
  intro hE
  have hR := c_RLen (some d)
  simp only [bl] at hR
  have hk : okL d = true := by unfold okL; rw [hn]; simp; omega
  rw [hn, hk, rest4_some h4] at hR
  have hlt : ¬ ((d.length : Int) < 4) := by omega
  have w : IntKind.i64.wrap (d.length : Int) = d.length := wrap_i64 (by omega) (by omega)
  have s1 : ∀ hp : H, slSl hp 1 (bAV 5 (some d)) (some 0) (some (d.length : Int)) = some (bAV 5 (some d)) := fun hp => by
    have := sl_to (hp := hp) (e := 5) (l := d) (m := d.length) (Nat.le_refl _)
    rw [List.take_length] at this; exact this
  have s2 : ∀ hp : H, slSl hp 1 (bAV 5 (some d)) (some (d.length : Int)) (some (d.length : Int)) = some (bAV 5 (some [])) := fun hp => by
    have := sl_from (hp := hp) (e := 5) (l := d) (m := d.length) (Nat.le_refl _)
    rw [List.drop_length] at this; exact this
  refine run73 (Nat.le_of_ble_eq_true rfl) ?_
  simp [hR, hlt, w, s1, s2, bl, ex3_0, ex3_1, ex3_2]
theorem c_ValDocG (d : List UInt8) (h4 : 4 ≤ d.length) (hn : num32 d = d.length) (hl : d.length ≤ 5000) : ∀ hE : H, callω fns 53 [.agg [.int .u8 3, bAV 5 (some d)]] hE = some (bAV 5 (some d), hE) := by
  intro hE
  have h := c_rlbG d h4 hn hl
  have h2 : ∀ hE : H, callω fns 67 [bAV 5 (some d)] hE = some (.tup [bAV 5 (some d), bAV 5 (some []), .bool true], hE) := by
    intro hE
    refine run67 (Nat.le_of_ble_eq_true rfl) ?_
    simp [h, ex3_0, ex3_1, ex3_2]
  refine run53 (Nat.le_of_ble_eq_true rfl) ?_
  simp [h2, ex3_0, ex3_1, ex3_2]
theorem c_ValArrG (d : List UInt8) (h4 : 4 ≤ d.length) (hn : num32 d = d.length) (hl : d.length ≤ 5000) : ∀ hE : H, callω fns 54 [.agg [.int .u8 4, bAV 5 (some d)]] hE = some (bAV 5 (some d), hE) := by
  intro hE
  have h := c_rlbG d h4 hn hl
  have h2 : ∀ hE : H, callω fns 68 [bAV 5 (some d)] hE = some (.tup [bAV 5 (some d), bAV 5 (some []), .bool true], hE) := by
    intro hE
    refine run68 (Nat.le_of_ble_eq_true rfl) ?_
    simp [h, ex3_0, ex3_1, ex3_2]
  refine run54 (Nat.le_of_ble_eq_true rfl) ?_
  simp [h2, ex3_0, ex3_1, ex3_2]

theorem l_LookA {d a : List UInt8} {p : List (List UInt8)} {b b' : RS} (hb : SR1 b b' a p) (hpl : p.length ≤ 1000000) {s : Nat → Nat × Nat}
    (hrec : p ≠ [] → ∀ d' : List UInt8, d'.length ≤ 5000 → ∀ R, lkR p d' = some R → ∀ hE : H, Sens hE.Γ s → callω fns 36 [bAV 5 (some d'), b'.fv 9 1] hE = some (.tup [.agg (lkV R.1), R.2.av s], hE)) :
    ∀ (f : Nat) (n : Int) (l : List UInt8) (st : St), st.s 0 = bAV 5 (some d) → st.s 1 = b.fv 9 1 → st.s 4 = .ptr (.loc 4) 0 → st.b 4 = some (.cells [.int .u8 0, .slice .nil 0 1 []]) → st.b 11 = none → st.b 13 = none → st.s 6 = .int .i32 n → st.s 7 = bAV 5 (some l) →
      l.length < f → l.length ≤ 5000 → -2147483648 ≤ n → n < 2147483648 → Sens st.h.Γ s → ∀ R, lkL d a p.isEmpty (lkR p) f n l = some R → ∀ Q : Ex × St → Prop,
      (R = (none, .nf) → ∀ st' : St, st'.h = st.h → st'.s 4 = .ptr (.loc 4) 0 → st'.b 4 = some (.cells [.int .u8 0, .slice .nil 0 1 []]) → Q (.exit 0, st')) →
      (∀ st' : St, st'.h = st.h → st'.s 4 = .ptr (.loc 4) 0 → st'.b 4 = some (.cells (lkV R.1)) → st'.s 5 = R.2.av s → Q (.ret, st')) → LoopR fns lc36_0 st Q
  | 0, n, l, st, h0, h1, h4, hb4, hb11, hb13, h6, h7, hf, hl, hn0, hn1, hS, R, hR, Q, hA, hB => by omega
  | f + 1, n, l, st, h0, h1, h4, hb4, hb11, hb13, h6, h7, hf, hl, hn0, hn1, hS, R, hR, Q, hA, hB => by
    refine loopω_run fns ?_
    simp only [lkL] at hR
    by_cases hn : n ≤ 1
    · rw [if_pos hn] at hR
      injection hR with hR
      have g : ¬ (1 < n) := by omega
      simp [h6, g]
      refine hA hR.symm _ ?_ ?_ ?_ <;> simp [h4, hb4]
    rw [if_neg hn] at hR
    have g : 1 < n := by omega
    have hr := c_ReadElement l (by omega)
    cases he : eGet l with
    | none =>
      rw [he] at hR
      injection hR with hR
      subst hR
      have e : eRes l = .tup [bAV 5 none, bAV 5 (some l), .bool false] := by simp [eRes, he]
      rw [e] at hr
      have hi := c_NewIBE (some d) (some l)
      have w0 : IntKind.i32.wrap 0 = 0 := rfl
      have w1 : IntKind.i32.wrap n = n := i32_small hn0 hn1
      simp only [LkE.av, xFew] at hB
      simp [h0, h1, h4, hb4, h6, h7, g, hr, hi, mk_few, xFew, w0, w1, ex3_0, ex3_1, ex3_2, bl]
      refine hB _ ?_ ?_ ?_ ?_ <;> simp [lkV, h4, hb4]
    | some m =>
      rw [he] at hR
      simp only at hR
      have hm := eGet_le he
      have e : eRes l = .tup [bAV 5 (some (l.take m)), bAV 5 (some (l.drop m)), .bool true] := by simp [eRes, he]
      rw [e] at hr
      have hX : (l.take m).length = m := by simp; omega
      have hY : (l.drop m).length = l.length - m := by simp
      have w0 : IntKind.i32.wrap (m : Int) = m := i32_small (by omega) (by omega)
      have w1 : IntKind.i32.wrap (n - m) = n - m := i32_small (by omega) (by omega)
      have hkb := c_KeyBytes (l.take m) (by omega)
      have hke := c_KeyErr (l.take m) (by omega)
      obtain ⟨t, r, i, q, hlr, hnul, hvl, hmq, hle, hpt⟩ := eParts_take he
      have hnm : nmE (l.take m) = r.take i := by simp [nmE, hpt]
      have hkv : kv (l.take m) = ((t.toNat : Int), (r.drop (i + 1)).take q) := by simp [kv, hpt]
      have hed : eDat (l.take m) = some ((r.drop (i + 1)).take q) := by simp [eDat, hpt]
      have hve := c_ValueErr (l.take m) (by omega)
      have hev := c_ElemValue (l.take m) (by omega)
      have hix0 : ixV 1 (bAV 5 (some (l.take m))) (.int .i64 0) = some (.eptr (.int .u8 (t.toNat : Int) :: byteCells (r.take (m - 1)))) := by
        have e2 : l.take m = t :: r.take (m - 1) := by rw [hlr, show m = (m - 1) + 1 by omega, List.take_succ_cons]; simp
        rw [e2, ix_head]
      rw [hpt] at hkb hke
      simp only at hkb hke
      obtain ⟨rst, b1⟩ := hb.at0
      have b2 := hb.len
      have b3 := hb.lenV
      have b4 := hb.sl
      have hDl : ((r.drop (i + 1)).take q).length ≤ 5000 := by
        have : l.length = r.length + 1 := by rw [hlr]; rfl
        rw [List.length_take, List.length_drop]; omega
      by_cases hna : nmE (l.take m) = a
      case neg =>
        rw [if_neg hna] at hR
        rw [hnm] at hna
        have hna' : (r.take i == a) = false := by simpa using hna
        generalize r.take i = NM at *
        generalize l.take m = X at *
        simp [h0, h1, h4, hb4, h6, h7, g, hr, hkb, w0, w1, b1, hna', hX, ex3_0, ex3_1, ex3_2, bl]
        refine l_LookA hb hpl hrec f (n - m) (l.drop m) _ ?_ ?_ ?_ ?_ ?_ ?_ ?_ ?_ (by omega) (by omega) (by omega) (by omega) ?_ R hR Q (fun k st' q1 q2 q3 => hA k st' ?_ q2 q3) (fun st' q1 q2 q3 q4 => hB st' ?_ q2 q3 q4)
        · simp [h0]
        · simp [h1]
        · simp [h4]
        · simp [hb4]
        · simp [hb11]
        · simp [hb13]
        · simp
        · simp
        · exact hS
        · rw [q1]
        · rw [q1]
      rw [if_pos hna] at hR
      rw [hnm] at hna
      by_cases hpe : p = []
      · subst hpe
        simp only [List.isEmpty_nil, if_true] at hR
        injection hR with hR
        simp only [List.length_nil, Nat.zero_add] at b2
        cases hk : eOk (l.take m) with
        | true =>
          obtain ⟨e1, e2⟩ := eVal_ok he hk
          have e3 : eValErr (l.take m) = .nilI := by
            unfold eOk at hk; rw [hpt] at hk; simp only at hk
            unfold eValErr; rw [hpt]; simp only [hk, if_true]
          rw [e1, e3, kvC] at hve
          rw [hk, if_pos rfl] at hR
          subst hR
          simp only [LkE.av, lkV] at hB
          generalize (kv (l.take m)).1 = KK at *
          generalize (kv (l.take m)).2 = KD at *
          generalize r.take i = NM at *
          generalize l.take m = X at *
          subst hna
          simp [h0, h1, h4, hb4, h6, h7, g, hr, hkb, w0, w1, b1, b2, hve, hX, ex3_0, ex3_1, ex3_2, ex2_0, ex2_1, bl]
          refine hB _ ?_ ?_ ?_ ?_ <;> simp [h4]
        | false =>
          have e1 := eVal_no he hk
          have e3 : eValErr (l.take m) = xFew (some (l.take m)) (some ((r.drop (i + 1)).take q)) := by
            unfold eOk at hk; rw [hpt] at hk; simp only at hk
            unfold eValErr; rw [hpt]; simp only [hk, Bool.false_eq_true, if_false]
          rw [e1, e3] at hve
          rw [hk, if_neg (by simp), hed] at hR
          subst hR
          simp only [LkE.av, lkV, xFew] at hB hve
          generalize (r.drop (i + 1)).take q = DD at *
          generalize r.take i = NM at *
          generalize l.take m = X at *
          subst hna
          have e0 : bAV 5 none = AV.slice .nil 0 1 [] := rfl
          rw [e0] at hve
          simp [h0, h1, h4, hb4, h6, h7, g, hr, hkb, w0, w1, b1, b2, hve, hX, ex3_0, ex3_1, ex3_2, ex2_0, ex2_1, bl]
          refine hB _ ?_ ?_ ?_ ?_ <;> simp [h4]
      have hpe2 : p.isEmpty = false := by cases p with | nil => exact absurd rfl hpe | cons => rfl
      rw [hpe2] at hR
      simp only [Bool.false_eq_true, if_false] at hR
      cases hk : eOk (l.take m) with
      | false => rw [hk] at hR; simp at hR
      | true =>
      rw [hk] at hR
      simp only [if_true] at hR
      obtain ⟨e1, e2⟩ := eVal_ok he hk
      rw [e1, kvC] at hev
      have hp1 : (1 : Int) < ((p.length + 1 : Nat) : Int) := by have : p.length ≠ 0 := fun e => hpe (List.length_eq_zero_iff.1 e); omega
      have hdoc := kv_doc he hk
      rw [hkv] at hR hev hdoc
      simp only at hR hev hdoc
      generalize (p.length + 1 : Nat) = PL at *
      generalize byteCells (r.take (m - 1)) = BC at *
      generalize (r.drop (i + 1)).take q = DD at *
      generalize r.take i = NM at *
      generalize l.take m = X at *
      generalize (t.toNat : Int) = TK at *
      subst hna
      by_cases h34 : TK = 3 ∨ TK = 4
      · rw [if_pos h34] at hR
        obtain ⟨hd4, hdn⟩ := hdoc h34
        have hr3 := hrec hpe DD hDl R hR st.h.mask hS
        have hok := lkR_ok p DD R hR
        obtain ⟨R1, R2⟩ := R
        rcases h34 with rfl | rfl
        · have hd2 := c_ValDocG DD hd4 hdn hDl
          rcases hok with ⟨rfl, v, rfl⟩ | ⟨hne, rfl⟩
          · simp only [LkE.av, lkV] at hr3 hB
            simp [h0, h1, h4, hb4, hb11, hb13, h6, h7, g, hr, hkb, w0, w1, b1, b2, b3, b4, hp1, hix0, hev, hd2, hr3, hX, ex3_0, ex3_1, ex3_2, ex2_0, ex2_1, bl]
            refine hB _ ?_ ?_ ?_ ?_ <;> simp [h4, hb4]
          · cases R2 with
            | nil => exact absurd rfl hne
            | _ => 
              simp only [LkE.av, lkV, sE, xFew, xDep] at hr3 hB
              simp [h0, h1, h4, hb4, hb11, hb13, h6, h7, g, hr, hkb, w0, w1, b1, b2, b3, b4, hp1, hix0, hev, hd2, hr3, hX, ex3_0, ex3_1, ex3_2, ex2_0, ex2_1, bl]
              refine hB _ ?_ ?_ ?_ ?_ <;> simp [h4, hb4]
        · have hd2 := c_ValArrG DD hd4 hdn hDl
          rcases hok with ⟨rfl, v, rfl⟩ | ⟨hne, rfl⟩
          · simp only [LkE.av, lkV] at hr3 hB
            simp [h0, h1, h4, hb4, hb11, hb13, h6, h7, g, hr, hkb, w0, w1, b1, b2, b3, b4, hp1, hix0, hev, hd2, hr3, hX, ex3_0, ex3_1, ex3_2, ex2_0, ex2_1, bl]
            refine hB _ ?_ ?_ ?_ ?_ <;> simp [h4, hb4]
          · cases R2 with
            | nil => exact absurd rfl hne
            | _ => 
              simp only [LkE.av, lkV, sE, xFew, xDep] at hr3 hB
              simp [h0, h1, h4, hb4, hb11, hb13, h6, h7, g, hr, hkb, w0, w1, b1, b2, b3, b4, hp1, hix0, hev, hd2, hr3, hX, ex3_0, ex3_1, ex3_2, ex2_0, ex2_1, bl]
              refine hB _ ?_ ?_ ?_ ?_ <;> simp [h4, hb4]
      · rw [if_neg h34] at hR
        injection hR with hR
        subst hR
        have h3 : ¬ TK = 3 := fun e => h34 (.inl e)
        have h4k : ¬ TK = 4 := fun e => h34 (.inr e)
        have hkey : ∀ hE : H, callω fns 55 [bAV 5 (some X)] hE = some (.str NM, hE) := by
          intro hE
          refine run55 (Nat.le_of_ble_eq_true rfl) ?_
          simp [hke, ex2_0, ex2_1]
        simp only [LkE.av, lkV, xDep] at hB
        simp [h0, h1, h4, hb4, hb11, hb13, h6, h7, g, hr, hkb, w0, w1, b1, b2, b3, b4, hp1, hix0, hev, hkey, h3, h4k, hX, ex3_0, ex3_1, ex3_2, ex2_0, ex2_1, bl, mkI]
        refine hB _ ?_ ?_ ?_ ?_ <;> simp [h4, hb4]
theorem c_LookA {s : Nat → Nat × Nat} : ∀ (p : List (List UInt8)), p.length ≤ 1000 → ∀ d : List UInt8, d.length ≤ 5000 → ∀ R, lkR p d = some R → ∀ hE : H, Sens hE.Γ s →
    callω fns 36 [bAV 5 (some d), (strsR p).fv 9 1] hE = some (.tup [.agg (lkV R.1), R.2.av s], hE)
  | [], _, d, hl, R, hR, hE, hS => by
    simp only [lkR] at hR
    injection hR with hR
    subst hR
    have hg2 := hS.g2
    have b2 : aLen false ((strsR []).fv 9 1) = some (.int .i64 0) := by rw [RS.fv_len1]; simp [strsR, RS.l]
    simp only [sE] at hg2
    refine run36 (Nat.le_of_ble_eq_true rfl) ?_
    simp [b2, hg2, glV, LkE.av, sE, lkV]
  | a :: p, hpl, d, hl, R, hR, hE, hS => by
    have hrec : p ≠ [] → ∀ d' : List UInt8, d'.length ≤ 5000 → ∀ R, lkR p d' = some R → ∀ hE : H, Sens hE.Γ s → callω fns 36 [bAV 5 (some d'), (strsR p).fv 9 1] hE = some (.tup [.agg (lkV R.1), R.2.av s], hE) :=
      fun hp d' h1 R h2 hE hS => c_LookA p (by simp at hpl; omega) d' h1 R h2 hE hS
    have hsr := SR1_of a p
    generalize strsR p = b' at *
    generalize strsR (a :: p) = b at *
    simp only [lkR] at hR
    have hRL := c_RLen (some d)
    simp only [bl] at hRL
    have b2 := hsr.len
    have hp1 : ¬ (((p.length + 1 : Nat) : Int) < 1) := by omega
    by_cases hk : okL d = true
    case neg =>
      simp only [Bool.not_eq_true] at hk
      rw [hk] at hR hRL
      simp only [Bool.false_eq_true, if_false] at hR
      injection hR with hR
      subst hR
      have hi := c_NewIBE (some d) (rest4 (some d))
      generalize rest4 (some d) = R4 at *
      generalize ((p.length + 1 : Nat) : Int) = PL at *
      refine run36 (Nat.le_of_ble_eq_true rfl) ?_
      simp [hRL, b2, hp1, hi, mk_few, LkE.av, xFew, lkV, ex3_0, ex3_1, ex3_2]
    case pos =>
      obtain ⟨h4, h0⟩ := okL_le hk
      rw [hk, rest4_some h4] at hRL
      rw [if_pos hk] at hR
      have hr := num32_range d
      have w : IntKind.i32.wrap (num32 d - 4) = num32 d - 4 := i32_small (by omega) (by omega)
      have hdl : (d.drop 4).length = d.length - 4 := by simp
      have hok := lkL_ok (fun d R h => lkR_ok p d R h) _ _ _ R hR
      have hg1 := hS.g1
      simp only [sE] at hg1
      have hll := l_LookA (d := d) (a := a) (p := p) hsr (by simp at hpl; omega) hrec (d.length + 1) (num32 d - 4) (d.drop 4)
      generalize ((p.length + 1 : Nat) : Int) = PL at *
      generalize num32 d = N at *
      generalize d.drop 4 = L at *
      refine run36 (Nat.le_of_ble_eq_true rfl) ?_
      simp [hRL, b2, hp1, w, ex3_0, ex3_1, ex3_2]
      refine hll _ ?_ ?_ ?_ ?_ ?_ ?_ ?_ ?_ (by omega) (by omega) (by omega) (by omega) ?_ R hR _ (fun hf st' q1 q2 q3 => ?_) (fun st' q1 q2 q3 q4 => ?_)
      · simp
      · simp
      · simp
      · simp
      · simp
      · simp
      · simp
      · simp
      · exact hS
      · subst hf
        simp [q1, q2, q3, hg1, glV, sE, lkV, LkE.av]
      · obtain ⟨R1, R2⟩ := R
        rw [lkV_eq] at q3 ⊢
        generalize lkK R1 = K1 at *
        generalize lkB R1 = B1 at *
        cases R2 <;> (try simp only [LkE.av, sE, xFew, xDep] at q4 ⊢) <;> simp [q1, q2, q3, q4]
end Go.Proofs.YtdnfnobgeddbfaaGreatDoor.Abs
