/- The elements of any bytes, as the specification splits them. -/
import Derived.Test.YtdnfnobgeddbfaaGreatDoorEAny
import Derived.Test.YtdnfnobgeddbfaaGreatDoorEB4
import Derived.Test.YtdnfnobgeddbfaaGreatDoorTR10
namespace Go.Proofs.YtdnfnobgeddbfaaGreatDoor.Abs
set_option linter.all false
open Go.Proofs
set_option linter.unusedVariables false
set_option linter.unusedSimpArgs false
set_option maxRecDepth 100000
set_option maxHeartbeats 8000000

theorem eGet_head {l : List UInt8} {m : Nat} (h : eGet l = some m) : ∃ t X i, l.take m = t :: X ∧ nul X = some i ∧ i < X.length := by
  obtain ⟨t, r, i, n, rfl, hn, hv, rfl, hle, hp⟩ := eParts_take h
  refine ⟨t, r.take (i + 1 + n), i, ?_, nul_take hn (by omega), ?_⟩
  · rw [show i + 2 + n = (i + 1 + n) + 1 by omega, List.take_succ_cons]
  · have := (nul_lt hn).1
    rw [List.length_take]; omega
theorem c_docPart {l : List UInt8} {m : Nat} (h : eGet l = some m) (hl : l.length ≤ 5000) : ∀ hE : H, callω fns 49 [bAV 5 (some (l.take m))] hE = some (.agg (partC 5 (l.take m)), hE) := by
  obtain ⟨t, X, i, he, hn, hi⟩ := eGet_head h
  have hlen : (l.take m).length ≤ l.length := by rw [List.length_take]; omega
  rw [he] at hlen ⊢
  simp only [List.length_cons] at hlen
  have hd := c_DocName (some X) (by simp only [bl]; omega)
  have e1 : nmR X = (X.take i, i + 1, true) := by simp [nmR, hn]
  simp only [bl, e1] at hd
  have hp : eParts (t :: X) = some (t, X.take i, X.drop (i + 1)) := by simp [eParts, hn]
  have hk : kv (t :: X) = ((t.toNat : Int), X.drop (i + 1)) := by simp [kv, hp]
  have hm : nmE (t :: X) = X.take i := by simp [nmE, hp]
  have ht := t.toNat_lt
  have w1 : IntKind.i64.wrap (1 + ((i : Int) + 1)) = i + 2 := by rw [wrap_i64 (by omega) (by omega)]; omega
  have w3 : IntKind.i64.wrap (t.toNat : Int) = t.toNat := wrap_i64 (by omega) (by omega)
  have s := fun hp => sl_past (hp := hp) (e := 5) (t := t) (r := X) (i := i) hi
  intro hE
  simp only [partC, hm, hk]
  refine run49 (Nat.le_of_ble_eq_true rfl) ?_
  simp [bl, sl_tail, hd, s, w1, w3, ix_head, ex3_0, ex3_1, ex3_2]
theorem l_DocParts : ∀ (f : Nat) (n : Int) (l : List UInt8) (pre : RS) (st : St), st.s 2 = pre.av 76 4 → st.s 3 = bAV 5 (some l) → st.s 7 = .int .i64 n →
    l.length < f → l.length ≤ 5000 → -2147483648 ≤ n → n < 2147483648 → pre.l.length + 4 * l.length ≤ 20000 → ∀ Q : Ex × St → Prop,
    ((partsR f n l).2 = true → ∀ st' : St, st'.h = st.h → st'.s 2 = (pre.app (partsC 5 (partsR f n l).1)).av 76 4 → st'.s 3 = bAV 5 (some (partsT f n l)) → Q (.exit 0, st')) →
    ((partsR f n l).2 = false → ∀ st' : St, st'.h = st.h → st'.s 2 = (pre.app (partsC 5 (partsR f n l).1)).av 76 4 → st'.s 3 = bAV 5 (some (partsT f n l)) → st'.s 4 = .bool false → Q (.ret, st')) → LoopR fns lc32_0 st Q
  | 0, n, l, pre, st, h2, h3, h7, hf, hl, hn0, hn1, hp, Q, hA, hB => by omega
  | f + 1, n, l, pre, st, h2, h3, h7, hf, hl, hn0, hn1, hp, Q, hA, hB => by
    refine loopω_run fns ?_
    by_cases hn : n ≤ 1
    · have g : ¬ (1 < n) := by omega
      simp only [partsR, partsT, hn, if_true] at hA
      simp [h7, g]
      refine hA (by simp) _ ?_ ?_ ?_ <;> simp [h2, h3, RS.app_nil, partsC]
    · have g : 1 < n := by omega
      obtain ⟨k, hk, hd⟩ := c_DocFirst (some l) (by simpa [bl] using hl)
      simp only [bl] at hk hd
      cases he : eGet l with
      | none =>
        rw [he] at hd
        simp only [Option.isSome_none] at hd
        simp only [partsR, partsT, hn, if_false, he] at hB
        simp [h2, h3, h7, g, hd, ex2_0, ex2_1]
        refine hB (by simp) _ ?_ ?_ ?_ ?_ <;> simp [RS.app_nil, partsC]
      | some m =>
        have hkm := hk m he
        subst hkm
        rw [he] at hd
        simp only [Option.isSome_some] at hd
        have hm := eGet_le he
        have hY : (l.drop m).length = l.length - m := by simp
        have w1 : IntKind.i64.wrap (n - m) = n - m := wrap_i64 (by omega) (by omega)
        simp only [partsR, partsT, hn, if_false, he] at hA hB
        have hpt := c_docPart he hl
        have s1 : ∀ hp : H, slSl hp 1 (bAV 5 (some l)) (some 0) (some (m : Int)) = some (bAV 5 (some (l.take m))) := fun hp => sl_to (by omega)
        have s2 : ∀ hp : H, slSl hp 1 (bAV 5 (some l)) (some (m : Int)) (some (l.length : Int)) = some (bAV 5 (some (l.drop m))) := fun hp => sl_from (by omega)
        have hpc : ∀ es, partsC 5 (l.take m :: es) = partC 5 (l.take m) ++ partsC 5 es := fun _ => rfl
        have hcl : ∃ a b c d, partC 5 (l.take m) = [.str a, .int .i64 b, bAV 5 (some c), bAV 5 (some d)] := ⟨_, _, _, _, rfl⟩
        obtain ⟨ca, cb, cc, cd, hcl⟩ := hcl
        rw [hcl] at hpt hpc
        generalize l.take m = X at *
        have ha : ∀ hp : H, apV hp 76 4 72 false (pre.av 76 4) (.slice (.own true) 76 4 [.str ca, .int .i64 cb, bAV 5 (some cc), bAV 5 (some cd)]) = some ((pre.app [.str ca, .int .i64 cb, bAV 5 (some cc), bAV 5 (some cd)]).av 76 4) := fun hp =>
          RS.apV (by simp only [List.length_cons, List.length_nil, tooLong]; omega) (by simp only [List.length_cons, List.length_nil, tooLong]; omega)
        simp [h2, h3, h7, g, hd, hpt, s1, s2, bl, w1, ha, ex2_0, ex2_1]
        refine l_DocParts f (n - m) (l.drop m) (pre.app [.str ca, .int .i64 cb, bAV 5 (some cc), bAV 5 (some cd)]) _ ?_ ?_ ?_ ?_ ?_ (by omega) (by omega) ?_ Q (fun hb st' k1 k2 k3 => hA hb st' ?_ ?_ k3) (fun hb st' k1 k2 k3 k4 => hB hb st' ?_ ?_ k3 k4)
        · simp
        · simp
        · simp
        · omega
        · omega
        · rw [RS.l_app]; simp only [List.length_append, List.length_cons, List.length_nil]; omega
        · rw [k1]
        · rw [k2, RS.app_app, hpc]
        · rw [k1]
        · rw [k2, RS.app_app, hpc]
def wP (l : List UInt8) : List (List UInt8) × Bool := if okL l then partsR (l.length + 1) (num32 l - 4) (l.drop 4) else ([], false)
def wT (o : Option (List UInt8)) : Option (List UInt8) := if okL (bl o) then some (partsT ((bl o).length + 1) (num32 (bl o) - 4) ((bl o).drop 4)) else o
theorem c_DocParts (o : Option (List UInt8)) (hl : (bl o).length ≤ 5000) : ∀ hE : H, callω fns 32 [bAV 5 o] hE = some (.tup [(RS.mk (partsC 5 (wP (bl o)).1)).av 76 4, bAV 5 (wT o), .bool (wP (bl o)).2], hE) := by
  intro hE
  have hN := c_DocNumber o
  have hr := num32_range (bl o)
  unfold wP wT
  by_cases hk : okL (bl o) = true
  case neg =>
    simp only [Bool.not_eq_true] at hk
    have hno : ¬ (4 ≤ (bl o).length ∧ 0 ≤ num32 (bl o)) := by intro h; unfold okL at hk; simp [h.1, h.2] at hk
    rw [hk]
    simp only [Bool.false_eq_true, if_false]
    generalize num32 (bl o) = N at *
    refine run32 (Nat.le_of_ble_eq_true rfl) ?_
    by_cases g1 : 4 ≤ (bl o).length
    · have g2 : N < 0 := by omega
      simp [hN, g1, g2, ex2_0, ex2_1, partsC, RS.mk, RS.app, RS.av]
    · simp [hN, g1, ex2_0, ex2_1, partsC, RS.mk, RS.app, RS.av]
  case pos =>
    obtain ⟨h4, h0⟩ := okL_le hk
    obtain ⟨l, rfl⟩ : ∃ l, o = some l := by cases o with | none => simp [bl] at h4 | some l => exact ⟨l, rfl⟩
    rw [hk]
    simp only [bl, if_true] at *
    have hd : (l.drop 4).length = l.length - 4 := by simp
    have w : IntKind.i64.wrap (num32 l - 4) = num32 l - 4 := wrap_i64 (by omega) (by omega)
    have g2 : ¬ num32 l < 0 := by omega
    have s2 : ∀ hp : H, slSl hp 1 (bAV 5 (some l)) (some 4) (some (l.length : Int)) = some (bAV 5 (some (l.drop 4))) := fun hp => sl_from (m := 4) (by omega)
    generalize num32 l = N at *
    generalize l.drop 4 = L at *
    refine run32 (Nat.le_of_ble_eq_true rfl) ?_
    simp [hN, h4, g2, w, s2, bl, ex2_0, ex2_1]
    refine l_DocParts (l.length + 1) (N - 4) L RS.nil _ ?_ ?_ ?_ ?_ ?_ (by omega) (by omega) ?_ _ (fun hb st' k1 k2 k3 => ?_) (fun hb st' k1 k2 k3 k4 => ?_)
    · simp [RS.av]
    · simp
    · simp
    · omega
    · omega
    · simp [RS.l]; omega
    · rw [RS.nil_app] at k2
      simp [k1, k2, k3, hb]
    · rw [RS.nil_app] at k2
      simp [k1, k2, k3, k4, hb]
theorem c_DocGood (a e : List UInt8) (k : Int) (h0 : 0 ≤ k) (h1 : k < 256) (d : List UInt8) (hl : d.length ≤ 5000) : ∀ hE : H, callω fns 33 [.agg [.str a, .int .i64 k, bAV 5 (some d), bAV 5 (some e)]] hE = some (.bool (vGet k d).isSome, hE) := by
  intro hE
  obtain ⟨m, _, hs⟩ := c_DocSpan k h0 h1 (some d) (by simpa [bl] using hl)
  simp only [bl] at hs
  generalize (vGet k d).isSome = b at *
  refine run33 (Nat.le_of_ble_eq_true rfl) ?_
  simp [hs, ex2_0, ex2_1]
theorem RS.fv_at4 {e : Nat} {b : RS} {k m : Nat} {pre r : List AV} (h : b.l = pre ++ r) (hp : pre.length = k * 4) (hm : b.l.length = m * 4) (hk : k < m) : ixV 4 (b.fv e 4) (.int .i64 (k : Int)) = some (.eptr r) := by
  rw [RS.fv_ix (by omega) hm hk, h, List.drop_left' hp]
theorem RS.fv_cut {hp : H} {e sz : Nat} {b : RS} {k m : Nat} (hs : 0 < sz) (hm : b.l.length = m * sz) (hk : k < m) : slSl hp sz (b.fv e sz) (some 0) (some (k : Int)) = some (.slice .frz e sz (b.l.take (k * sz))) := by
  cases b with
  | nil => simp only [RS.l, List.length_nil] at hm; have : 0 < m * sz := Nat.mul_pos (by omega) hs; omega
  | own f xs =>
    simp only [RS.l] at hm ⊢
    simp only [RS.fv, slSl]
    have h1 : xs.length / sz = m := by rw [hm, Nat.mul_div_cancel _ hs]
    rw [if_pos ⟨by omega, by omega, by omega, .inr trivial⟩]
    simp
theorem wP_mem {l : List UInt8} (hl : l.length ≤ 5000) : (wP l).1.length ≤ 5000 ∧ ∀ e ∈ (wP l).1, (eOk e = (vGet (kv e).1 (kv e).2).isSome ∧ (kv e).2.length ≤ 5000) ∧ e.length ≤ 5000 ∧ e ≠ [] := by
  unfold wP
  split
  · refine ⟨by have := (partsR_len (l.length + 1) (num32 l - 4) (l.drop 4)).2; rw [List.length_drop] at this; omega, fun e he => ?_⟩
    obtain ⟨l', m, h1, rfl, h3⟩ := partsR_ne _ _ _ e he
    rw [List.length_drop] at h3
    have h4 := kv_len (l'.take m)
    have h5 := eGet_le h1
    rw [List.length_take] at h4
    refine ⟨⟨eOk_kv h1, by omega⟩, by rw [List.length_take]; omega, fun e0 => ?_⟩
    have : (l'.take m).length = 0 := by rw [e0]; rfl
    rw [List.length_take] at this; omega
  · exact ⟨by simp, fun e he => by simp at he⟩
end Go.Proofs.YtdnfnobgeddbfaaGreatDoor.Abs
