/- What the law's function FnBindLookup computes. -/
import Derived.Test.YtdnfnobgeddbfaaDoorEDoc4
import Derived.Test.YtdnfnobgeddbfaaDoorEB8
import Derived.Test.YtdnfnobgeddbfaaDoorEBind
namespace Go.Proofs.YtdnfnobgeddbfaaDoor.Abs
set_option linter.all false
open Go.Proofs
set_option linter.unusedVariables false
set_option linter.unusedSimpArgs false
set_option maxRecDepth 100000
set_option maxHeartbeats 8000000

theorem l_FnBindLookup {b : RS} {ps : List (List UInt8)} (hb : b.l = ps.map AV.str) (hps : ps.length ≤ 20) (hfit : ∀ x ∈ ps, x.length ≤ 2147483647) : ∀ (rest pre : List (List UInt8)) (st : St), ps = pre ++ rest → st.s 1 = b.fv 9 1 → st.s 7 = .int .i64 pre.length → ∀ Q : Ex × St → Prop,
    (∀ st' : St, st'.h = st.h → st'.b = st.b → st'.s 1 = st.s 1 → st'.s 2 = st.s 2 → st'.s 5 = st.s 5 → Q (.exit 0, st')) → (∀ st' : St, st'.h = st.h → st'.s 4 = .bool true → Q (.ret, st')) → LoopR fns lc4_0 st Q
  | [], pre, st, hp, h1, h7, Q, hA, hB => by
    refine loopω_run fns ?_
    have hn : aLen false (b.fv 9 1) = some (.int .i64 pre.length) := by rw [RS.fv_len1, hb, hp]; simp
    simp [h1, h7, hn]
    refine hA _ ?_ ?_ ?_ ?_ ?_ <;> simp [h1]
  | a :: rest, pre, st, hp, h1, h7, Q, hA, hB => by
    refine loopω_run fns ?_
    have hlen : ps.length = pre.length + (rest.length + 1) := by rw [hp]; simp
    have hlt : (pre.length : Int) < pre.length + (rest.length + 1) := by omega
    have hn : aLen false (b.fv 9 1) = some (.int .i64 ((pre.length : Int) + (rest.length + 1))) := by rw [RS.fv_len1, hb, List.length_map, hlen]; simp
    have hx := RS.fv_at' (e := 9) (b := b) (k := pre.length) (pre := pre.map AV.str) (r := rest.map AV.str) (x := .str a) (by rw [hb, hp]; simp) (by simp)
    have hw2 : IntKind.i64.wrap ((pre.length : Int) + 1) = pre.length + 1 := wrap_i64 (by omega) (by omega)
    have hP := c_DocPlain a (by have := hfit a (by rw [hp]; simp); simp [maxLen]; omega)
    cases hpl : plainL a with
    | false =>
      rw [hpl] at hP
      simp [h1, h7, hn, hlt, hx, hP]
      refine hB _ ?_ ?_ <;> simp
    | true =>
      rw [hpl] at hP
      simp [h1, h7, hn, hlt, hx, hP, hw2]
      refine l_FnBindLookup hb hps hfit rest (pre ++ [a]) _ ?_ ?_ ?_ Q (fun st' q1 q2 q3 q4 q5 => hA st' ?_ ?_ ?_ ?_ ?_) (fun st' q1 q2 => hB st' ?_ q2)
      · rw [hp]; simp
      · simp [h1]
      · simp
      · rw [q1]
      · rw [q2]
      · rw [q3]; simp [h1]
      · rw [q4]; simp
      · rw [q5]; simp
      · rw [q1]

theorem law_FnBindLookup (v : Tr) (hW : v.wf) (b : RS) (ps : List (List UInt8)) (hb : b.l = ps.map AV.str) (h : H) {s : Nat → Nat × Nat} (hS : Sens h.Γ s) : CW fns 4 [.agg (v.cells 5 53), b.fv 9 1] h fun q => q.1 = .bool true := by
  refine (runs4 (Nat.le_of_ble_eq_true rfl) ?_)
  obtain ⟨bz, hz⟩ := c_zzFits1 v
  obtain ⟨bz2, hz3, hz2⟩ := c_zzFits2 b ps hb
  have hn : aLen false (b.fv 9 1) = some (.int .i64 ps.length) := by rw [RS.fv_len1, hb, List.length_map]
  cases v with
  | mk k t m n bi hi bb kn ks =>
  have hD := c_bindDoc k t m n bi hi bb kn ks hW
  have hF := fun h => docOk_facts (k := k) (t := t) (m := m) (n := n) (bi := bi) (hi := hi) (bb := bb) (kn := kn) (ks := ks) hW h
  generalize docOk (.mk k t m n bi hi bb kn ks) = F at *
  simp only [Tr.cells] at *
  cases bz
  · simp [hz]
  cases bz2
  · simp [hz, hz2]
  cases F
  · simp only [Bool.false_eq_true, if_false] at hD
    simp [hz, hz2, hD, ex2_0, ex2_1]
  obtain ⟨f1, f2, f3, f4⟩ := hF rfl
  obtain ⟨d1, d2, d3, d4, d5, d6⟩ := doc_facts f1 f2
  simp only [if_true] at hD
  have hmk : BS.mk ks.doc = .own true ks.doc := by cases hd : ks.doc <;> first | exact absurd hd d1 | rfl
  rw [hmk] at hD
  by_cases hp : ps = []
  · have hn0 : ps.length = 0 := by rw [hp]; rfl
    rw [hn0] at hn
    simp [hz, hz2, hD, hn, ex2_0, ex2_1]
  have hp0 : ¬ (ps.length : Int) = 0 := fun e => hp (List.length_eq_zero_iff.1 (by omega))
  have hp0' : ¬ ps.length = 0 := by omega
  by_cases hl : 20 < ps.length
  · have hl' : (20 : Int) < ps.length := by omega
    simp [hz, hz2, hD, hn, hp, hp0, hp0', hl, hl', ex2_0, ex2_1]
  have hl' : ¬ (20 : Int) < ps.length := by omega
  have hbf : b.fv 9 1 = (strsR ps).fv 9 1 := by
    cases b with
    | nil => simp only [RS.l] at hb; exact absurd (List.map_eq_nil_iff.1 hb.symm) hp
    | own f xs => simp only [RS.l] at hb; rw [hb]; rfl
  have hLk := c_DocLook ks kn b ps hb (by omega) hp f3 f4
  have hok := lookT_ok ps ks
  have hrange : 0 ≤ lookK (lookT ps ks) ∧ lookK (lookT ps ks) < 256 := by
    cases hw : lookT ps ks with
    | none => simp [lookK]
    | some w => obtain ⟨_, _, d, hd⟩ := hok w hw f2 f3; exact kind_range hd
  have hvl : (bl (lookB (lookT ps ks))).length < 2147483648 := by
    cases hw : lookT ps ks with
    | none => simp [lookB, bl]
    | some w =>
      obtain ⟨_, hs, _⟩ := hok w hw f2 f3
      have := Tr.val_le w
      have hvs : w.sz = w.nb + 18 * w.nodes := rfl
      simp only [lookB, bl]; omega
  obtain ⟨c, hc, hRL⟩ := c_RawLookup (s := s) ps hp (by omega) ks f2 f1 hrange hvl
  rw [← hbf] at hRL
  have hRL' := fun (g : H) (hg : g.Γ = h.Γ) => hRL g (by rw [hg]; exact hS)
  have ho1 : (BS.own true ks.doc).opt = some ks.doc := rfl
  have ho2 : (BS.own true ks.doc).sh.opt = some ks.doc := rfl
  simp [hz, hz2, hD, hn, hp, hp0, hp0', hl, hl', ex2_0, ex2_1]
  refine l_FnBindLookup hb (by omega) (hz3 rfl) ps [] _ rfl ?_ ?_ _ (fun st' q1 q2 q3 q4 q5 => ?_) (fun st' q1 q2 => ?_)
  · simp
  · simp
  · simp at q1 q2 q3 q4 q5
    have hI := hRL h.mask hS
    cases hw : lookT ps ks with
    | none =>
      rw [hw] at hLk hI hc
      have hc' : ¬ c = 0 := fun e => by have := hc.1 e; simp at this
      simp only [zeroC] at hLk
      simp [q1, q2, q3, q4, q5, hI, hLk, hc', lookK, lookB, ho1, ho2, hn, ex2_0, ex2_1]
    | some w =>
      rw [hw] at hLk hI hc
      have hc' : c = 0 := hc.2 (by simp)
      subst hc'
      obtain ⟨hww, hws, _⟩ := hok w hw f2 f3
      have hbr := c_BindRaw w hww (by omega)
      have hbs := c_BindSame w.kind w.kind (oB w.val) (oB w.val)
      simp only [lookK, lookB, bl] at hI
      generalize w.kind = wk at *
      generalize oB w.val = wv at *
      cases w with
      | mk k' t' m' n' bi' hi' bb' kn' ks' =>
      simp only [Tr.cells] at hLk hbr
      simp [q1, q2, q3, q4, q5, hI, hLk, hbr, hbs, ho1, ho2, hn, ex2_0, ex2_1]
  · simp [q1, q2]
end Go.Proofs.YtdnfnobgeddbfaaDoor.Abs
