/- What the law's function FnExtStamps computes. -/
import Derived.Test.YtcipaobalemdoaaTR6
import Derived.Test.YtcipaobalemdoaaFFnExtStamps
namespace Go.Proofs.Ytcipaobalemdoaa.Abs
set_option linter.all false
open Go.Proofs
set_option linter.unusedVariables false
set_option linter.unusedSimpArgs false
set_option maxRecDepth 100000
set_option maxHeartbeats 4000000

/-! ### Sizes -/
def fitsLs (ss : List (List UInt8)) : Bool := decide (ss.length ≤ 2147483647) && ss.all fun s => decide (s.length ≤ 2147483647)
theorem l_fits2 {b : RS} {ss : List (List UInt8)} (hb : b.l = ss.map AV.str) (hn : ss.length ≤ 2147483647) : ∀ (r pre : List (List UInt8)) (st : St), ss = pre ++ r → st.s 8 = b.fv 9 1 → st.s 9 = .int .i64 (ss.length : Int) → st.s 10 = .int .i64 (pre.length : Int) →
    ∀ Q : Ex × St → Prop, (r.all (fun s => decide (s.length ≤ 2147483647)) = true → ∀ st' : St, st'.h = st.h → Q (.exit 0, st')) → (r.all (fun s => decide (s.length ≤ 2147483647)) = false → ∀ st' : St, st'.h = st.h → st'.s 2 = .bool false → Q (.ret, st')) → LoopR fns lc4_0 st Q := by
  intro r
  induction r with
  | nil =>
    intro pre st he h8 h9 h10 Q hQ _
    refine loopω_run fns ?_
    have : ss.length = pre.length := by rw [he]; simp
    simp [h9, h10, this]
    exact hQ rfl _ rfl
  | cons s r ih =>
    intro pre st he h8 h9 h10 Q hQ hQ2
    refine loopω_run fns ?_
    have hlt : (pre.length : Int) < (ss.length : Int) := by rw [he]; simp; omega
    have hix := RS.fv_at (e := 9) (b := b) (pre := pre.map AV.str) (x := .str s) (r := r.map AV.str) (by rw [hb, he]; simp)
    simp only [List.length_map] at hix
    have hw : IntKind.i64.wrap ((pre.length : Int) + 1) = (pre.length : Int) + 1 := wrap_i64 (by omega) (by omega)
    by_cases hsl : (2147483647 : Int) < (s.length : Int)
    · simp [h8, h9, h10, hlt, hix, hsl]
      have : ¬ s.length ≤ 2147483647 := by omega
      exact hQ2 (by simp [this]) _ rfl (by simp)
    · simp [h8, h9, h10, hlt, hix, hsl, hw]
      have : s.length ≤ 2147483647 := by omega
      exact ih (pre ++ [s]) _ (by rw [he]; simp) (by simp [h8]) (by simp [h9]) (by simp) Q (fun hr => hQ (by simp [this, hr])) (fun hr => hQ2 (by simp [this, hr]))
theorem c_zzFits2 {b : RS} {ss : List (List UInt8)} (hb : b.l = ss.map AV.str) : ∀ hE : H, callω fns 4 [b.fv 9 1] hE = some (.bool (fitsLs ss), hE) := by
  intro hE
  refine run4 (Nat.le_of_ble_eq_true rfl) ?_
  have hlen := RS.fv_len1 9 b
  rw [hb, List.length_map] at hlen
  by_cases h1 : (2147483647 : Int) < (ss.length : Int)
  · have : fitsLs ss = false := by simp [fitsLs, show ¬ ss.length ≤ 2147483647 by omega]
    simp [hlen, h1, this]
  have h1' : ss.length ≤ 2147483647 := by omega
  simp [hlen, h1]
  refine l_fits2 hb h1' ss [] _ rfl ?_ ?_ ?_ _ (fun hr st' e => ?_) (fun hr st' e e2 => ?_)
  · simp
  · simp
  · simp
  · have : fitsLs ss = true := by simp only [fitsLs, h1', hr, decide_true, Bool.and_self]
    simp [e, this]
  · have : fitsLs ss = false := by simp only [fitsLs, hr, Bool.and_false]
    simp [e, e2, this]

def plainLs (ss : List (List UInt8)) : Bool := decide (ss.length ≤ 6) && ss.all fun s => decide (s.length ≤ 300)
theorem l_plain0 {b : RS} {ss : List (List UInt8)} (hb : b.l = ss.map AV.str) (hn : ss.length ≤ 6) : ∀ (r pre : List (List UInt8)) (st : St), ss = pre ++ r → st.s 16 = b.fv 9 1 → st.s 17 = .int .i64 (ss.length : Int) → st.s 18 = .int .i64 (pre.length : Int) →
    ∀ Q : Ex × St → Prop, (r.all (fun s => decide (s.length ≤ 300)) = true → ∀ st' : St, st'.h = st.h → (∀ k, k < 16 → k ≠ 6 → st'.s k = st.s k) → Q (.exit 2, st')) →
      (r.all (fun s => decide (s.length ≤ 300)) = false → ∀ st' : St, st'.h = st.h → st'.s 2 = .bool false → Q (.ret, st')) → LoopR fns lc5_0 st Q := by
  intro r
  induction r with
  | nil =>
    intro pre st he h8 h9 h10 Q hQ _
    refine loopω_run fns ?_
    have : ss.length = pre.length := by rw [he]; simp
    simp [h9, h10, this]
    exact hQ rfl _ rfl (fun k hk _ => by simp [show ¬ k = 19 by omega])
  | cons s r ih =>
    intro pre st he h8 h9 h10 Q hQ hQ2
    refine loopω_run fns ?_
    have hlt : (pre.length : Int) < (ss.length : Int) := by rw [he]; simp; omega
    have hix := RS.fv_at (e := 9) (b := b) (pre := pre.map AV.str) (x := .str s) (r := r.map AV.str) (by rw [hb, he]; simp)
    simp only [List.length_map] at hix
    have hw : IntKind.i64.wrap ((pre.length : Int) + 1) = (pre.length : Int) + 1 := wrap_i64 (by omega) (by omega)
    by_cases hsl : (300 : Int) < (s.length : Int)
    · simp [h8, h9, h10, hlt, hix, hsl]
      refine hQ2 ?_ _ rfl (by simp)
      have : ¬ s.length ≤ 300 := by omega
      simp [this]
    · simp [h8, h9, h10, hlt, hix, hsl, hw]
      have : s.length ≤ 300 := by omega
      refine ih (pre ++ [s]) _ (by rw [he]; simp) (by simp [h8]) (by simp [h9]) (by simp) Q (fun hr st' e1 e2 => hQ (by simp [this, hr]) st' e1 fun k hk hk6 => ?_) (fun hr => hQ2 (by simp [this, hr]))
      rw [e2 k hk hk6]; simp [hk6, show ¬ k = 16 by omega, show ¬ k = 17 by omega, show ¬ k = 18 by omega, show ¬ k = 19 by omega, show ¬ k = 20 by omega, show ¬ k = 21 by omega, show ¬ k = 22 by omega, show ¬ k = 23 by omega, show ¬ k = 24 by omega, show ¬ k = 25 by omega]
theorem c_extPlain {b : RS} {ss : List (List UInt8)} (hb : b.l = ss.map AV.str) (hn : ss.length ≤ reachBytes) : ∀ hE : H, callω fns 5 [.slice .frz 22 1 [b.fv 9 1]] hE = some (.bool (plainLs ss), hE) := by
  intro hE
  refine run5 (Nat.le_of_ble_eq_true rfl) ?_
  have hlen := RS.fv_len1 9 b
  rw [hb, List.length_map] at hlen
  have hix : ixV 1 (.slice .frz 22 1 [b.fv 9 1]) (.int .i64 0) = some (.eptr [b.fv 9 1]) := by simp [ixV]
  simp
  refine loopω_run fns ?_
  by_cases h6 : (6 : Int) < (ss.length : Int)
  · have : plainLs ss = false := by simp [plainLs, show ¬ ss.length ≤ 6 by omega]
    simp [hix, hlen, h6, this]
  · have h6' : ss.length ≤ 6 := by omega
    simp [hix, hlen, h6]
    refine l_plain0 hb h6' ss [] _ rfl ?_ ?_ ?_ _ (fun hr st' e1 e2 => ?_) (fun hr st' e1 e2 => ?_)
    · simp
    · simp
    · simp
    · have k9 := e2 9 (by omega) (by omega)
      have k8 := e2 8 (by omega) (by omega)
      simp at k9 k8 e1
      clear e2
      have hp : plainLs ss = true := by simp only [plainLs, h6', hr, decide_true, Bool.and_self]
      have hw : IntKind.i64.wrap 1 = 1 := by decide
      simp [k9, k8, hp, hw]
      refine loopω_run fns ?_
      simp [k9, k8, e1, hw]
    · have hp : plainLs ss = false := by simp only [plainLs, hr, Bool.and_false]
      simp [e1, e2, hp]

/-! ### What is read -/
theorem c_errorsNew (s : List UInt8) : ∀ hE : H, callω fns 11 [.str s] hE = some (.iface 54 (.ptr (.obj hE.n) 0), hE.push (.cells [.str s])) := by
  intro hE
  refine run11 (Nat.le_of_ble_eq_true rfl) ?_
  simp [mkI]
theorem u32_in {n : Int} (h0 : 0 ≤ n) (h1 : n ≤ 4294967295) : IntKind.u32.wrap n = n := by simp [IntKind.wrap, IntKind.signed, IntKind.bits]; omega
theorem c_handleKey {hE : H} {i : Nat} {n : Int} (hg : hE.get i = some (.cells [.int .u8 18, .iface 2 (.int .i64 n)])) (s : List UInt8) (f : Bool) :
    (f = false ∧ 0 ≤ n ∧ n ≤ 4294967295 → callω fns 12 [.str s, .ptr (.obj i) 0, .bool f] hE = some (.tup [.int .u32 n, .nilI], hE)) ∧
    (¬ (f = false ∧ 0 ≤ n ∧ n ≤ 4294967295) → ∃ m, callω fns 12 [.str s, .ptr (.obj i) 0, .bool f] hE = some (.tup [.int .u32 0, .iface 54 (.ptr (.obj hE.n) 0)], hE.push (.cells [.str m]))) := by
  have hset := H.set_get hg
  constructor
  · rintro ⟨rfl, h0, h1⟩
    refine run12 (Nat.le_of_ble_eq_true rfl) ?_
    have a1 : ¬ n < 0 := by omega
    have a2 : ¬ (4294967295 : Int) < n := by omega
    simp [nnV, hg, hset, a1, a2, pkV, AV.several, u32_in h0 h1]
  · intro hno
    cases f with
    | true =>
      refine Exists.imp (fun m h => run12 (Nat.le_of_ble_eq_true rfl) h) ?_
      simp [c_errorsNew]
      exact ⟨_, rfl⟩
    | false =>
      refine Exists.imp (fun m h => run12 (Nat.le_of_ble_eq_true rfl) h) ?_
      by_cases a1 : n < 0
      · simp [nnV, hg, hset, a1, pkV, AV.several, c_errorsNew]
        exact ⟨_, rfl⟩
      · have a2 : (4294967295 : Int) < n := by
          have : ¬ n ≤ 4294967295 := fun h => hno ⟨rfl, by omega, h⟩
          omega
        simp [nnV, hg, hset, a1, a2, pkV, AV.several, c_errorsNew]
        exact ⟨_, rfl⟩

/-- What the members say so far: was there a t, an i; what they are. -/
def stampRun : List (List UInt8) → List Int → Bool → Bool → Int → Int → Option (Bool × Bool × Int × Int)
  | s :: ss, n :: ns, tF, iF, t, i =>
    if s = [116] then (if tF = false ∧ 0 ≤ n ∧ n ≤ 4294967295 then stampRun ss ns true iF n i else none)
    else if s = [105] then (if iF = false ∧ 0 ≤ n ∧ n ≤ 4294967295 then stampRun ss ns tF true t n else none)
    else none
  | _, _, tF, iF, t, i => some (tF, iF, t, i)
def vobj (n : Int) : Obj := .cells [.int .u8 18, .iface 2 (.int .i64 n)]

theorem l_parse {h0 : H} {b : RS} {ss : List (List UInt8)} {ns : List Int} (hb : b.l = ss.map AV.str) (hl : ns.length = ss.length) (hn : ss.length ≤ 6) {tl : List Obj} : ∀ (r : List (List UInt8)) (rn : List Int) (pre : List (List UInt8)) (pn : List Int) (st : St) (tF iF : Bool) (t i : Int) (vals : RS),
    ss = pre ++ r → ns = pn ++ rn → pre.length = pn.length → vals.l = ptrsF h0.n ns.length → st.h = h0.app (.cells [b.fv 9 1, vals.av 46 1] :: (ns.map vobj ++ tl)) →
    st.s 2 = .int .u32 t → st.s 3 = .int .u32 i → st.s 5 = .fn 12 → st.s 6 = .ptr (.obj h0.n) 0 → st.s 7 = .bool tF → st.s 8 = .bool iF → st.s 26 = b.fv 9 1 → st.s 27 = .int .i64 (ss.length : Int) → st.s 28 = .int .i64 (pre.length : Int) →
    ∀ Q : Ex × St → Prop, (∀ tF' iF' t' i', stampRun r rn tF iF t i = some (tF', iF', t', i') → ∀ st' : St, st'.s 2 = .int .u32 t' → st'.s 3 = .int .u32 i' → st'.s 7 = .bool tF' → st'.s 8 = .bool iF' → Q (.exit 0, st')) →
      (stampRun r rn tF iF t i = none → ∀ st' : St, st'.s 2 = .int .u32 0 → st'.s 3 = .int .u32 0 → (∃ v, st'.s 4 = .iface 54 v) → Q (.ret, st')) → LoopR fns lc10_0 st Q := by
  intro r
  induction r with
  | nil =>
    intro rn pre pn st tF iF t i vals he hen hpl hv hh s2 s3 s5 s6 s7 s8 s26 s27 s28 Q hQ _
    refine loopω_run fns ?_
    have : ss.length = pre.length := by rw [he]; simp
    simp [s27, s28, this]
    have hrn : rn = [] := by
      have : rn.length = 0 := by rw [hen, he] at hl; simp at hl; omega
      exact List.eq_nil_of_length_eq_zero this
    subst hrn
    exact hQ tF iF t i rfl _ (by simp [s2]) (by simp [s3]) (by simp [s7]) (by simp [s8])
  | cons s r ih =>
    intro rn pre pn st tF iF t i vals he hen hpl hv hh s2 s3 s5 s6 s7 s8 s26 s27 s28 Q hQ hQ2
    cases rn with
    | nil => rw [hen, he] at hl; simp at hl; omega
    | cons n rn =>
    refine loopω_run fns ?_
    have hlt : (pre.length : Int) < (ss.length : Int) := by rw [he]; simp; omega
    have hix := RS.fv_at (e := 9) (b := b) (pre := pre.map AV.str) (x := .str s) (r := r.map AV.str) (by rw [hb, he]; simp)
    simp only [List.length_map] at hix
    have hw : IntKind.i64.wrap ((pre.length : Int) + 1) = (pre.length : Int) + 1 := wrap_i64 (by omega) (by omega)
    obtain ⟨pp, pr, hp1, hp2⟩ := ptrsF_at h0.n ns.length pre.length (by rw [hen]; simp; omega)
    have hix2 := RS.fv_at' (e := 46) (b := vals) (by rw [hv]; exact hp1) hp2.symm
    have hobj : ∀ (c : Obj), (c :: (ns.map vobj ++ tl))[pre.length + 1]? = some (vobj n) := fun c => by
      rw [List.getElem?_cons_succ, hen, hpl]; simp
    have hget : (h0.app (.cells [b.fv 9 1, vals.sh.av 46 1] :: (ns.map vobj ++ tl))).get (h0.n + (pre.length + 1)) = some (vobj n) := by rw [H.get_app]; exact hobj _
    by_cases ht : s = [116]
    · subst ht
      obtain ⟨k1, k2⟩ := c_handleKey hget [116] tF
      by_cases hok : tF = false ∧ 0 ≤ n ∧ n ≤ 4294967295
      · have hk := k1 hok
        simp [hh, nnV, hlt, hix, hix2, s5, s6, s7, s8, s26, s27, s28, hw, hk, exV]
        refine ih rn (pre ++ [[116]]) (pn ++ [n]) _ true iF n i vals.sh (by rw [he]; simp) (by rw [hen]; simp) (by simp [hpl]) (by simp [hv]) (by simp [hh]) ?_ ?_ ?_ ?_ ?_ ?_ ?_ ?_ ?_ Q (fun tF' iF' t' i' hs => hQ tF' iF' t' i' (by simp only [stampRun, if_true, if_pos hok, hs])) (fun hs => hQ2 (by simp only [stampRun, if_true, if_pos hok, hs])) <;> simp [s2, s3, s5, s6, s7, s8, s26, s27]
      · obtain ⟨m, hk⟩ := k2 hok
        simp [hh, nnV, hlt, hix, hix2, s5, s6, s7, s8, s26, s27, s28, hw, hk, exV]
        exact hQ2 (by simp only [stampRun, if_true, if_neg hok]) _ (by simp) (by simp) (by simp)
    · by_cases hi : s = [105]
      · subst hi
        obtain ⟨k1, k2⟩ := c_handleKey hget [105] iF
        by_cases hok : iF = false ∧ 0 ≤ n ∧ n ≤ 4294967295
        · have hk := k1 hok
          simp [hh, nnV, hlt, hix, hix2, s5, s6, s7, s8, s26, s27, s28, hw, hk, exV]
          refine ih rn (pre ++ [[105]]) (pn ++ [n]) _ tF true t n vals.sh (by rw [he]; simp) (by rw [hen]; simp) (by simp [hpl]) (by simp [hv]) (by simp [hh]) ?_ ?_ ?_ ?_ ?_ ?_ ?_ ?_ ?_ Q (fun tF' iF' t' i' hs => hQ tF' iF' t' i' (by simp only [stampRun, if_neg ht, if_true, if_pos hok, hs])) (fun hs => hQ2 (by simp only [stampRun, if_neg ht, if_true, if_pos hok, hs])) <;> simp [s2, s3, s5, s6, s7, s8, s26, s27]
        · obtain ⟨m, hk⟩ := k2 hok
          simp [hh, nnV, hlt, hix, hix2, s5, s6, s7, s8, s26, s27, s28, hw, hk, exV]
          exact hQ2 (by simp only [stampRun, if_neg ht, if_true, if_neg hok]) _ (by simp) (by simp) (by simp)
      · have ht' : (s == [116]) = false := by simp [ht]
        have hi' : (s == [105]) = false := by simp [hi]
        simp [hh, nnV, hlt, hix, hix2, s5, s6, s7, s8, s26, s27, s28, hw, ht', hi', c_errorsNew]
        exact hQ2 (by simp only [stampRun, if_neg ht, if_neg hi]) _ (by simp) (by simp) (by simp)

/-- What the members say. -/
def stampOf (ss : List (List UInt8)) (ns : List Int) : Option (Int × Int) :=
  match stampRun ss ns false false 0 0 with
  | some (true, true, t, i) => some (t, i)
  | _ => none
/-- An answer: both numbers, or an error. -/
def stampAns (o : Option (Int × Int)) (v : AV) : Prop :=
  match o with
  | some (t, i) => v = .tup [.int .u32 t, .int .u32 i, .nilI]
  | none => ∃ x, v = .tup [.int .u32 0, .int .u32 0, .iface 54 x]
theorem stampAns_some {t i : Int} {v : AV} : stampAns (some (t, i)) v ↔ v = .tup [.int .u32 t, .int .u32 i, .nilI] := Iff.rfl
theorem stampAns_none {v : AV} : stampAns none v ↔ ∃ x, v = .tup [.int .u32 0, .int .u32 0, .iface 54 x] := Iff.rfl

theorem c_parse {h0 : H} {b : RS} {ss : List (List UInt8)} {ns : List Int} (hb : b.l = ss.map AV.str) (hl : ns.length = ss.length) (hn : ss.length ≤ 6) (vals : RS) (hv : vals.l = ptrsF h0.n ns.length) :
    CW fns 10 [.ptr (.obj (h0.n + (ns.length + 1))) 0] (h0.app (.cells [b.fv 9 1, vals.av 46 1] :: (ns.map vobj ++ [.cells [.int .u8 3, .iface 42 (.ptr (.obj h0.n) 0)]]))) (fun q => stampAns (stampOf ss ns) q.1) := by
  refine runs10 (Nat.le_of_ble_eq_true rfl) ?_
  have hlen := RS.fv_len1 9 b
  rw [hb, List.length_map] at hlen
  have ho : ∀ c : Obj, (c :: (ns.map vobj ++ [Obj.cells [.int .u8 3, .iface 42 (.ptr (.obj h0.n) 0)]]))[ns.length + 1]? = some (.cells [.int .u8 3, .iface 42 (.ptr (.obj h0.n) 0)]) := fun c => by simp
  have hset := H.set_app_same h0 (.cells [b.fv 9 1, vals.av 46 1] :: (ns.map vobj ++ [.cells [.int .u8 3, .iface 42 (.ptr (.obj h0.n) 0)]])) (ho _)
  simp [nnV, ho, hset, hlen]
  refine l_parse hb hl hn ss ns [] [] _ false false 0 0 vals rfl rfl rfl hv rfl ?_ ?_ ?_ ?_ ?_ ?_ ?_ ?_ ?_ _ (fun tF iF t i hs st' e2 e3 e7 e8 => ?_) (fun hs st' e2 e3 e4 => ?_)
  · simp
  · simp
  · simp
  · simp
  · simp
  · simp
  · simp
  · simp
  · simp
  · have hst : stampOf ss ns = if tF = true ∧ iF = true then some (t, i) else none := by
      unfold stampOf; rw [hs]; cases tF <;> cases iF <;> rfl
    rw [hst]
    cases tF with
    | false => simp [e7, c_errorsNew, stampAns_none]
    | true =>
      cases iF with
      | false => simp [e7, e8, c_errorsNew, stampAns_none]
      | true => simp [e7, e8, e2, e3, stampAns_some]
  · have hst : stampOf ss ns = none := by unfold stampOf; rw [hs]
    rw [hst]
    obtain ⟨x, e4⟩ := e4
    simp [e2, e3, e4, stampAns_none]

theorem l_stamp {h0 : H} {bn : RS} {l : RS} {ns : List Int} (hl : l.l = ns.map (AV.int .i64)) (hn : ns.length ≤ 6) : ∀ (r pn : List Int) (st : St), ns = pn ++ r →
    st.h = h0.app (.cells [bn.fv 9 1, (RS.mk (ptrsF h0.n pn.length)).av 46 1] :: pn.map vobj) → st.s 7 = .ptr (.obj h0.n) 0 → st.s 13 = l.fv 2 1 → st.s 14 = .int .i64 (ns.length : Int) → st.s 15 = .int .i64 (pn.length : Int) →
    ∀ Q : Ex × St → Prop, (∀ st' : St, st'.h = h0.app (.cells [bn.fv 9 1, (RS.mk (ptrsF h0.n ns.length)).av 46 1] :: ns.map vobj) → st'.s 7 = .ptr (.obj h0.n) 0 → Q (.exit 0, st')) → LoopR fns lc9_0 st Q := by
  intro r
  induction r with
  | nil =>
    intro pn st he hh s7 s13 s14 s15 Q hQ
    refine loopω_run fns ?_
    have hpn : ns = pn := by rw [he]; simp
    subst hpn
    simp [s14, s15]
    exact hQ _ (by simp [hh]) (by simp [s7])
  | cons n r ih =>
    intro pn st he hh s7 s13 s14 s15 Q hQ
    refine loopω_run fns ?_
    have hlt : (pn.length : Int) < (ns.length : Int) := by rw [he]; simp; omega
    have hlen : pn.length < 6 := by have : pn.length < ns.length := by omega
                                    omega
    have hix := RS.fv_at (e := 2) (b := l) (pre := pn.map (AV.int .i64)) (x := .int .i64 n) (r := r.map (AV.int .i64)) (by rw [hl, he]; simp)
    simp only [List.length_map] at hix
    have hw : IntKind.i64.wrap ((pn.length : Int) + 1) = (pn.length : Int) + 1 := wrap_i64 (by omega) (by omega)
    have hap : ∀ hp : H, apV hp 46 1 8 false ((RS.mk (ptrsF h0.n pn.length)).av 46 1) (.slice (.own true) 46 1 [.ptr (.obj (h0.n + (pn.length + 1))) 0]) = some ((RS.mk (ptrsF h0.n (pn.length + 1))).av 46 1) := fun hp => by
      have := RS.apV (h := hp) (e := 46) (sz := 1) (by' := 8) (f := true) (b := RS.mk (ptrsF h0.n pn.length)) (ys := [.ptr (.obj (h0.n + (pn.length + 1))) 0]) (by simp [tooLong]; omega) (by simp [tooLong]; omega)
      rw [RS.mk_app, ← ptrsF_succ] at this; exact this
    simp [hh, nnV, hlt, hix, s7, s13, s14, s15, hw, mkI, H.app_push, hap]
    refine ih (pn ++ [n]) _ (by rw [he]; simp) ?_ ?_ ?_ ?_ ?_ Q hQ
    · simp [vobj]
    · simp [s7]
    · simp [s13]
    · simp [s14]
    · simp
theorem c_ZzStamp {b l : RS} {ss : List (List UInt8)} {ns : List Int} (hb : b.l = ss.map AV.str) (hlb : l.l = ns.map (AV.int .i64)) (hl : ns.length = ss.length) (hn : ss.length ≤ 6) (hE : H) :
    CW fns 9 [b.fv 9 1, l.fv 2 1] hE (fun q => stampAns (stampOf ss ns) q.1) := by
  refine runs9 (Nat.le_of_ble_eq_true rfl) ?_
  have hlen := RS.fv_len1 2 l
  rw [hlb, List.length_map] at hlen
  simp [hlen, H.push_app]
  refine l_stamp (h0 := hE) (bn := b) hlb (by omega) ns [] _ rfl ?_ ?_ ?_ ?_ ?_ _ (fun st' e1 e2 => ?_)
  · simp [RS.mk, RS.app, RS.av]
  · simp
  · simp
  · simp
  · simp
  · simp [e1, e2, mkI, H.app_push]
    refine gH_of (st := ⟨_, _, _⟩) (c_parse (h0 := hE) hb hl hn (RS.mk (ptrsF hE.n ns.length)) (by simp)) fun v h' hp => ?_
    cases ho : stampOf ss ns with
    | none => rw [ho] at hp; obtain ⟨x, rfl⟩ := hp; simp [exV, stampAns_none]
    | some ti => obtain ⟨t, i⟩ := ti; rw [ho] at hp; simp only [stampAns_some] at hp; subst hp; simp [exV, stampAns_some]

/-! ### What is to be read -/
def chkS (t i : Int) : Option (Int × Int) := if t < 0 ∨ i < 0 ∨ 4294967295 < t ∨ 4294967295 < i then none else some (t, i)
def specS : List (List UInt8) → List Int → Option (Int × Int)
  | [a, b], [x, y] => if a = [105] ∧ b = [116] then chkS y x else if a = [116] ∧ b = [105] then chkS x y else none
  | _, _ => none
theorem stampRun_more (s : List UInt8) (ss : List (List UInt8)) (n : Int) (ns : List Int) (t i : Int) : stampRun (s :: ss) (n :: ns) true true t i = none := by
  simp [stampRun]
theorem stamp_law : ∀ (ss : List (List UInt8)) (ns : List Int), ns.length = ss.length → stampOf ss ns = specS ss ns
  | [], [], _ => rfl
  | [a], [x], _ => by
    simp only [stampOf, stampRun, specS]
    by_cases h1 : a = [116] <;> by_cases h2 : a = [105] <;> simp [h1, h2] <;> split <;> simp_all
  | [a, b], [x, y], _ => by
    simp only [stampOf, stampRun, specS, chkS]
    by_cases h1 : a = [116]
    · subst h1
      by_cases h2 : b = [105]
      · subst h2
        by_cases h3 : 0 ≤ x ∧ x ≤ 4294967295 <;> by_cases h4 : 0 ≤ y ∧ y ≤ 4294967295
        · have : ¬ (x < 0 ∨ y < 0 ∨ 4294967295 < x ∨ 4294967295 < y) := by omega
          simp [h3, h4, this]
        · have : (x < 0 ∨ y < 0 ∨ 4294967295 < x ∨ 4294967295 < y) := by omega
          simp [h3, h4, this]
        · have : (x < 0 ∨ y < 0 ∨ 4294967295 < x ∨ 4294967295 < y) := by omega
          simp [h3, h4, this]
        · have : (x < 0 ∨ y < 0 ∨ 4294967295 < x ∨ 4294967295 < y) := by omega
          simp [h3, h4, this]
      · by_cases h3 : 0 ≤ x ∧ x ≤ 4294967295 <;> by_cases h5 : b = [116] <;> simp [h2, h3, h5]
    · by_cases h2 : a = [105]
      · subst h2
        by_cases h5 : b = [116]
        · subst h5
          by_cases h3 : 0 ≤ x ∧ x ≤ 4294967295 <;> by_cases h4 : 0 ≤ y ∧ y ≤ 4294967295
          · have : ¬ (y < 0 ∨ x < 0 ∨ 4294967295 < y ∨ 4294967295 < x) := by omega
            simp [h3, h4, this]
          · have : (y < 0 ∨ x < 0 ∨ 4294967295 < y ∨ 4294967295 < x) := by omega
            simp [h3, h4, this]
          · have : (y < 0 ∨ x < 0 ∨ 4294967295 < y ∨ 4294967295 < x) := by omega
            simp [h3, h4, this]
          · have : (y < 0 ∨ x < 0 ∨ 4294967295 < y ∨ 4294967295 < x) := by omega
            simp [h3, h4, this]
        · by_cases h3 : 0 ≤ x ∧ x ≤ 4294967295 <;> by_cases h4 : b = [105] <;> simp [h3, h4, h5]
      · simp [h1, h2]
  | a :: b :: c :: ss, x :: y :: z :: ns, _ => by
    simp only [specS, stampOf]
    have : stampRun (a :: b :: c :: ss) (x :: y :: z :: ns) false false 0 0 = none := by
      have e1 : ∀ (tF iF : Bool) (t i : Int), tF ≠ iF → stampRun (b :: c :: ss) (y :: z :: ns) tF iF t i = none := by
        intro tF iF t i h
        by_cases h1 : b = [116]
        · subst h1
          cases tF <;> cases iF <;> simp at h <;> simp only [stampRun] <;> simp <;> intros <;> exact stampRun_more _ _ _ _ _ _
        · by_cases h2 : b = [105]
          · subst h2
            cases tF <;> cases iF <;> simp at h <;> simp only [stampRun] <;> simp <;> intros <;> exact stampRun_more _ _ _ _ _ _
          · simp [stampRun, h1, h2]
      rw [stampRun]
      by_cases h1 : a = [116]
      · subst h1; simp [e1]
      · by_cases h2 : a = [105]
        · subst h2; simp [e1]
        · simp [h1, h2]
    rw [this]
  | [], _ :: _, h => by simp at h
  | _ :: _, [], h => by simp at h
  | [_], _ :: _ :: _, h => by simp at h
  | _ :: _ :: _, [_], h => by simp at h
  | [_, _], _ :: _ :: _ :: _, h => by simp at h
  | _ :: _ :: _ :: _, [_, _], h => by simp at h

def bitsS (t i : Int) : Int := orI .u64 (IntKind.u64.wrap (IntKind.u64.wrap t * 4294967296)) (IntKind.u64.wrap i)
def valC : Option (Int × Int) → List AV
  | some (t, i) => [.int .i64 17, .str [], .str [], .int .i64 0, .int .u64 (bitsS t i), .int .u64 0, .slice .nil 0 1 [], .slice .nil 0 1 []]
  | none => [.int .i64 0, .str [], .str [], .int .i64 0, .int .u64 0, .int .u64 0, .slice .nil 0 1 [], .slice .nil 0 1 []]
theorem valC_none : valC none = [.int .i64 0, .str [], .str [], .int .i64 0, .int .u64 0, .int .u64 0, .slice .nil 0 1 [], .slice .nil 0 1 []] := rfl
theorem valC_some (t i : Int) : valC (some (t, i)) = [.int .i64 17, .str [], .str [], .int .i64 0, .int .u64 (bitsS t i), .int .u64 0, .slice .nil 0 1 [], .slice .nil 0 1 []] := rfl
theorem c_ExtStampOf {b l : RS} {ss : List (List UInt8)} {ns : List Int} (hb : b.l = ss.map AV.str) (hlb : l.l = ns.map (AV.int .i64)) (hl : ns.length = ss.length) (hE : H) :
    callω fns 6 [b.fv 9 1, l.fv 2 1] hE = some (.tup [.agg (valC (specS ss ns)), .bool (specS ss ns).isSome], hE) := by
  have hlen := RS.fv_len1 2 l
  rw [hlb, List.length_map] at hlen
  have hlenb := RS.fv_len1 9 b
  rw [hb, List.length_map] at hlenb
  refine run6 (Nat.le_of_ble_eq_true rfl) ?_
  by_cases h2 : ss.length = 2
  · match ss, ns, h2, hl with
    | [a, c], [x, y], _, _ =>
      have ib0 := RS.fv_at (e := 9) (b := b) (pre := []) (x := .str a) (r := [.str c]) (by rw [hb]; rfl)
      have ib1 := RS.fv_at (e := 9) (b := b) (pre := [.str a]) (x := .str c) (r := []) (by rw [hb]; rfl)
      have il0 := RS.fv_at (e := 2) (b := l) (pre := []) (x := .int .i64 x) (r := [.int .i64 y]) (by rw [hlb]; rfl)
      have il1 := RS.fv_at (e := 2) (b := l) (pre := [.int .i64 x]) (x := .int .i64 y) (r := []) (by rw [hlb]; rfl)
      simp only [List.length_nil, List.length_cons, Int.ofNat_zero, Nat.zero_add] at ib0 ib1 il0 il1
      simp at ib0 ib1 il0 il1 hlen hlenb
      have key : ∀ t i : Int, chkS t i = if t < 0 ∨ i < 0 ∨ 4294967295 < t ∨ 4294967295 < i then none else some (t, i) := fun _ _ => rfl
      have b1 : (a == [105]) = decide (a = [105]) := by by_cases h : a = [105] <;> simp [h]
      have b2 : (c == [116]) = decide (c = [116]) := by by_cases h : c = [116] <;> simp [h]
      have b3 : (a == [116]) = decide (a = [116]) := by by_cases h : a = [116] <;> simp [h]
      have b4 : (c == [105]) = decide (c = [105]) := by by_cases h : c = [105] <;> simp [h]
      by_cases ha : a = [105]
      · subst ha
        by_cases hc : c = [116]
        · subst hc
          by_cases n1 : y < 0
          · simp [specS, key, hlen, hlenb, pkV, AV.several, ib0, ib1, il0, il1, n1, valC_none]
          by_cases n2 : x < 0
          · simp [specS, key, hlen, hlenb, pkV, AV.several, ib0, ib1, il0, il1, n1, n2, valC_none]
          by_cases n3 : (4294967295 : Int) < y
          · simp [specS, key, hlen, hlenb, pkV, AV.several, ib0, ib1, il0, il1, n1, n2, n3, valC_none]
          by_cases n4 : (4294967295 : Int) < x
          · simp [specS, key, hlen, hlenb, pkV, AV.several, ib0, ib1, il0, il1, n1, n2, n3, n4, valC_none]
          · simp [specS, key, hlen, hlenb, pkV, AV.several, ib0, ib1, il0, il1, n1, n2, n3, n4, valC_some, bitsS, aShift, IntKind.bits]
        · simp [specS, key, hlen, hlenb, pkV, AV.several, ib0, ib1, il0, il1, hc, b2, valC_none]
      · by_cases ha2 : a = [116]
        · subst ha2
          by_cases hc : c = [105]
          · subst hc
            by_cases n1 : x < 0
            · simp [specS, key, hlen, hlenb, pkV, AV.several, ib0, ib1, il0, il1, n1, valC_none]
            by_cases n2 : y < 0
            · simp [specS, key, hlen, hlenb, pkV, AV.several, ib0, ib1, il0, il1, n1, n2, valC_none]
            by_cases n3 : (4294967295 : Int) < x
            · simp [specS, key, hlen, hlenb, pkV, AV.several, ib0, ib1, il0, il1, n1, n2, n3, valC_none]
            by_cases n4 : (4294967295 : Int) < y
            · simp [specS, key, hlen, hlenb, pkV, AV.several, ib0, ib1, il0, il1, n1, n2, n3, n4, valC_none]
            · simp [specS, key, hlen, hlenb, pkV, AV.several, ib0, ib1, il0, il1, n1, n2, n3, n4, valC_some, bitsS, aShift, IntKind.bits]
          · simp [specS, key, hlen, hlenb, pkV, AV.several, ib0, ib1, il0, il1, hc, b4, valC_none]
        · simp [specS, key, hlen, hlenb, pkV, AV.several, ib0, ib1, il0, il1, ha, ha2, b1, b3, valC_none]
  · have hs : specS ss ns = none := by
      unfold specS; split
      · simp at h2
      · rfl
    have h2' : ¬ (ss.length : Int) = 2 := by omega
    simp [hlen, hlenb, h2', hs, pkV, AV.several, valC_none]
theorem c_ExtStamp {b l : RS} {ss : List (List UInt8)} {ns : List Int} (hb : b.l = ss.map AV.str) (hlb : l.l = ns.map (AV.int .i64)) (hl : ns.length = ss.length) (hn : ss.length ≤ 6) (hE : H) :
    callv fns 7 [b.fv 9 1, l.fv 2 1] hE = some (.tup [.agg (valC (specS ss ns)), .bool (specS ss ns).isSome]) := by
  have hlen := RS.fv_len1 2 l
  rw [hlb, List.length_map, hl] at hlen
  have hlenb := RS.fv_len1 9 b
  rw [hb, List.length_map] at hlenb
  refine runv7 (Nat.le_of_ble_eq_true rfl) ?_
  simp [hlen, hlenb]
  refine gH_of (st := ⟨_, _, _⟩) (c_ZzStamp hb hlb hl hn hE) fun v h' hp => ?_
  rw [stamp_law ss ns hl] at hp
  cases ho : specS ss ns with
  | none => rw [ho] at hp; obtain ⟨x, rfl⟩ := hp; simp [exV, valC_none, noHeap_old]
  | some ti => obtain ⟨t, i⟩ := ti; rw [ho] at hp; simp only [stampAns_some] at hp; subst hp; simp [exV, valC_some, noHeap_old, bitsS, aShift, IntKind.bits]
theorem c_extPart (k x : Int) (o : Bool) : ∀ hE : H, callω fns 8 [.agg [.int .i64 k, .str [], .str [], .int .i64 0, .int .u64 x, .int .u64 0, .slice .nil 0 1 [], .slice .nil 0 1 []], .bool o, .agg [.int .i64 k, .str [], .str [], .int .i64 0, .int .u64 x, .int .u64 0, .slice .nil 0 1 [], .slice .nil 0 1 []], .bool o] hE = some (.bool true, hE) := by
  intro hE
  refine run8 (Nat.le_of_ble_eq_true rfl) ?_
  cases o <;> simp [pkV, AV.several, cvBS, bytesOf]

theorem law_FnExtStamps (b : RS) (ss : List (List UInt8)) (hb : b.l = ss.map AV.str) (hr : ss.length ≤ reachBytes) (l : RS) (ns : List Int) (hlb : l.l = ns.map (AV.int .i64)) (_ : ns.length ≤ reachBytes) (h : H) :
    CW fns 3 [b.fv 9 1, l.fv 2 1] h fun q => q.1 = .bool true := by
  refine runs3 (Nat.le_of_ble_eq_true rfl) ?_
  have hlen := RS.fv_len1 2 l
  rw [hlb, List.length_map] at hlen
  have hlenb := RS.fv_len1 9 b
  rw [hb, List.length_map] at hlenb
  have hf := c_zzFits2 hb
  have hp := c_extPlain hb hr
  cases h1 : fitsLs ss with
  | false => simp [hf, h1, pkV, AV.several]
  | true =>
  by_cases h2 : (2147483647 : Int) < (ns.length : Int)
  · simp [hf, h1, h2, hlen, pkV, AV.several]
  cases h3 : plainLs ss with
  | false => simp [hf, h1, h2, hlen, hp, h3, pkV, AV.several]
  | true =>
  by_cases h4 : ns.length = ss.length
  · have h6 : ss.length ≤ 6 := by simp [plainLs] at h3; exact h3.1
    have hS := c_ExtStampOf hb hlb h4
    have hI := c_ExtStamp hb hlb h4 h6
    have hT := c_ExtStamp (b := .own true [.str [116], .str [105]]) (l := .own true [.int .i64 1, .int .i64 2]) (ss := [[116], [105]]) (ns := [1, 2]) rfl rfl rfl (by simp)
    have hz : specS [[116], [105]] [1, 2] = some (1, 2) := by decide
    have hbits : bitsS 1 2 = 4294967298 := by decide
    rw [hz] at hT
    simp only [RS.fv, valC_some, hbits, Option.isSome_some] at hT
    rw [h4] at hlen h2
    cases ho : specS ss ns with
    | none =>
      have hX := c_extPart 0 0 false
      simp [hf, h1, h2, hlen, hlenb, hp, h3, pkV, AV.several, hS, hI, hT, ho, valC_none, exV, hX]
    | some ti =>
      obtain ⟨t, i⟩ := ti
      have hX := c_extPart 17 (bitsS t i) true
      simp [hf, h1, h2, hlen, hlenb, hp, h3, pkV, AV.several, hS, hI, hT, ho, valC_some, exV, hX]
  · have h4' : ¬ (ss.length : Int) = (ns.length : Int) := by omega
    simp [hf, h1, h2, hlen, hlenb, hp, h3, h4', pkV, AV.several]
end Go.Proofs.Ytcipaobalemdoaa.Abs
