/- An array made of values. -/
import Derived.Test.YtcodfehgnjplcaaGreatDoorEAw2
import Derived.Test.YtcodfehgnjplcaaGreatDoorEDoc5
namespace Go.Proofs.YtcodfehgnjplcaaGreatDoor.Abs
set_option linter.all false
open Go.Proofs
set_option linter.unusedVariables false
set_option linter.unusedSimpArgs false
set_option maxRecDepth 100000
set_option maxHeartbeats 8000000

def arrK : List Tr → Nat → Ks
  | [], _ => .nil
  | v :: r, i => .cons (digL i) v (arrK r (i + 1))
theorem arrK_len : ∀ (vs : List Tr) (i : Nat), (arrK vs i).len = vs.length
  | [], _ => rfl
  | v :: r, i => by simp [arrK, Ks.len, arrK_len r]
def vFl (vs : List Tr) : List AV := vs.flatMap fun v => v.cells 5 66
theorem vFl_length : ∀ vs : List Tr, (vFl vs).length = vs.length * 8
  | [] => rfl
  | v :: r => by
    have := vFl_length r
    simp only [vFl, List.flatMap_cons, List.length_append, List.length_cons] at this ⊢
    rw [this]
    cases v; simp [Tr.cells]; omega
theorem RS.fv_at8 {e : Nat} {b : RS} {k m : Nat} {pre r : List AV} (h : b.l = pre ++ r) (hp : pre.length = k * 8) (hm : b.l.length = m * 8) (hk : k < m) : ixV 8 (b.fv e 8) (.int .i64 (k : Int)) = some (.eptr r) := by
  rw [RS.fv_ix (by omega) hm hk, h, List.drop_left' hp]
theorem l_docArray {b : RS} {vs : List Tr} (hb : b.l = vFl vs) (hvs : vs.length ≤ 2147483647) : ∀ (rest pre : List Tr) (acc : RS) (st : St), vs = pre ++ rest → st.s 0 = b.fv 44 8 → st.s 4 = .int .i64 pre.length → st.s 2 = .ptr (.loc 2) 0 → st.s 3 = .ptr (.loc 3) 0 →
    st.b 2 = some (.cells [.int .i64 0, .str [], .str [], .int .i64 0, .int .u64 0, .int .u64 0, .slice .nil 0 1 [], .slice .nil 0 1 []]) → st.b 3 = some (.cells [.int .i64 4, .str [], .str [], .int .i64 0, .int .u64 0, .int .u64 0, .slice .nil 0 1 [], acc.av 66 9]) → acc.l.length = pre.length * 9 → ∀ Q : Ex × St → Prop,
    (∀ st' : St, st'.h = st.h → st'.s 2 = .ptr (.loc 2) 0 → st'.s 3 = .ptr (.loc 3) 0 → st'.b 2 = st.b 2 → st'.b 3 = some (.cells [.int .i64 4, .str [], .str [], .int .i64 0, .int .u64 0, .int .u64 0, .slice .nil 0 1 [], (acc.app ((arrK rest pre.length).flat 5 66)).av 66 9]) → Q (.exit 0, st')) → LoopR fns lc22_0 st Q
  | [], pre, acc, st, hp, h0, h4, h2, h3, hb2, hb3, ha, Q, hA => by
    refine loopω_run fns ?_
    have hn : aLen false (b.fv 44 8) = some (.int .i64 pre.length) := RS.fv_len (by omega) (by rw [hb, vFl_length, hp]; simp)
    have hl : aLen false (b.lv 44 8) = some (.int .i64 pre.length) := RS.lv_len (by omega) (by rw [hb, vFl_length, hp]; simp)
    simp [h0, h4, hn, hl]
    refine hA _ ?_ ?_ ?_ ?_ ?_ <;> simp [h2, h3, hb3, arrK, Ks.flat, RS.app_nil]
  | v :: rest, pre, acc, st, hp, h0, h4, h2, h3, hb2, hb3, ha, Q, hA => by
    refine loopω_run fns ?_
    have hlen : vs.length = pre.length + (rest.length + 1) := by rw [hp]; simp
    have hlt : (pre.length : Int) < pre.length + (rest.length + 1) := by omega
    have hn : aLen false (b.fv 44 8) = some (.int .i64 ((pre.length : Int) + (rest.length + 1))) := by
      have := RS.fv_len (e := 44) (sz := 8) (b := b) (n := vs.length) (by omega) (by rw [hb, vFl_length]); rw [hlen] at this; simpa using this
    have hx := RS.fv_at8 (e := 44) (b := b) (k := pre.length) (m := vs.length) (pre := vFl pre) (r := v.cells 5 66 ++ vFl rest) (by rw [hb, hp]; simp [vFl]) (vFl_length pre) (by rw [hb, vFl_length]) (by omega)
    have hdg := c_DocDigits pre.length pre.length (Nat.le_refl _) (by omega)
    have ha2 : ∀ (hp : H) (xs : List AV), xs.length = 9 → apV hp 66 9 128 false (acc.av 66 9) (.slice (.own true) 66 9 xs) = some ((acc.app xs).av 66 9) := fun hp xs hx =>
      RS.apV (by rw [hx, ha]; simp only [tooLong]; omega) (by rw [hx, ha]; simp only [tooLong]; omega)
    have hk9 : ∀ xs : List AV, acc.app xs = acc.app xs := fun _ => rfl
    have hw : IntKind.i64.wrap ((pre.length : Int) + 1) = pre.length + 1 := wrap_i64 (by omega) (by omega)
    cases v with
    | mk k t m n bi hi bb kn ks =>
    simp only [Tr.cells, List.cons_append, List.nil_append] at hx
    have ha3 := fun hp => ha2 hp [.str (digL pre.length), .int .i64 k, .str t, .str m, .int .i64 n, .int .u64 bi, .int .u64 hi, bAV 5 bb, Ks.av 5 66 ks kn] (by simp)
    simp [h0, h4, h2, h3, hb2, hb3, hn, hlt, hx, hdg, hw, ha3]
    refine l_docArray hb hvs rest (pre ++ [.mk k t m n bi hi bb kn ks]) (acc.app [.str (digL pre.length), .int .i64 k, .str t, .str m, .int .i64 n, .int .u64 bi, .int .u64 hi, bAV 5 bb, Ks.av 5 66 ks kn]) _ ?_ ?_ ?_ ?_ ?_ ?_ ?_ ?_ Q (fun st' q1 q2 q3 q4 q5 => hA st' ?_ q2 q3 ?_ ?_)
    · rw [hp]; simp
    · simp [h0]
    · simp
    · simp [h2]
    · simp [h3]
    · simp [hb2]
    · simp
    · rw [RS.l_app]; simp [ha]; omega
    · rw [q1]
    · rw [q4]; simp
    · rw [q5, RS.app_app]; simp [arrK, Ks.flat, Tr.cells]
theorem arr_av (vs : List Tr) : (RS.mk ((arrK vs 0).flat 5 66)).fv 66 9 = Ks.av 5 66 (arrK vs 0) true := by
  cases vs with
  | nil => simp [arrK, Ks.flat, Ks.av, RS.mk, RS.app, RS.fv]
  | cons v r => simp [arrK, Ks.flat, Ks.av, RS.mk, RS.app, RS.fv]
theorem c_docArray (b : RS) (vs : List Tr) (hb : b.l = vFl vs) (hvs : vs.length ≤ 2147483647) : ∀ hE : H, callω fns 22 [b.fv 44 8] hE =
    some (.agg [.int .i64 4, .str [], .str [], .int .i64 0, .int .u64 0, .int .u64 0, .slice .nil 0 1 [], Ks.av 5 66 (arrK vs 0) true], hE) := by
  rw [← arr_av]
  intro hE
  refine run22 (Nat.le_of_ble_eq_true rfl) ?_
  simp
  refine l_docArray hb hvs vs [] RS.nil _ rfl ?_ ?_ ?_ ?_ ?_ ?_ ?_ _ (fun st' q1 q2 q3 q4 q5 => ?_)
  · simp
  · simp
  · simp
  · simp
  · simp
  · simp [RS.av]
  · simp [RS.l]
  · simp at q4
    rw [RS.nil_app] at q5
    simp [q1, q2, q3, q4, q5]
end Go.Proofs.YtcodfehgnjplcaaGreatDoor.Abs
