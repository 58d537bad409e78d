/- A text quoted into a buffer: the layer below. -/
import Derived.Test.YtpinoabhaaemfaaDoorEQw
namespace Go.Proofs.YtpinoabhaaemfaaDoor.Abs
set_option linter.all false
open Go.Proofs
set_option linter.unusedVariables false
set_option linter.unusedSimpArgs false
set_option maxRecDepth 100000
set_option maxHeartbeats 8000000

theorem l_esc {s : List UInt8} {esc : Bool} {b : Nat} (hs : s.length ≤ 300) : ∀ (k : Nat) (rest : List UInt8) (i start : Nat) (A : List UInt8) (st : St), rest.length ≤ k → s.drop i = rest → i ≤ s.length → start ≤ i → validF k rest = true →
    Tabs 2 3 st.h.Γ → BufAt st.h b (34 :: A) → A.length + 6 * (s.length - start) ≤ 10000 → st.s 0 = .str s → st.s 4 = .ptr (.obj b) 0 → st.s 3 = .bool esc → st.s 5 = .int .i64 start → st.s 6 = .int .i64 i →
    ∀ Q : Ex × St → Prop, (∀ (st' : St) (A' : List UInt8) (start' : Nat), st'.h.Γ = st.h.Γ → BufAt st'.h b (34 :: A') → start' ≤ s.length → A' ++ s.drop start' = A ++ (s.drop start).take (i - start) ++ quoteF k esc rest → A'.length + 6 * (s.length - start') ≤ 10000 →
      st'.s 0 = .str s → st'.s 4 = .ptr (.obj b) 0 → st'.s 5 = .int .i64 start' → Q (.exit 0, st')) → LoopR fns lc16_0 st Q := by
  intro k
  induction k with
  | zero =>
    intro rest i start A st hk hd hi hsi hv hT hB hb h0 h1 h2 h6 h7 Q hQ
    have hr : rest = [] := List.eq_nil_of_length_eq_zero (by omega)
    subst hr
    have hl := rest_len hd
    simp at hl
    have hlt : ¬ (i : Int) < s.length := by omega
    refine loopω_run fns ?_
    simp [h0, h7, hlt]
    refine hQ _ A start rfl hB (by omega) ?_ hb ?_ ?_ ?_
    · have : i = s.length := by omega
      subst this
      simp [quoteF, List.take_of_length_le]
    · simp [h0]
    · simp [h1]
    · simp [h6]
  | succ k ih =>
    intro rest i start A st hk hd hi hsi hv hT hB hb h0 h1 h2 h6 h7 Q hQ
    have hl := rest_len hd
    by_cases hr : rest = []
    · subst hr
      simp at hl
      have hlt : ¬ (i : Int) < s.length := by omega
      refine loopω_run fns ?_
      simp [h0, h7, hlt]
      refine hQ _ A start rfl hB (by omega) ?_ hb ?_ ?_ ?_
      · have : i = s.length := by omega
        subst this
        simp [quoteF, List.take_of_length_le]
      · simp [h0]
      · simp [h1]
      · simp [h6]
    obtain ⟨x, r, rfl⟩ : ∃ x r, rest = x :: r := by cases rest with | nil => exact absurd rfl hr | cons x r => exact ⟨x, r, rfl⟩
    have hlt : (i : Int) < s.length := by simp at hl; omega
    have hix := ix_at hd
    obtain ⟨hok, hv'⟩ := validF_succ hr hv
    obtain ⟨d1, d2, d3, d4, d5⟩ := dec_ok hok
    have hq := quoteF_succ (k := k) (esc := esc) hr
    have hi' : i + (dec (x :: r)).2 ≤ s.length := by omega
    have hd' := drop_rest (n := (dec (x :: r)).2) hd
    have hl' : ((x :: r).drop (dec (x :: r)).2).length = (x :: r).length - (dec (x :: r)).2 := by simp
    have hx0 : chr (x :: r) 0 = x.toNat := rfl
    rw [hx0] at d4 d5
    have hxb := UInt8.toNat_lt x
    have hte := take_ext hd hsi d2 hi
    have hmid := sl_mid hsi hi
    have hA1l : ((s.drop start).take (i - start)).length = i - start := by rw [List.length_take, List.length_drop]; omega
    have hsi2 : ¬ (start < i) → (s.drop start).take (i - start) = [] := fun h => by rw [show i - start = 0 by omega]; rfl
    by_cases g : x.toNat < 128
    · obtain ⟨e1, e2⟩ := d4 g
      rw [e2] at hd' hi' hl' hv' hte
      rw [e1, e2] at hq
      have gI : (x.toNat : Int) < 128 := by omega
      have hih := ia_tab hT.html g
      have his := ia_tab hT.safe g
      have hw1 : IntKind.i64.wrap ((i : Int) + 1) = i + 1 := wrap_i64 (by omega) (by omega)
      -- a character that needs no quoting
      have plain : (htmlC x.toNat = true ∨ (esc = false ∧ safeC x.toNat = true)) → ∀ st2 : St, st2.h = st.h → st2.s 0 = .str s → st2.s 4 = .ptr (.obj b) 0 → st2.s 3 = .bool esc → st2.s 5 = .int .i64 start → st2.s 6 = .int .i64 ((i : Int) + 1) → LoopR fns lc16_0 st2 Q := by
        intro hp st2 q0 q1 q2 q3 q4 q5
        have hqp := qch_plain (esc := esc) (bs := (x :: r).take 1) g hp
        rw [hqp] at hq
        refine ih ((x :: r).drop 1) (i + 1) start A st2 (by simp at hk ⊢; omega) hd' hi' (by omega) hv' (by rw [q0]; exact hT) (by rw [q0]; exact hB) hb q1 q2 q3 q4 (by rw [q5]; simp) Q (fun st' A' s' z1 z2 z3 z4 z5 z6 z7 z8 => hQ st' A' s' (by rw [z1, q0]) z2 z3 ?_ z5 z6 z7 z8)
        rw [z4, hte, hq]; simp
      cases hhc : htmlC x.toNat with
      | true =>
        rw [hhc] at hih
        refine loopω_run fns ?_
        simp [-ixStr, h0, h1, h2, h6, h7, hlt, hix, g, gI, hih, his, hw1, hmid, pkV, xV]
        refine plain (.inl hhc) _ rfl ?_ ?_ ?_ ?_ ?_
        · simp [h0]
        · simp [h1]
        · simp [h2]
        · simp [h6]
        · simp
      | false =>
      rw [hhc] at hih
      by_cases hsf : esc = false ∧ safeC x.toNat = true
      · obtain ⟨he, hsf⟩ := hsf
        rw [hsf] at his
        rw [he] at h2
        refine loopω_run fns ?_
        simp [-ixStr, h0, h1, h2, h6, h7, hlt, hix, g, gI, hih, his, hw1, hmid, pkV, xV]
        refine plain (.inr ⟨he, hsf⟩) _ rfl ?_ ?_ ?_ ?_ ?_
        · simp [h0]
        · simp [h1]
        · simp [h2, he]
        · simp [h6]
        · simp
      -- one that does: what is waiting is written first
      have step : ∀ (q : List UInt8), qch esc x.toNat ((x :: r).take 1) = q → q.length ≤ 6 → ∀ st2 : St, st2.h.Γ = st.h.Γ → BufAt st2.h b (34 :: (A ++ (s.drop start).take (i - start) ++ q)) → st2.s 0 = .str s → st2.s 4 = .ptr (.obj b) 0 → st2.s 3 = .bool esc → st2.s 5 = .int .i64 ((i : Int) + 1) → st2.s 6 = .int .i64 ((i : Int) + 1) → LoopR fns lc16_0 st2 Q := by
        intro q hqe hql st2 q0 qB q1 q2 q3 q4 q5
        rw [hqe] at hq
        refine ih ((x :: r).drop 1) (i + 1) (i + 1) (A ++ (s.drop start).take (i - start) ++ q) st2 (by simp at hk ⊢; omega) hd' hi' (Nat.le_refl _) hv' (by rw [q0]; exact hT) qB (by simp only [List.length_append, hA1l]; omega) q1 q2 q3 (by rw [q4]; simp) (by rw [q5]; simp) Q (fun st' A' s' z1 z2 z3 z4 z5 z6 z7 z8 => hQ st' A' s' (by rw [z1, q0]) z2 z3 ?_ z5 z6 z7 z8)
        rw [z4, hq]; simp
      have hno : ¬ htmlC x.toNat = true ∧ ¬ (esc = false ∧ safeC x.toNat = true) := ⟨by simp [hhc], hsf⟩
      have hgd : (esc = true) ∨ (esc = false ∧ safeC x.toNat = false) := by
        cases esc with
        | true => exact .inl rfl
        | false => exact .inr ⟨rfl, by simpa using hsf⟩
      rcases hgd with he | ⟨he, hsf2⟩
      · subst he
        by_cases hfl0 : start < i
        · have hfl : (start : Int) < i := by omega
          refine loopω_run fns ?_
          simp [-ixStr, h0, h1, h2, h6, h7, hlt, hix, g, gI, hih, his, hw1, hmid, pkV, xV, hfl]
          refine gH_use (c_WriteString hB (by simp) (by rw [hA1l]; omega) (by simp; omega) (by rw [hA1l]; omega)) (fun v1 h1' hq1 => ?_)
          obtain ⟨e1, hB1, hG1⟩ := hq1
          simp only at e1 hB1 hG1
          subst e1
          rw [List.cons_append] at hB1
          simp [-ixStr, h0, h1, h2, h6, h7, hlt, hix, g, gI, hih, his, hw1, hmid, pkV, xV]
          by_cases g92 : x = 92
          · subst g92
            simp [-ixStr, h0, h1, h2, h6, h7, hlt, hix, g, gI, hih, his, hw1, hmid, pkV, xV]
            refine gH_use (show CW fns 17 [.ptr (.obj b) 0, .int .u8 92] _ _ from c_WriteByte (c := 92) hB1 (by simp only [List.length_cons, List.length_append, hA1l, List.length_nil]; omega)) (fun v2 h2' hq2 => ?_)
            obtain ⟨e2, hB2, hG2⟩ := hq2
            simp only at e2 hB2 hG2
            subst e2
            rw [List.cons_append] at hB2
            simp [-ixStr, h0, h1, h2, h6, h7, hlt, hix, g, gI, hih, his, hw1, hmid, pkV, xV]
            refine gH_use (show CW fns 17 [.ptr (.obj b) 0, .int .u8 92] _ _ from c_WriteByte (c := 92) hB2 (by simp only [List.length_cons, List.length_append, hA1l, List.length_nil]; omega)) (fun v3 h3' hq3 => ?_)
            obtain ⟨e3, hB3, hG3⟩ := hq3
            simp only at e3 hB3 hG3
            subst e3
            rw [List.cons_append] at hB3
            simp [-ixStr, h0, h1, h2, h6, h7, hlt, hix, g, gI, hih, his, hw1, hmid, pkV, xV]
            refine step [92, 92] (qch_quote (by decide)) (by simp) _ (by rw [hG3]; rw [hG2]; rw [hG1]) (by simpa using hB3) ?_ ?_ ?_ ?_ ?_
            · simp [h0]
            · simp [h1]
            · simp [h2]
            · simp
            · simp
          by_cases g34 : x = 34
          · subst g34
            simp [-ixStr, h0, h1, h2, h6, h7, hlt, hix, g, gI, hih, his, hw1, hmid, pkV, xV]
            refine gH_use (show CW fns 17 [.ptr (.obj b) 0, .int .u8 92] _ _ from c_WriteByte (c := 92) hB1 (by simp only [List.length_cons, List.length_append, hA1l, List.length_nil]; omega)) (fun v2 h2' hq2 => ?_)
            obtain ⟨e2, hB2, hG2⟩ := hq2
            simp only at e2 hB2 hG2
            subst e2
            rw [List.cons_append] at hB2
            simp [-ixStr, h0, h1, h2, h6, h7, hlt, hix, g, gI, hih, his, hw1, hmid, pkV, xV]
            refine gH_use (show CW fns 17 [.ptr (.obj b) 0, .int .u8 34] _ _ from c_WriteByte (c := 34) hB2 (by simp only [List.length_cons, List.length_append, hA1l, List.length_nil]; omega)) (fun v3 h3' hq3 => ?_)
            obtain ⟨e3, hB3, hG3⟩ := hq3
            simp only at e3 hB3 hG3
            subst e3
            rw [List.cons_append] at hB3
            simp [-ixStr, h0, h1, h2, h6, h7, hlt, hix, g, gI, hih, his, hw1, hmid, pkV, xV]
            refine step [92, 34] (qch_quote (by decide)) (by simp) _ (by rw [hG3]; rw [hG2]; rw [hG1]) (by simpa using hB3) ?_ ?_ ?_ ?_ ?_
            · simp [h0]
            · simp [h1]
            · simp [h2]
            · simp
            · simp
          by_cases g10 : x = 10
          · subst g10
            simp [-ixStr, h0, h1, h2, h6, h7, hlt, hix, g, gI, hih, his, hw1, hmid, pkV, xV]
            refine gH_use (show CW fns 17 [.ptr (.obj b) 0, .int .u8 92] _ _ from c_WriteByte (c := 92) hB1 (by simp only [List.length_cons, List.length_append, hA1l, List.length_nil]; omega)) (fun v2 h2' hq2 => ?_)
            obtain ⟨e2, hB2, hG2⟩ := hq2
            simp only at e2 hB2 hG2
            subst e2
            rw [List.cons_append] at hB2
            simp [-ixStr, h0, h1, h2, h6, h7, hlt, hix, g, gI, hih, his, hw1, hmid, pkV, xV]
            refine gH_use (show CW fns 17 [.ptr (.obj b) 0, .int .u8 110] _ _ from c_WriteByte (c := 110) hB2 (by simp only [List.length_cons, List.length_append, hA1l, List.length_nil]; omega)) (fun v3 h3' hq3 => ?_)
            obtain ⟨e3, hB3, hG3⟩ := hq3
            simp only at e3 hB3 hG3
            subst e3
            rw [List.cons_append] at hB3
            simp [-ixStr, h0, h1, h2, h6, h7, hlt, hix, g, gI, hih, his, hw1, hmid, pkV, xV]
            refine step [92, 110] (qch_ltr (by decide)) (by simp) _ (by rw [hG3]; rw [hG2]; rw [hG1]) (by simpa using hB3) ?_ ?_ ?_ ?_ ?_
            · simp [h0]
            · simp [h1]
            · simp [h2]
            · simp
            · simp
          by_cases g13 : x = 13
          · subst g13
            simp [-ixStr, h0, h1, h2, h6, h7, hlt, hix, g, gI, hih, his, hw1, hmid, pkV, xV]
            refine gH_use (show CW fns 17 [.ptr (.obj b) 0, .int .u8 92] _ _ from c_WriteByte (c := 92) hB1 (by simp only [List.length_cons, List.length_append, hA1l, List.length_nil]; omega)) (fun v2 h2' hq2 => ?_)
            obtain ⟨e2, hB2, hG2⟩ := hq2
            simp only at e2 hB2 hG2
            subst e2
            rw [List.cons_append] at hB2
            simp [-ixStr, h0, h1, h2, h6, h7, hlt, hix, g, gI, hih, his, hw1, hmid, pkV, xV]
            refine gH_use (show CW fns 17 [.ptr (.obj b) 0, .int .u8 114] _ _ from c_WriteByte (c := 114) hB2 (by simp only [List.length_cons, List.length_append, hA1l, List.length_nil]; omega)) (fun v3 h3' hq3 => ?_)
            obtain ⟨e3, hB3, hG3⟩ := hq3
            simp only at e3 hB3 hG3
            subst e3
            rw [List.cons_append] at hB3
            simp [-ixStr, h0, h1, h2, h6, h7, hlt, hix, g, gI, hih, his, hw1, hmid, pkV, xV]
            refine step [92, 114] (qch_ltr (by decide)) (by simp) _ (by rw [hG3]; rw [hG2]; rw [hG1]) (by simpa using hB3) ?_ ?_ ?_ ?_ ?_
            · simp [h0]
            · simp [h1]
            · simp [h2]
            · simp
            · simp
          by_cases g9 : x = 9
          · subst g9
            simp [-ixStr, h0, h1, h2, h6, h7, hlt, hix, g, gI, hih, his, hw1, hmid, pkV, xV]
            refine gH_use (show CW fns 17 [.ptr (.obj b) 0, .int .u8 92] _ _ from c_WriteByte (c := 92) hB1 (by simp only [List.length_cons, List.length_append, hA1l, List.length_nil]; omega)) (fun v2 h2' hq2 => ?_)
            obtain ⟨e2, hB2, hG2⟩ := hq2
            simp only at e2 hB2 hG2
            subst e2
            rw [List.cons_append] at hB2
            simp [-ixStr, h0, h1, h2, h6, h7, hlt, hix, g, gI, hih, his, hw1, hmid, pkV, xV]
            refine gH_use (show CW fns 17 [.ptr (.obj b) 0, .int .u8 116] _ _ from c_WriteByte (c := 116) hB2 (by simp only [List.length_cons, List.length_append, hA1l, List.length_nil]; omega)) (fun v3 h3' hq3 => ?_)
            obtain ⟨e3, hB3, hG3⟩ := hq3
            simp only at e3 hB3 hG3
            subst e3
            rw [List.cons_append] at hB3
            simp [-ixStr, h0, h1, h2, h6, h7, hlt, hix, g, gI, hih, his, hw1, hmid, pkV, xV]
            refine step [92, 116] (qch_ltr (by decide)) (by simp) _ (by rw [hG3]; rw [hG2]; rw [hG1]) (by simpa using hB3) ?_ ?_ ?_ ?_ ?_
            · simp [h0]
            · simp [h1]
            · simp [h2]
            · simp
            · simp
          by_cases g8 : x = 8
          · subst g8
            simp [-ixStr, h0, h1, h2, h6, h7, hlt, hix, g, gI, hih, his, hw1, hmid, pkV, xV]
            refine gH_use (show CW fns 17 [.ptr (.obj b) 0, .int .u8 92] _ _ from c_WriteByte (c := 92) hB1 (by simp only [List.length_cons, List.length_append, hA1l, List.length_nil]; omega)) (fun v2 h2' hq2 => ?_)
            obtain ⟨e2, hB2, hG2⟩ := hq2
            simp only at e2 hB2 hG2
            subst e2
            rw [List.cons_append] at hB2
            simp [-ixStr, h0, h1, h2, h6, h7, hlt, hix, g, gI, hih, his, hw1, hmid, pkV, xV]
            refine gH_use (show CW fns 17 [.ptr (.obj b) 0, .int .u8 98] _ _ from c_WriteByte (c := 98) hB2 (by simp only [List.length_cons, List.length_append, hA1l, List.length_nil]; omega)) (fun v3 h3' hq3 => ?_)
            obtain ⟨e3, hB3, hG3⟩ := hq3
            simp only at e3 hB3 hG3
            subst e3
            rw [List.cons_append] at hB3
            simp [-ixStr, h0, h1, h2, h6, h7, hlt, hix, g, gI, hih, his, hw1, hmid, pkV, xV]
            refine step [92, 98] (qch_ltr (by decide)) (by simp) _ (by rw [hG3]; rw [hG2]; rw [hG1]) (by simpa using hB3) ?_ ?_ ?_ ?_ ?_
            · simp [h0]
            · simp [h1]
            · simp [h2]
            · simp
            · simp
          by_cases g12 : x = 12
          · subst g12
            simp [-ixStr, h0, h1, h2, h6, h7, hlt, hix, g, gI, hih, his, hw1, hmid, pkV, xV]
            refine gH_use (show CW fns 17 [.ptr (.obj b) 0, .int .u8 92] _ _ from c_WriteByte (c := 92) hB1 (by simp only [List.length_cons, List.length_append, hA1l, List.length_nil]; omega)) (fun v2 h2' hq2 => ?_)
            obtain ⟨e2, hB2, hG2⟩ := hq2
            simp only at e2 hB2 hG2
            subst e2
            rw [List.cons_append] at hB2
            simp [-ixStr, h0, h1, h2, h6, h7, hlt, hix, g, gI, hih, his, hw1, hmid, pkV, xV]
            refine gH_use (show CW fns 17 [.ptr (.obj b) 0, .int .u8 102] _ _ from c_WriteByte (c := 102) hB2 (by simp only [List.length_cons, List.length_append, hA1l, List.length_nil]; omega)) (fun v3 h3' hq3 => ?_)
            obtain ⟨e3, hB3, hG3⟩ := hq3
            simp only at e3 hB3 hG3
            subst e3
            rw [List.cons_append] at hB3
            simp [-ixStr, h0, h1, h2, h6, h7, hlt, hix, g, gI, hih, his, hw1, hmid, pkV, xV]
            refine step [92, 102] (qch_ltr (by decide)) (by simp) _ (by rw [hG3]; rw [hG2]; rw [hG1]) (by simpa using hB3) ?_ ?_ ?_ ?_ ?_
            · simp [h0]
            · simp [h1]
            · simp [h2]
            · simp
            · simp
          have n92 : ¬ (x.toNat : Int) = 92 := fun e => g92 (UInt8.toNat_inj.1 (by have : (92 : UInt8).toNat = 92 := rfl; omega))
          have m92 : ¬ x.toNat = 92 := by omega
          have n34 : ¬ (x.toNat : Int) = 34 := fun e => g34 (UInt8.toNat_inj.1 (by have : (34 : UInt8).toNat = 34 := rfl; omega))
          have m34 : ¬ x.toNat = 34 := by omega
          have n10 : ¬ (x.toNat : Int) = 10 := fun e => g10 (UInt8.toNat_inj.1 (by have : (10 : UInt8).toNat = 10 := rfl; omega))
          have m10 : ¬ x.toNat = 10 := by omega
          have n13 : ¬ (x.toNat : Int) = 13 := fun e => g13 (UInt8.toNat_inj.1 (by have : (13 : UInt8).toNat = 13 := rfl; omega))
          have m13 : ¬ x.toNat = 13 := by omega
          have n9 : ¬ (x.toNat : Int) = 9 := fun e => g9 (UInt8.toNat_inj.1 (by have : (9 : UInt8).toNat = 9 := rfl; omega))
          have m9 : ¬ x.toNat = 9 := by omega
          have n8 : ¬ (x.toNat : Int) = 8 := fun e => g8 (UInt8.toNat_inj.1 (by have : (8 : UInt8).toNat = 8 := rfl; omega))
          have m8 : ¬ x.toNat = 8 := by omega
          have n12 : ¬ (x.toNat : Int) = 12 := fun e => g12 (UInt8.toNat_inj.1 (by have : (12 : UInt8).toNat = 12 := rfl; omega))
          have m12 : ¬ x.toNat = 12 := by omega
          obtain ⟨q1, q2⟩ := hex_bits x.toNat hxb
          have x1 := ix_hexC (n := x.toNat / 16) .u8 (by omega)
          have x2 := ix_hexC (n := x.toNat % 16) .u8 (by omega)
          simp only [Int.natCast_emod, Int.cast_ofNat_Int, Int.natCast_ediv] at q1 q2 x1 x2
          have hqx := qch_hex (esc := _) (bs := (x :: r).take 1) (c := x.toNat) (by omega) g hno
          simp [-ixStr, h0, h1, h2, h6, h7, hlt, hix, g, gI, hih, his, hw1, hmid, pkV, xV, n92, n34, n10, n13, n9, n8, n12, m92, m34, m10, m13, m9, m8, m12, aShift, IntKind.bits, q1, q2, x1, x2]
          refine gH_use (c_WriteString (s := [92, 117, 48, 48]) hB1 (by simp) (by simp) (by simp only [List.length_cons, List.length_append, hA1l, List.length_nil]; omega) (by simp)) (fun v2 h2' hq2 => ?_)
          obtain ⟨e2, hB2, hG2⟩ := hq2
          simp only at e2 hB2 hG2
          subst e2
          rw [List.cons_append] at hB2
          simp [-ixStr, h0, h1, h2, h6, h7, hlt, hix, g, gI, hih, his, hw1, hmid, pkV, xV, n92, n34, n10, n13, n9, n8, n12, m92, m34, m10, m13, m9, m8, m12, aShift, IntKind.bits, q1, q2, x1, x2]
          refine gH_use (show CW fns 17 [.ptr (.obj b) 0, .int .u8 ((hexC (x.toNat / 16)).toNat : Int)] _ _ from c_WriteByte (c := hexC (x.toNat / 16)) hB2 (by simp only [List.length_cons, List.length_append, hA1l, List.length_nil]; omega)) (fun v3 h3' hq3 => ?_)
          obtain ⟨e3, hB3, hG3⟩ := hq3
          simp only at e3 hB3 hG3
          subst e3
          rw [List.cons_append] at hB3
          simp [-ixStr, h0, h1, h2, h6, h7, hlt, hix, g, gI, hih, his, hw1, hmid, pkV, xV, n92, n34, n10, n13, n9, n8, n12, m92, m34, m10, m13, m9, m8, m12, aShift, IntKind.bits, q1, q2, x1, x2]
          refine gH_use (show CW fns 17 [.ptr (.obj b) 0, .int .u8 ((hexC (x.toNat % 16)).toNat : Int)] _ _ from c_WriteByte (c := hexC (x.toNat % 16)) hB3 (by simp only [List.length_cons, List.length_append, hA1l, List.length_nil]; omega)) (fun v4 h4' hq4 => ?_)
          obtain ⟨e4, hB4, hG4⟩ := hq4
          simp only at e4 hB4 hG4
          subst e4
          rw [List.cons_append] at hB4
          simp [-ixStr, h0, h1, h2, h6, h7, hlt, hix, g, gI, hih, his, hw1, hmid, pkV, xV, n92, n34, n10, n13, n9, n8, n12, m92, m34, m10, m13, m9, m8, m12, aShift, IntKind.bits, q1, q2, x1, x2]
          refine step [92, 117, 48, 48, hexC (x.toNat / 16), hexC (x.toNat % 16)] (hqx) (by simp) _ (by rw [hG4]; rw [hG3]; rw [hG2]; rw [hG1]) (by simpa using hB4) ?_ ?_ ?_ ?_ ?_
          · simp [h0]
          · simp [h1]
          · simp [h2]
          · simp
          · simp
        · have hfl : ¬ (start : Int) < i := by omega
          refine loopω_run fns ?_
          simp [-ixStr, h0, h1, h2, h6, h7, hlt, hix, g, gI, hih, his, hw1, hmid, pkV, xV, hfl]
          have hB1 : BufAt st.h b (34 :: (A ++ (s.drop start).take (i - start))) := by rw [hsi2 hfl0, List.append_nil]; exact hB
          by_cases g92 : x = 92
          · subst g92
            simp [-ixStr, h0, h1, h2, h6, h7, hlt, hix, g, gI, hih, his, hw1, hmid, pkV, xV]
            refine gH_use (show CW fns 17 [.ptr (.obj b) 0, .int .u8 92] _ _ from c_WriteByte (c := 92) hB1 (by simp only [List.length_cons, List.length_append, hA1l, List.length_nil]; omega)) (fun v2 h2' hq2 => ?_)
            obtain ⟨e2, hB2, hG2⟩ := hq2
            simp only at e2 hB2 hG2
            subst e2
            rw [List.cons_append] at hB2
            simp [-ixStr, h0, h1, h2, h6, h7, hlt, hix, g, gI, hih, his, hw1, hmid, pkV, xV]
            refine gH_use (show CW fns 17 [.ptr (.obj b) 0, .int .u8 92] _ _ from c_WriteByte (c := 92) hB2 (by simp only [List.length_cons, List.length_append, hA1l, List.length_nil]; omega)) (fun v3 h3' hq3 => ?_)
            obtain ⟨e3, hB3, hG3⟩ := hq3
            simp only at e3 hB3 hG3
            subst e3
            rw [List.cons_append] at hB3
            simp [-ixStr, h0, h1, h2, h6, h7, hlt, hix, g, gI, hih, his, hw1, hmid, pkV, xV]
            refine step [92, 92] (qch_quote (by decide)) (by simp) _ (by rw [hG3]; rw [hG2]) (by simpa using hB3) ?_ ?_ ?_ ?_ ?_
            · simp [h0]
            · simp [h1]
            · simp [h2]
            · simp
            · simp
          by_cases g34 : x = 34
          · subst g34
            simp [-ixStr, h0, h1, h2, h6, h7, hlt, hix, g, gI, hih, his, hw1, hmid, pkV, xV]
            refine gH_use (show CW fns 17 [.ptr (.obj b) 0, .int .u8 92] _ _ from c_WriteByte (c := 92) hB1 (by simp only [List.length_cons, List.length_append, hA1l, List.length_nil]; omega)) (fun v2 h2' hq2 => ?_)
            obtain ⟨e2, hB2, hG2⟩ := hq2
            simp only at e2 hB2 hG2
            subst e2
            rw [List.cons_append] at hB2
            simp [-ixStr, h0, h1, h2, h6, h7, hlt, hix, g, gI, hih, his, hw1, hmid, pkV, xV]
            refine gH_use (show CW fns 17 [.ptr (.obj b) 0, .int .u8 34] _ _ from c_WriteByte (c := 34) hB2 (by simp only [List.length_cons, List.length_append, hA1l, List.length_nil]; omega)) (fun v3 h3' hq3 => ?_)
            obtain ⟨e3, hB3, hG3⟩ := hq3
            simp only at e3 hB3 hG3
            subst e3
            rw [List.cons_append] at hB3
            simp [-ixStr, h0, h1, h2, h6, h7, hlt, hix, g, gI, hih, his, hw1, hmid, pkV, xV]
            refine step [92, 34] (qch_quote (by decide)) (by simp) _ (by rw [hG3]; rw [hG2]) (by simpa using hB3) ?_ ?_ ?_ ?_ ?_
            · simp [h0]
            · simp [h1]
            · simp [h2]
            · simp
            · simp
          by_cases g10 : x = 10
          · subst g10
            simp [-ixStr, h0, h1, h2, h6, h7, hlt, hix, g, gI, hih, his, hw1, hmid, pkV, xV]
            refine gH_use (show CW fns 17 [.ptr (.obj b) 0, .int .u8 92] _ _ from c_WriteByte (c := 92) hB1 (by simp only [List.length_cons, List.length_append, hA1l, List.length_nil]; omega)) (fun v2 h2' hq2 => ?_)
            obtain ⟨e2, hB2, hG2⟩ := hq2
            simp only at e2 hB2 hG2
            subst e2
            rw [List.cons_append] at hB2
            simp [-ixStr, h0, h1, h2, h6, h7, hlt, hix, g, gI, hih, his, hw1, hmid, pkV, xV]
            refine gH_use (show CW fns 17 [.ptr (.obj b) 0, .int .u8 110] _ _ from c_WriteByte (c := 110) hB2 (by simp only [List.length_cons, List.length_append, hA1l, List.length_nil]; omega)) (fun v3 h3' hq3 => ?_)
            obtain ⟨e3, hB3, hG3⟩ := hq3
            simp only at e3 hB3 hG3
            subst e3
            rw [List.cons_append] at hB3
            simp [-ixStr, h0, h1, h2, h6, h7, hlt, hix, g, gI, hih, his, hw1, hmid, pkV, xV]
            refine step [92, 110] (qch_ltr (by decide)) (by simp) _ (by rw [hG3]; rw [hG2]) (by simpa using hB3) ?_ ?_ ?_ ?_ ?_
            · simp [h0]
            · simp [h1]
            · simp [h2]
            · simp
            · simp
          by_cases g13 : x = 13
          · subst g13
            simp [-ixStr, h0, h1, h2, h6, h7, hlt, hix, g, gI, hih, his, hw1, hmid, pkV, xV]
            refine gH_use (show CW fns 17 [.ptr (.obj b) 0, .int .u8 92] _ _ from c_WriteByte (c := 92) hB1 (by simp only [List.length_cons, List.length_append, hA1l, List.length_nil]; omega)) (fun v2 h2' hq2 => ?_)
            obtain ⟨e2, hB2, hG2⟩ := hq2
            simp only at e2 hB2 hG2
            subst e2
            rw [List.cons_append] at hB2
            simp [-ixStr, h0, h1, h2, h6, h7, hlt, hix, g, gI, hih, his, hw1, hmid, pkV, xV]
            refine gH_use (show CW fns 17 [.ptr (.obj b) 0, .int .u8 114] _ _ from c_WriteByte (c := 114) hB2 (by simp only [List.length_cons, List.length_append, hA1l, List.length_nil]; omega)) (fun v3 h3' hq3 => ?_)
            obtain ⟨e3, hB3, hG3⟩ := hq3
            simp only at e3 hB3 hG3
            subst e3
            rw [List.cons_append] at hB3
            simp [-ixStr, h0, h1, h2, h6, h7, hlt, hix, g, gI, hih, his, hw1, hmid, pkV, xV]
            refine step [92, 114] (qch_ltr (by decide)) (by simp) _ (by rw [hG3]; rw [hG2]) (by simpa using hB3) ?_ ?_ ?_ ?_ ?_
            · simp [h0]
            · simp [h1]
            · simp [h2]
            · simp
            · simp
          by_cases g9 : x = 9
          · subst g9
            simp [-ixStr, h0, h1, h2, h6, h7, hlt, hix, g, gI, hih, his, hw1, hmid, pkV, xV]
            refine gH_use (show CW fns 17 [.ptr (.obj b) 0, .int .u8 92] _ _ from c_WriteByte (c := 92) hB1 (by simp only [List.length_cons, List.length_append, hA1l, List.length_nil]; omega)) (fun v2 h2' hq2 => ?_)
            obtain ⟨e2, hB2, hG2⟩ := hq2
            simp only at e2 hB2 hG2
            subst e2
            rw [List.cons_append] at hB2
            simp [-ixStr, h0, h1, h2, h6, h7, hlt, hix, g, gI, hih, his, hw1, hmid, pkV, xV]
            refine gH_use (show CW fns 17 [.ptr (.obj b) 0, .int .u8 116] _ _ from c_WriteByte (c := 116) hB2 (by simp only [List.length_cons, List.length_append, hA1l, List.length_nil]; omega)) (fun v3 h3' hq3 => ?_)
            obtain ⟨e3, hB3, hG3⟩ := hq3
            simp only at e3 hB3 hG3
            subst e3
            rw [List.cons_append] at hB3
            simp [-ixStr, h0, h1, h2, h6, h7, hlt, hix, g, gI, hih, his, hw1, hmid, pkV, xV]
            refine step [92, 116] (qch_ltr (by decide)) (by simp) _ (by rw [hG3]; rw [hG2]) (by simpa using hB3) ?_ ?_ ?_ ?_ ?_
            · simp [h0]
            · simp [h1]
            · simp [h2]
            · simp
            · simp
          by_cases g8 : x = 8
          · subst g8
            simp [-ixStr, h0, h1, h2, h6, h7, hlt, hix, g, gI, hih, his, hw1, hmid, pkV, xV]
            refine gH_use (show CW fns 17 [.ptr (.obj b) 0, .int .u8 92] _ _ from c_WriteByte (c := 92) hB1 (by simp only [List.length_cons, List.length_append, hA1l, List.length_nil]; omega)) (fun v2 h2' hq2 => ?_)
            obtain ⟨e2, hB2, hG2⟩ := hq2
            simp only at e2 hB2 hG2
            subst e2
            rw [List.cons_append] at hB2
            simp [-ixStr, h0, h1, h2, h6, h7, hlt, hix, g, gI, hih, his, hw1, hmid, pkV, xV]
            refine gH_use (show CW fns 17 [.ptr (.obj b) 0, .int .u8 98] _ _ from c_WriteByte (c := 98) hB2 (by simp only [List.length_cons, List.length_append, hA1l, List.length_nil]; omega)) (fun v3 h3' hq3 => ?_)
            obtain ⟨e3, hB3, hG3⟩ := hq3
            simp only at e3 hB3 hG3
            subst e3
            rw [List.cons_append] at hB3
            simp [-ixStr, h0, h1, h2, h6, h7, hlt, hix, g, gI, hih, his, hw1, hmid, pkV, xV]
            refine step [92, 98] (qch_ltr (by decide)) (by simp) _ (by rw [hG3]; rw [hG2]) (by simpa using hB3) ?_ ?_ ?_ ?_ ?_
            · simp [h0]
            · simp [h1]
            · simp [h2]
            · simp
            · simp
          by_cases g12 : x = 12
          · subst g12
            simp [-ixStr, h0, h1, h2, h6, h7, hlt, hix, g, gI, hih, his, hw1, hmid, pkV, xV]
            refine gH_use (show CW fns 17 [.ptr (.obj b) 0, .int .u8 92] _ _ from c_WriteByte (c := 92) hB1 (by simp only [List.length_cons, List.length_append, hA1l, List.length_nil]; omega)) (fun v2 h2' hq2 => ?_)
            obtain ⟨e2, hB2, hG2⟩ := hq2
            simp only at e2 hB2 hG2
            subst e2
            rw [List.cons_append] at hB2
            simp [-ixStr, h0, h1, h2, h6, h7, hlt, hix, g, gI, hih, his, hw1, hmid, pkV, xV]
            refine gH_use (show CW fns 17 [.ptr (.obj b) 0, .int .u8 102] _ _ from c_WriteByte (c := 102) hB2 (by simp only [List.length_cons, List.length_append, hA1l, List.length_nil]; omega)) (fun v3 h3' hq3 => ?_)
            obtain ⟨e3, hB3, hG3⟩ := hq3
            simp only at e3 hB3 hG3
            subst e3
            rw [List.cons_append] at hB3
            simp [-ixStr, h0, h1, h2, h6, h7, hlt, hix, g, gI, hih, his, hw1, hmid, pkV, xV]
            refine step [92, 102] (qch_ltr (by decide)) (by simp) _ (by rw [hG3]; rw [hG2]) (by simpa using hB3) ?_ ?_ ?_ ?_ ?_
            · simp [h0]
            · simp [h1]
            · simp [h2]
            · simp
            · simp
          have n92 : ¬ (x.toNat : Int) = 92 := fun e => g92 (UInt8.toNat_inj.1 (by have : (92 : UInt8).toNat = 92 := rfl; omega))
          have m92 : ¬ x.toNat = 92 := by omega
          have n34 : ¬ (x.toNat : Int) = 34 := fun e => g34 (UInt8.toNat_inj.1 (by have : (34 : UInt8).toNat = 34 := rfl; omega))
          have m34 : ¬ x.toNat = 34 := by omega
          have n10 : ¬ (x.toNat : Int) = 10 := fun e => g10 (UInt8.toNat_inj.1 (by have : (10 : UInt8).toNat = 10 := rfl; omega))
          have m10 : ¬ x.toNat = 10 := by omega
          have n13 : ¬ (x.toNat : Int) = 13 := fun e => g13 (UInt8.toNat_inj.1 (by have : (13 : UInt8).toNat = 13 := rfl; omega))
          have m13 : ¬ x.toNat = 13 := by omega
          have n9 : ¬ (x.toNat : Int) = 9 := fun e => g9 (UInt8.toNat_inj.1 (by have : (9 : UInt8).toNat = 9 := rfl; omega))
          have m9 : ¬ x.toNat = 9 := by omega
          have n8 : ¬ (x.toNat : Int) = 8 := fun e => g8 (UInt8.toNat_inj.1 (by have : (8 : UInt8).toNat = 8 := rfl; omega))
          have m8 : ¬ x.toNat = 8 := by omega
          have n12 : ¬ (x.toNat : Int) = 12 := fun e => g12 (UInt8.toNat_inj.1 (by have : (12 : UInt8).toNat = 12 := rfl; omega))
          have m12 : ¬ x.toNat = 12 := by omega
          obtain ⟨q1, q2⟩ := hex_bits x.toNat hxb
          have x1 := ix_hexC (n := x.toNat / 16) .u8 (by omega)
          have x2 := ix_hexC (n := x.toNat % 16) .u8 (by omega)
          simp only [Int.natCast_emod, Int.cast_ofNat_Int, Int.natCast_ediv] at q1 q2 x1 x2
          have hqx := qch_hex (esc := _) (bs := (x :: r).take 1) (c := x.toNat) (by omega) g hno
          simp [-ixStr, h0, h1, h2, h6, h7, hlt, hix, g, gI, hih, his, hw1, hmid, pkV, xV, n92, n34, n10, n13, n9, n8, n12, m92, m34, m10, m13, m9, m8, m12, aShift, IntKind.bits, q1, q2, x1, x2]
          refine gH_use (c_WriteString (s := [92, 117, 48, 48]) hB1 (by simp) (by simp) (by simp only [List.length_cons, List.length_append, hA1l, List.length_nil]; omega) (by simp)) (fun v2 h2' hq2 => ?_)
          obtain ⟨e2, hB2, hG2⟩ := hq2
          simp only at e2 hB2 hG2
          subst e2
          rw [List.cons_append] at hB2
          simp [-ixStr, h0, h1, h2, h6, h7, hlt, hix, g, gI, hih, his, hw1, hmid, pkV, xV, n92, n34, n10, n13, n9, n8, n12, m92, m34, m10, m13, m9, m8, m12, aShift, IntKind.bits, q1, q2, x1, x2]
          refine gH_use (show CW fns 17 [.ptr (.obj b) 0, .int .u8 ((hexC (x.toNat / 16)).toNat : Int)] _ _ from c_WriteByte (c := hexC (x.toNat / 16)) hB2 (by simp only [List.length_cons, List.length_append, hA1l, List.length_nil]; omega)) (fun v3 h3' hq3 => ?_)
          obtain ⟨e3, hB3, hG3⟩ := hq3
          simp only at e3 hB3 hG3
          subst e3
          rw [List.cons_append] at hB3
          simp [-ixStr, h0, h1, h2, h6, h7, hlt, hix, g, gI, hih, his, hw1, hmid, pkV, xV, n92, n34, n10, n13, n9, n8, n12, m92, m34, m10, m13, m9, m8, m12, aShift, IntKind.bits, q1, q2, x1, x2]
          refine gH_use (show CW fns 17 [.ptr (.obj b) 0, .int .u8 ((hexC (x.toNat % 16)).toNat : Int)] _ _ from c_WriteByte (c := hexC (x.toNat % 16)) hB3 (by simp only [List.length_cons, List.length_append, hA1l, List.length_nil]; omega)) (fun v4 h4' hq4 => ?_)
          obtain ⟨e4, hB4, hG4⟩ := hq4
          simp only at e4 hB4 hG4
          subst e4
          rw [List.cons_append] at hB4
          simp [-ixStr, h0, h1, h2, h6, h7, hlt, hix, g, gI, hih, his, hw1, hmid, pkV, xV, n92, n34, n10, n13, n9, n8, n12, m92, m34, m10, m13, m9, m8, m12, aShift, IntKind.bits, q1, q2, x1, x2]
          refine step [92, 117, 48, 48, hexC (x.toNat / 16), hexC (x.toNat % 16)] (hqx) (by simp) _ (by rw [hG4]; rw [hG3]; rw [hG2]) (by simpa using hB4) ?_ ?_ ?_ ?_ ?_
          · simp [h0]
          · simp [h1]
          · simp [h2]
          · simp
          · simp
      · subst he
        rw [hsf2] at his
        by_cases hfl0 : start < i
        · have hfl : (start : Int) < i := by omega
          refine loopω_run fns ?_
          simp [-ixStr, h0, h1, h2, h6, h7, hlt, hix, g, gI, hih, his, hw1, hmid, pkV, xV, hfl]
          refine gH_use (c_WriteString hB (by simp) (by rw [hA1l]; omega) (by simp; omega) (by rw [hA1l]; omega)) (fun v1 h1' hq1 => ?_)
          obtain ⟨e1, hB1, hG1⟩ := hq1
          simp only at e1 hB1 hG1
          subst e1
          rw [List.cons_append] at hB1
          simp [-ixStr, h0, h1, h2, h6, h7, hlt, hix, g, gI, hih, his, hw1, hmid, pkV, xV]
          by_cases g92 : x = 92
          · subst g92
            simp [-ixStr, h0, h1, h2, h6, h7, hlt, hix, g, gI, hih, his, hw1, hmid, pkV, xV]
            refine gH_use (show CW fns 17 [.ptr (.obj b) 0, .int .u8 92] _ _ from c_WriteByte (c := 92) hB1 (by simp only [List.length_cons, List.length_append, hA1l, List.length_nil]; omega)) (fun v2 h2' hq2 => ?_)
            obtain ⟨e2, hB2, hG2⟩ := hq2
            simp only at e2 hB2 hG2
            subst e2
            rw [List.cons_append] at hB2
            simp [-ixStr, h0, h1, h2, h6, h7, hlt, hix, g, gI, hih, his, hw1, hmid, pkV, xV]
            refine gH_use (show CW fns 17 [.ptr (.obj b) 0, .int .u8 92] _ _ from c_WriteByte (c := 92) hB2 (by simp only [List.length_cons, List.length_append, hA1l, List.length_nil]; omega)) (fun v3 h3' hq3 => ?_)
            obtain ⟨e3, hB3, hG3⟩ := hq3
            simp only at e3 hB3 hG3
            subst e3
            rw [List.cons_append] at hB3
            simp [-ixStr, h0, h1, h2, h6, h7, hlt, hix, g, gI, hih, his, hw1, hmid, pkV, xV]
            refine step [92, 92] (qch_quote (by decide)) (by simp) _ (by rw [hG3]; rw [hG2]; rw [hG1]) (by simpa using hB3) ?_ ?_ ?_ ?_ ?_
            · simp [h0]
            · simp [h1]
            · simp [h2]
            · simp
            · simp
          by_cases g34 : x = 34
          · subst g34
            simp [-ixStr, h0, h1, h2, h6, h7, hlt, hix, g, gI, hih, his, hw1, hmid, pkV, xV]
            refine gH_use (show CW fns 17 [.ptr (.obj b) 0, .int .u8 92] _ _ from c_WriteByte (c := 92) hB1 (by simp only [List.length_cons, List.length_append, hA1l, List.length_nil]; omega)) (fun v2 h2' hq2 => ?_)
            obtain ⟨e2, hB2, hG2⟩ := hq2
            simp only at e2 hB2 hG2
            subst e2
            rw [List.cons_append] at hB2
            simp [-ixStr, h0, h1, h2, h6, h7, hlt, hix, g, gI, hih, his, hw1, hmid, pkV, xV]
            refine gH_use (show CW fns 17 [.ptr (.obj b) 0, .int .u8 34] _ _ from c_WriteByte (c := 34) hB2 (by simp only [List.length_cons, List.length_append, hA1l, List.length_nil]; omega)) (fun v3 h3' hq3 => ?_)
            obtain ⟨e3, hB3, hG3⟩ := hq3
            simp only at e3 hB3 hG3
            subst e3
            rw [List.cons_append] at hB3
            simp [-ixStr, h0, h1, h2, h6, h7, hlt, hix, g, gI, hih, his, hw1, hmid, pkV, xV]
            refine step [92, 34] (qch_quote (by decide)) (by simp) _ (by rw [hG3]; rw [hG2]; rw [hG1]) (by simpa using hB3) ?_ ?_ ?_ ?_ ?_
            · simp [h0]
            · simp [h1]
            · simp [h2]
            · simp
            · simp
          by_cases g10 : x = 10
          · subst g10
            simp [-ixStr, h0, h1, h2, h6, h7, hlt, hix, g, gI, hih, his, hw1, hmid, pkV, xV]
            refine gH_use (show CW fns 17 [.ptr (.obj b) 0, .int .u8 92] _ _ from c_WriteByte (c := 92) hB1 (by simp only [List.length_cons, List.length_append, hA1l, List.length_nil]; omega)) (fun v2 h2' hq2 => ?_)
            obtain ⟨e2, hB2, hG2⟩ := hq2
            simp only at e2 hB2 hG2
            subst e2
            rw [List.cons_append] at hB2
            simp [-ixStr, h0, h1, h2, h6, h7, hlt, hix, g, gI, hih, his, hw1, hmid, pkV, xV]
            refine gH_use (show CW fns 17 [.ptr (.obj b) 0, .int .u8 110] _ _ from c_WriteByte (c := 110) hB2 (by simp only [List.length_cons, List.length_append, hA1l, List.length_nil]; omega)) (fun v3 h3' hq3 => ?_)
            obtain ⟨e3, hB3, hG3⟩ := hq3
            simp only at e3 hB3 hG3
            subst e3
            rw [List.cons_append] at hB3
            simp [-ixStr, h0, h1, h2, h6, h7, hlt, hix, g, gI, hih, his, hw1, hmid, pkV, xV]
            refine step [92, 110] (qch_ltr (by decide)) (by simp) _ (by rw [hG3]; rw [hG2]; rw [hG1]) (by simpa using hB3) ?_ ?_ ?_ ?_ ?_
            · simp [h0]
            · simp [h1]
            · simp [h2]
            · simp
            · simp
          by_cases g13 : x = 13
          · subst g13
            simp [-ixStr, h0, h1, h2, h6, h7, hlt, hix, g, gI, hih, his, hw1, hmid, pkV, xV]
            refine gH_use (show CW fns 17 [.ptr (.obj b) 0, .int .u8 92] _ _ from c_WriteByte (c := 92) hB1 (by simp only [List.length_cons, List.length_append, hA1l, List.length_nil]; omega)) (fun v2 h2' hq2 => ?_)
            obtain ⟨e2, hB2, hG2⟩ := hq2
            simp only at e2 hB2 hG2
            subst e2
            rw [List.cons_append] at hB2
            simp [-ixStr, h0, h1, h2, h6, h7, hlt, hix, g, gI, hih, his, hw1, hmid, pkV, xV]
            refine gH_use (show CW fns 17 [.ptr (.obj b) 0, .int .u8 114] _ _ from c_WriteByte (c := 114) hB2 (by simp only [List.length_cons, List.length_append, hA1l, List.length_nil]; omega)) (fun v3 h3' hq3 => ?_)
            obtain ⟨e3, hB3, hG3⟩ := hq3
            simp only at e3 hB3 hG3
            subst e3
            rw [List.cons_append] at hB3
            simp [-ixStr, h0, h1, h2, h6, h7, hlt, hix, g, gI, hih, his, hw1, hmid, pkV, xV]
            refine step [92, 114] (qch_ltr (by decide)) (by simp) _ (by rw [hG3]; rw [hG2]; rw [hG1]) (by simpa using hB3) ?_ ?_ ?_ ?_ ?_
            · simp [h0]
            · simp [h1]
            · simp [h2]
            · simp
            · simp
          by_cases g9 : x = 9
          · subst g9
            simp [-ixStr, h0, h1, h2, h6, h7, hlt, hix, g, gI, hih, his, hw1, hmid, pkV, xV]
            refine gH_use (show CW fns 17 [.ptr (.obj b) 0, .int .u8 92] _ _ from c_WriteByte (c := 92) hB1 (by simp only [List.length_cons, List.length_append, hA1l, List.length_nil]; omega)) (fun v2 h2' hq2 => ?_)
            obtain ⟨e2, hB2, hG2⟩ := hq2
            simp only at e2 hB2 hG2
            subst e2
            rw [List.cons_append] at hB2
            simp [-ixStr, h0, h1, h2, h6, h7, hlt, hix, g, gI, hih, his, hw1, hmid, pkV, xV]
            refine gH_use (show CW fns 17 [.ptr (.obj b) 0, .int .u8 116] _ _ from c_WriteByte (c := 116) hB2 (by simp only [List.length_cons, List.length_append, hA1l, List.length_nil]; omega)) (fun v3 h3' hq3 => ?_)
            obtain ⟨e3, hB3, hG3⟩ := hq3
            simp only at e3 hB3 hG3
            subst e3
            rw [List.cons_append] at hB3
            simp [-ixStr, h0, h1, h2, h6, h7, hlt, hix, g, gI, hih, his, hw1, hmid, pkV, xV]
            refine step [92, 116] (qch_ltr (by decide)) (by simp) _ (by rw [hG3]; rw [hG2]; rw [hG1]) (by simpa using hB3) ?_ ?_ ?_ ?_ ?_
            · simp [h0]
            · simp [h1]
            · simp [h2]
            · simp
            · simp
          by_cases g8 : x = 8
          · subst g8
            simp [-ixStr, h0, h1, h2, h6, h7, hlt, hix, g, gI, hih, his, hw1, hmid, pkV, xV]
            refine gH_use (show CW fns 17 [.ptr (.obj b) 0, .int .u8 92] _ _ from c_WriteByte (c := 92) hB1 (by simp only [List.length_cons, List.length_append, hA1l, List.length_nil]; omega)) (fun v2 h2' hq2 => ?_)
            obtain ⟨e2, hB2, hG2⟩ := hq2
            simp only at e2 hB2 hG2
            subst e2
            rw [List.cons_append] at hB2
            simp [-ixStr, h0, h1, h2, h6, h7, hlt, hix, g, gI, hih, his, hw1, hmid, pkV, xV]
            refine gH_use (show CW fns 17 [.ptr (.obj b) 0, .int .u8 98] _ _ from c_WriteByte (c := 98) hB2 (by simp only [List.length_cons, List.length_append, hA1l, List.length_nil]; omega)) (fun v3 h3' hq3 => ?_)
            obtain ⟨e3, hB3, hG3⟩ := hq3
            simp only at e3 hB3 hG3
            subst e3
            rw [List.cons_append] at hB3
            simp [-ixStr, h0, h1, h2, h6, h7, hlt, hix, g, gI, hih, his, hw1, hmid, pkV, xV]
            refine step [92, 98] (qch_ltr (by decide)) (by simp) _ (by rw [hG3]; rw [hG2]; rw [hG1]) (by simpa using hB3) ?_ ?_ ?_ ?_ ?_
            · simp [h0]
            · simp [h1]
            · simp [h2]
            · simp
            · simp
          by_cases g12 : x = 12
          · subst g12
            simp [-ixStr, h0, h1, h2, h6, h7, hlt, hix, g, gI, hih, his, hw1, hmid, pkV, xV]
            refine gH_use (show CW fns 17 [.ptr (.obj b) 0, .int .u8 92] _ _ from c_WriteByte (c := 92) hB1 (by simp only [List.length_cons, List.length_append, hA1l, List.length_nil]; omega)) (fun v2 h2' hq2 => ?_)
            obtain ⟨e2, hB2, hG2⟩ := hq2
            simp only at e2 hB2 hG2
            subst e2
            rw [List.cons_append] at hB2
            simp [-ixStr, h0, h1, h2, h6, h7, hlt, hix, g, gI, hih, his, hw1, hmid, pkV, xV]
            refine gH_use (show CW fns 17 [.ptr (.obj b) 0, .int .u8 102] _ _ from c_WriteByte (c := 102) hB2 (by simp only [List.length_cons, List.length_append, hA1l, List.length_nil]; omega)) (fun v3 h3' hq3 => ?_)
            obtain ⟨e3, hB3, hG3⟩ := hq3
            simp only at e3 hB3 hG3
            subst e3
            rw [List.cons_append] at hB3
            simp [-ixStr, h0, h1, h2, h6, h7, hlt, hix, g, gI, hih, his, hw1, hmid, pkV, xV]
            refine step [92, 102] (qch_ltr (by decide)) (by simp) _ (by rw [hG3]; rw [hG2]; rw [hG1]) (by simpa using hB3) ?_ ?_ ?_ ?_ ?_
            · simp [h0]
            · simp [h1]
            · simp [h2]
            · simp
            · simp
          have n92 : ¬ (x.toNat : Int) = 92 := fun e => g92 (UInt8.toNat_inj.1 (by have : (92 : UInt8).toNat = 92 := rfl; omega))
          have m92 : ¬ x.toNat = 92 := by omega
          have n34 : ¬ (x.toNat : Int) = 34 := fun e => g34 (UInt8.toNat_inj.1 (by have : (34 : UInt8).toNat = 34 := rfl; omega))
          have m34 : ¬ x.toNat = 34 := by omega
          have n10 : ¬ (x.toNat : Int) = 10 := fun e => g10 (UInt8.toNat_inj.1 (by have : (10 : UInt8).toNat = 10 := rfl; omega))
          have m10 : ¬ x.toNat = 10 := by omega
          have n13 : ¬ (x.toNat : Int) = 13 := fun e => g13 (UInt8.toNat_inj.1 (by have : (13 : UInt8).toNat = 13 := rfl; omega))
          have m13 : ¬ x.toNat = 13 := by omega
          have n9 : ¬ (x.toNat : Int) = 9 := fun e => g9 (UInt8.toNat_inj.1 (by have : (9 : UInt8).toNat = 9 := rfl; omega))
          have m9 : ¬ x.toNat = 9 := by omega
          have n8 : ¬ (x.toNat : Int) = 8 := fun e => g8 (UInt8.toNat_inj.1 (by have : (8 : UInt8).toNat = 8 := rfl; omega))
          have m8 : ¬ x.toNat = 8 := by omega
          have n12 : ¬ (x.toNat : Int) = 12 := fun e => g12 (UInt8.toNat_inj.1 (by have : (12 : UInt8).toNat = 12 := rfl; omega))
          have m12 : ¬ x.toNat = 12 := by omega
          obtain ⟨q1, q2⟩ := hex_bits x.toNat hxb
          have x1 := ix_hexC (n := x.toNat / 16) .u8 (by omega)
          have x2 := ix_hexC (n := x.toNat % 16) .u8 (by omega)
          simp only [Int.natCast_emod, Int.cast_ofNat_Int, Int.natCast_ediv] at q1 q2 x1 x2
          have hqx := qch_hex (esc := _) (bs := (x :: r).take 1) (c := x.toNat) (by omega) g hno
          simp [-ixStr, h0, h1, h2, h6, h7, hlt, hix, g, gI, hih, his, hw1, hmid, pkV, xV, n92, n34, n10, n13, n9, n8, n12, m92, m34, m10, m13, m9, m8, m12, aShift, IntKind.bits, q1, q2, x1, x2]
          refine gH_use (c_WriteString (s := [92, 117, 48, 48]) hB1 (by simp) (by simp) (by simp only [List.length_cons, List.length_append, hA1l, List.length_nil]; omega) (by simp)) (fun v2 h2' hq2 => ?_)
          obtain ⟨e2, hB2, hG2⟩ := hq2
          simp only at e2 hB2 hG2
          subst e2
          rw [List.cons_append] at hB2
          simp [-ixStr, h0, h1, h2, h6, h7, hlt, hix, g, gI, hih, his, hw1, hmid, pkV, xV, n92, n34, n10, n13, n9, n8, n12, m92, m34, m10, m13, m9, m8, m12, aShift, IntKind.bits, q1, q2, x1, x2]
          refine gH_use (show CW fns 17 [.ptr (.obj b) 0, .int .u8 ((hexC (x.toNat / 16)).toNat : Int)] _ _ from c_WriteByte (c := hexC (x.toNat / 16)) hB2 (by simp only [List.length_cons, List.length_append, hA1l, List.length_nil]; omega)) (fun v3 h3' hq3 => ?_)
          obtain ⟨e3, hB3, hG3⟩ := hq3
          simp only at e3 hB3 hG3
          subst e3
          rw [List.cons_append] at hB3
          simp [-ixStr, h0, h1, h2, h6, h7, hlt, hix, g, gI, hih, his, hw1, hmid, pkV, xV, n92, n34, n10, n13, n9, n8, n12, m92, m34, m10, m13, m9, m8, m12, aShift, IntKind.bits, q1, q2, x1, x2]
          refine gH_use (show CW fns 17 [.ptr (.obj b) 0, .int .u8 ((hexC (x.toNat % 16)).toNat : Int)] _ _ from c_WriteByte (c := hexC (x.toNat % 16)) hB3 (by simp only [List.length_cons, List.length_append, hA1l, List.length_nil]; omega)) (fun v4 h4' hq4 => ?_)
          obtain ⟨e4, hB4, hG4⟩ := hq4
          simp only at e4 hB4 hG4
          subst e4
          rw [List.cons_append] at hB4
          simp [-ixStr, h0, h1, h2, h6, h7, hlt, hix, g, gI, hih, his, hw1, hmid, pkV, xV, n92, n34, n10, n13, n9, n8, n12, m92, m34, m10, m13, m9, m8, m12, aShift, IntKind.bits, q1, q2, x1, x2]
          refine step [92, 117, 48, 48, hexC (x.toNat / 16), hexC (x.toNat % 16)] (hqx) (by simp) _ (by rw [hG4]; rw [hG3]; rw [hG2]; rw [hG1]) (by simpa using hB4) ?_ ?_ ?_ ?_ ?_
          · simp [h0]
          · simp [h1]
          · simp [h2]
          · simp
          · simp
        · have hfl : ¬ (start : Int) < i := by omega
          refine loopω_run fns ?_
          simp [-ixStr, h0, h1, h2, h6, h7, hlt, hix, g, gI, hih, his, hw1, hmid, pkV, xV, hfl]
          have hB1 : BufAt st.h b (34 :: (A ++ (s.drop start).take (i - start))) := by rw [hsi2 hfl0, List.append_nil]; exact hB
          by_cases g92 : x = 92
          · subst g92
            simp [-ixStr, h0, h1, h2, h6, h7, hlt, hix, g, gI, hih, his, hw1, hmid, pkV, xV]
            refine gH_use (show CW fns 17 [.ptr (.obj b) 0, .int .u8 92] _ _ from c_WriteByte (c := 92) hB1 (by simp only [List.length_cons, List.length_append, hA1l, List.length_nil]; omega)) (fun v2 h2' hq2 => ?_)
            obtain ⟨e2, hB2, hG2⟩ := hq2
            simp only at e2 hB2 hG2
            subst e2
            rw [List.cons_append] at hB2
            simp [-ixStr, h0, h1, h2, h6, h7, hlt, hix, g, gI, hih, his, hw1, hmid, pkV, xV]
            refine gH_use (show CW fns 17 [.ptr (.obj b) 0, .int .u8 92] _ _ from c_WriteByte (c := 92) hB2 (by simp only [List.length_cons, List.length_append, hA1l, List.length_nil]; omega)) (fun v3 h3' hq3 => ?_)
            obtain ⟨e3, hB3, hG3⟩ := hq3
            simp only at e3 hB3 hG3
            subst e3
            rw [List.cons_append] at hB3
            simp [-ixStr, h0, h1, h2, h6, h7, hlt, hix, g, gI, hih, his, hw1, hmid, pkV, xV]
            refine step [92, 92] (qch_quote (by decide)) (by simp) _ (by rw [hG3]; rw [hG2]) (by simpa using hB3) ?_ ?_ ?_ ?_ ?_
            · simp [h0]
            · simp [h1]
            · simp [h2]
            · simp
            · simp
          by_cases g34 : x = 34
          · subst g34
            simp [-ixStr, h0, h1, h2, h6, h7, hlt, hix, g, gI, hih, his, hw1, hmid, pkV, xV]
            refine gH_use (show CW fns 17 [.ptr (.obj b) 0, .int .u8 92] _ _ from c_WriteByte (c := 92) hB1 (by simp only [List.length_cons, List.length_append, hA1l, List.length_nil]; omega)) (fun v2 h2' hq2 => ?_)
            obtain ⟨e2, hB2, hG2⟩ := hq2
            simp only at e2 hB2 hG2
            subst e2
            rw [List.cons_append] at hB2
            simp [-ixStr, h0, h1, h2, h6, h7, hlt, hix, g, gI, hih, his, hw1, hmid, pkV, xV]
            refine gH_use (show CW fns 17 [.ptr (.obj b) 0, .int .u8 34] _ _ from c_WriteByte (c := 34) hB2 (by simp only [List.length_cons, List.length_append, hA1l, List.length_nil]; omega)) (fun v3 h3' hq3 => ?_)
            obtain ⟨e3, hB3, hG3⟩ := hq3
            simp only at e3 hB3 hG3
            subst e3
            rw [List.cons_append] at hB3
            simp [-ixStr, h0, h1, h2, h6, h7, hlt, hix, g, gI, hih, his, hw1, hmid, pkV, xV]
            refine step [92, 34] (qch_quote (by decide)) (by simp) _ (by rw [hG3]; rw [hG2]) (by simpa using hB3) ?_ ?_ ?_ ?_ ?_
            · simp [h0]
            · simp [h1]
            · simp [h2]
            · simp
            · simp
          by_cases g10 : x = 10
          · subst g10
            simp [-ixStr, h0, h1, h2, h6, h7, hlt, hix, g, gI, hih, his, hw1, hmid, pkV, xV]
            refine gH_use (show CW fns 17 [.ptr (.obj b) 0, .int .u8 92] _ _ from c_WriteByte (c := 92) hB1 (by simp only [List.length_cons, List.length_append, hA1l, List.length_nil]; omega)) (fun v2 h2' hq2 => ?_)
            obtain ⟨e2, hB2, hG2⟩ := hq2
            simp only at e2 hB2 hG2
            subst e2
            rw [List.cons_append] at hB2
            simp [-ixStr, h0, h1, h2, h6, h7, hlt, hix, g, gI, hih, his, hw1, hmid, pkV, xV]
            refine gH_use (show CW fns 17 [.ptr (.obj b) 0, .int .u8 110] _ _ from c_WriteByte (c := 110) hB2 (by simp only [List.length_cons, List.length_append, hA1l, List.length_nil]; omega)) (fun v3 h3' hq3 => ?_)
            obtain ⟨e3, hB3, hG3⟩ := hq3
            simp only at e3 hB3 hG3
            subst e3
            rw [List.cons_append] at hB3
            simp [-ixStr, h0, h1, h2, h6, h7, hlt, hix, g, gI, hih, his, hw1, hmid, pkV, xV]
            refine step [92, 110] (qch_ltr (by decide)) (by simp) _ (by rw [hG3]; rw [hG2]) (by simpa using hB3) ?_ ?_ ?_ ?_ ?_
            · simp [h0]
            · simp [h1]
            · simp [h2]
            · simp
            · simp
          by_cases g13 : x = 13
          · subst g13
            simp [-ixStr, h0, h1, h2, h6, h7, hlt, hix, g, gI, hih, his, hw1, hmid, pkV, xV]
            refine gH_use (show CW fns 17 [.ptr (.obj b) 0, .int .u8 92] _ _ from c_WriteByte (c := 92) hB1 (by simp only [List.length_cons, List.length_append, hA1l, List.length_nil]; omega)) (fun v2 h2' hq2 => ?_)
            obtain ⟨e2, hB2, hG2⟩ := hq2
            simp only at e2 hB2 hG2
            subst e2
            rw [List.cons_append] at hB2
            simp [-ixStr, h0, h1, h2, h6, h7, hlt, hix, g, gI, hih, his, hw1, hmid, pkV, xV]
            refine gH_use (show CW fns 17 [.ptr (.obj b) 0, .int .u8 114] _ _ from c_WriteByte (c := 114) hB2 (by simp only [List.length_cons, List.length_append, hA1l, List.length_nil]; omega)) (fun v3 h3' hq3 => ?_)
            obtain ⟨e3, hB3, hG3⟩ := hq3
            simp only at e3 hB3 hG3
            subst e3
            rw [List.cons_append] at hB3
            simp [-ixStr, h0, h1, h2, h6, h7, hlt, hix, g, gI, hih, his, hw1, hmid, pkV, xV]
            refine step [92, 114] (qch_ltr (by decide)) (by simp) _ (by rw [hG3]; rw [hG2]) (by simpa using hB3) ?_ ?_ ?_ ?_ ?_
            · simp [h0]
            · simp [h1]
            · simp [h2]
            · simp
            · simp
          by_cases g9 : x = 9
          · subst g9
            simp [-ixStr, h0, h1, h2, h6, h7, hlt, hix, g, gI, hih, his, hw1, hmid, pkV, xV]
            refine gH_use (show CW fns 17 [.ptr (.obj b) 0, .int .u8 92] _ _ from c_WriteByte (c := 92) hB1 (by simp only [List.length_cons, List.length_append, hA1l, List.length_nil]; omega)) (fun v2 h2' hq2 => ?_)
            obtain ⟨e2, hB2, hG2⟩ := hq2
            simp only at e2 hB2 hG2
            subst e2
            rw [List.cons_append] at hB2
            simp [-ixStr, h0, h1, h2, h6, h7, hlt, hix, g, gI, hih, his, hw1, hmid, pkV, xV]
            refine gH_use (show CW fns 17 [.ptr (.obj b) 0, .int .u8 116] _ _ from c_WriteByte (c := 116) hB2 (by simp only [List.length_cons, List.length_append, hA1l, List.length_nil]; omega)) (fun v3 h3' hq3 => ?_)
            obtain ⟨e3, hB3, hG3⟩ := hq3
            simp only at e3 hB3 hG3
            subst e3
            rw [List.cons_append] at hB3
            simp [-ixStr, h0, h1, h2, h6, h7, hlt, hix, g, gI, hih, his, hw1, hmid, pkV, xV]
            refine step [92, 116] (qch_ltr (by decide)) (by simp) _ (by rw [hG3]; rw [hG2]) (by simpa using hB3) ?_ ?_ ?_ ?_ ?_
            · simp [h0]
            · simp [h1]
            · simp [h2]
            · simp
            · simp
          by_cases g8 : x = 8
          · subst g8
            simp [-ixStr, h0, h1, h2, h6, h7, hlt, hix, g, gI, hih, his, hw1, hmid, pkV, xV]
            refine gH_use (show CW fns 17 [.ptr (.obj b) 0, .int .u8 92] _ _ from c_WriteByte (c := 92) hB1 (by simp only [List.length_cons, List.length_append, hA1l, List.length_nil]; omega)) (fun v2 h2' hq2 => ?_)
            obtain ⟨e2, hB2, hG2⟩ := hq2
            simp only at e2 hB2 hG2
            subst e2
            rw [List.cons_append] at hB2
            simp [-ixStr, h0, h1, h2, h6, h7, hlt, hix, g, gI, hih, his, hw1, hmid, pkV, xV]
            refine gH_use (show CW fns 17 [.ptr (.obj b) 0, .int .u8 98] _ _ from c_WriteByte (c := 98) hB2 (by simp only [List.length_cons, List.length_append, hA1l, List.length_nil]; omega)) (fun v3 h3' hq3 => ?_)
            obtain ⟨e3, hB3, hG3⟩ := hq3
            simp only at e3 hB3 hG3
            subst e3
            rw [List.cons_append] at hB3
            simp [-ixStr, h0, h1, h2, h6, h7, hlt, hix, g, gI, hih, his, hw1, hmid, pkV, xV]
            refine step [92, 98] (qch_ltr (by decide)) (by simp) _ (by rw [hG3]; rw [hG2]) (by simpa using hB3) ?_ ?_ ?_ ?_ ?_
            · simp [h0]
            · simp [h1]
            · simp [h2]
            · simp
            · simp
          by_cases g12 : x = 12
          · subst g12
            simp [-ixStr, h0, h1, h2, h6, h7, hlt, hix, g, gI, hih, his, hw1, hmid, pkV, xV]
            refine gH_use (show CW fns 17 [.ptr (.obj b) 0, .int .u8 92] _ _ from c_WriteByte (c := 92) hB1 (by simp only [List.length_cons, List.length_append, hA1l, List.length_nil]; omega)) (fun v2 h2' hq2 => ?_)
            obtain ⟨e2, hB2, hG2⟩ := hq2
            simp only at e2 hB2 hG2
            subst e2
            rw [List.cons_append] at hB2
            simp [-ixStr, h0, h1, h2, h6, h7, hlt, hix, g, gI, hih, his, hw1, hmid, pkV, xV]
            refine gH_use (show CW fns 17 [.ptr (.obj b) 0, .int .u8 102] _ _ from c_WriteByte (c := 102) hB2 (by simp only [List.length_cons, List.length_append, hA1l, List.length_nil]; omega)) (fun v3 h3' hq3 => ?_)
            obtain ⟨e3, hB3, hG3⟩ := hq3
            simp only at e3 hB3 hG3
            subst e3
            rw [List.cons_append] at hB3
            simp [-ixStr, h0, h1, h2, h6, h7, hlt, hix, g, gI, hih, his, hw1, hmid, pkV, xV]
            refine step [92, 102] (qch_ltr (by decide)) (by simp) _ (by rw [hG3]; rw [hG2]) (by simpa using hB3) ?_ ?_ ?_ ?_ ?_
            · simp [h0]
            · simp [h1]
            · simp [h2]
            · simp
            · simp
          have n92 : ¬ (x.toNat : Int) = 92 := fun e => g92 (UInt8.toNat_inj.1 (by have : (92 : UInt8).toNat = 92 := rfl; omega))
          have m92 : ¬ x.toNat = 92 := by omega
          have n34 : ¬ (x.toNat : Int) = 34 := fun e => g34 (UInt8.toNat_inj.1 (by have : (34 : UInt8).toNat = 34 := rfl; omega))
          have m34 : ¬ x.toNat = 34 := by omega
          have n10 : ¬ (x.toNat : Int) = 10 := fun e => g10 (UInt8.toNat_inj.1 (by have : (10 : UInt8).toNat = 10 := rfl; omega))
          have m10 : ¬ x.toNat = 10 := by omega
          have n13 : ¬ (x.toNat : Int) = 13 := fun e => g13 (UInt8.toNat_inj.1 (by have : (13 : UInt8).toNat = 13 := rfl; omega))
          have m13 : ¬ x.toNat = 13 := by omega
          have n9 : ¬ (x.toNat : Int) = 9 := fun e => g9 (UInt8.toNat_inj.1 (by have : (9 : UInt8).toNat = 9 := rfl; omega))
          have m9 : ¬ x.toNat = 9 := by omega
          have n8 : ¬ (x.toNat : Int) = 8 := fun e => g8 (UInt8.toNat_inj.1 (by have : (8 : UInt8).toNat = 8 := rfl; omega))
          have m8 : ¬ x.toNat = 8 := by omega
          have n12 : ¬ (x.toNat : Int) = 12 := fun e => g12 (UInt8.toNat_inj.1 (by have : (12 : UInt8).toNat = 12 := rfl; omega))
          have m12 : ¬ x.toNat = 12 := by omega
          obtain ⟨q1, q2⟩ := hex_bits x.toNat hxb
          have x1 := ix_hexC (n := x.toNat / 16) .u8 (by omega)
          have x2 := ix_hexC (n := x.toNat % 16) .u8 (by omega)
          simp only [Int.natCast_emod, Int.cast_ofNat_Int, Int.natCast_ediv] at q1 q2 x1 x2
          have hqx := qch_hex (esc := _) (bs := (x :: r).take 1) (c := x.toNat) (by omega) g hno
          simp [-ixStr, h0, h1, h2, h6, h7, hlt, hix, g, gI, hih, his, hw1, hmid, pkV, xV, n92, n34, n10, n13, n9, n8, n12, m92, m34, m10, m13, m9, m8, m12, aShift, IntKind.bits, q1, q2, x1, x2]
          refine gH_use (c_WriteString (s := [92, 117, 48, 48]) hB1 (by simp) (by simp) (by simp only [List.length_cons, List.length_append, hA1l, List.length_nil]; omega) (by simp)) (fun v2 h2' hq2 => ?_)
          obtain ⟨e2, hB2, hG2⟩ := hq2
          simp only at e2 hB2 hG2
          subst e2
          rw [List.cons_append] at hB2
          simp [-ixStr, h0, h1, h2, h6, h7, hlt, hix, g, gI, hih, his, hw1, hmid, pkV, xV, n92, n34, n10, n13, n9, n8, n12, m92, m34, m10, m13, m9, m8, m12, aShift, IntKind.bits, q1, q2, x1, x2]
          refine gH_use (show CW fns 17 [.ptr (.obj b) 0, .int .u8 ((hexC (x.toNat / 16)).toNat : Int)] _ _ from c_WriteByte (c := hexC (x.toNat / 16)) hB2 (by simp only [List.length_cons, List.length_append, hA1l, List.length_nil]; omega)) (fun v3 h3' hq3 => ?_)
          obtain ⟨e3, hB3, hG3⟩ := hq3
          simp only at e3 hB3 hG3
          subst e3
          rw [List.cons_append] at hB3
          simp [-ixStr, h0, h1, h2, h6, h7, hlt, hix, g, gI, hih, his, hw1, hmid, pkV, xV, n92, n34, n10, n13, n9, n8, n12, m92, m34, m10, m13, m9, m8, m12, aShift, IntKind.bits, q1, q2, x1, x2]
          refine gH_use (show CW fns 17 [.ptr (.obj b) 0, .int .u8 ((hexC (x.toNat % 16)).toNat : Int)] _ _ from c_WriteByte (c := hexC (x.toNat % 16)) hB3 (by simp only [List.length_cons, List.length_append, hA1l, List.length_nil]; omega)) (fun v4 h4' hq4 => ?_)
          obtain ⟨e4, hB4, hG4⟩ := hq4
          simp only at e4 hB4 hG4
          subst e4
          rw [List.cons_append] at hB4
          simp [-ixStr, h0, h1, h2, h6, h7, hlt, hix, g, gI, hih, his, hw1, hmid, pkV, xV, n92, n34, n10, n13, n9, n8, n12, m92, m34, m10, m13, m9, m8, m12, aShift, IntKind.bits, q1, q2, x1, x2]
          refine step [92, 117, 48, 48, hexC (x.toNat / 16), hexC (x.toNat % 16)] (hqx) (by simp) _ (by rw [hG4]; rw [hG3]; rw [hG2]) (by simpa using hB4) ?_ ?_ ?_ ?_ ?_
          · simp [h0]
          · simp [h1]
          · simp [h2]
          · simp
          · simp
    · obtain ⟨c128, n2⟩ := d5 (by omega)
      have gI : ¬ (x.toNat : Int) < 128 := by omega
      have hsl := sl_rest hd hi
      have hTm : Tabs 2 3 st.h.mask.Γ := hT
      have hrune := c_rune hr hTm
      generalize hn : (dec (x :: r)).2 = n at *
      generalize hc : (dec (x :: r)).1 = c at *
      have hw : IntKind.i64.wrap ((i : Int) + n) = i + n := wrap_i64 (by omega) (by omega)
      have nn1 : ¬ (n : Int) = 1 := by omega
      have nn1' : ¬ n = 1 := by omega
      by_cases hsep : c = 8232 ∨ c = 8233
      · have hqx := qch_sep (esc := esc) (bs := (x :: r).take n) hsep
        have step : ∀ st2 : St, st2.h.Γ = st.h.Γ → BufAt st2.h b (34 :: (A ++ (s.drop start).take (i - start) ++ [92, 117, 50, 48, 50, UInt8.ofNat (c - 8176)])) → st2.s 0 = .str s → st2.s 4 = .ptr (.obj b) 0 → st2.s 3 = .bool esc → st2.s 5 = .int .i64 ((i : Int) + n) → st2.s 6 = .int .i64 ((i : Int) + n) → LoopR fns lc16_0 st2 Q := by
          intro st2 q0 qB q1 q2 q3 q4 q5
          rw [hqx] at hq
          refine ih ((x :: r).drop n) (i + n) (i + n) (A ++ (s.drop start).take (i - start) ++ [92, 117, 50, 48, 50, UInt8.ofNat (c - 8176)]) st2 (by simp at hk hl' ⊢; omega) hd' hi' (Nat.le_refl _) hv' (by rw [q0]; exact hT) qB (by simp only [List.length_append, hA1l, List.length_cons, List.length_nil]; omega) q1 q2 q3 (by rw [q4]; simp) (by rw [q5]; simp) Q (fun st' A' s' z1 z2 z3 z4 z5 z6 z7 z8 => hQ st' A' s' (by rw [z1, q0]) z2 z3 ?_ z5 z6 z7 z8)
          rw [z4, hq]; simp
        rcases hsep with rfl | rfl
        · simp only [Int.cast_ofNat_Int] at hrune
          have a15 : andI .i32 8232 15 = 8 := by decide +kernel
          have x8 : ixStr (.str [48, 49, 50, 51, 52, 53, 54, 55, 56, 57, 97, 98, 99, 100, 101, 102]) (.int .i32 8) = some (.int .u8 56) := rfl
          rw [show UInt8.ofNat (8232 - 8176) = 56 from rfl] at step
          by_cases hfl0 : start < i
          · have hfl : (start : Int) < i := by omega
            refine loopω_run fns ?_
            simp [-ixStr, h0, h1, h2, h6, h7, hlt, hix, g, gI, hsl, hrune, hw, hmid, pkV, xV, ex2_0, ex2_1, a15, x8, hfl]
            refine gH_use (c_WriteString hB (by simp) (by rw [hA1l]; omega) (by simp; omega) (by rw [hA1l]; omega)) (fun v1 h1' hq1 => ?_)
            obtain ⟨e1, hB1, hG1⟩ := hq1
            simp only at e1 hB1 hG1
            subst e1
            rw [List.cons_append] at hB1
            simp [-ixStr, h0, h1, h2, h6, h7, hlt, hix, g, gI, hsl, hrune, hw, hmid, pkV, xV, ex2_0, ex2_1, a15, x8]
            refine gH_use (c_WriteString (s := [92, 117, 50, 48, 50]) hB1 (by simp) (by simp) (by simp only [List.length_cons, List.length_append, hA1l, List.length_nil]; omega) (by simp)) (fun v2 h2' hq2 => ?_)
            obtain ⟨e2, hB2, hG2⟩ := hq2
            simp only at e2 hB2 hG2
            subst e2
            rw [List.cons_append] at hB2
            simp [-ixStr, h0, h1, h2, h6, h7, hlt, hix, g, gI, hsl, hrune, hw, hmid, pkV, xV, ex2_0, ex2_1, a15, x8]
            refine gH_use (show CW fns 17 [.ptr (.obj b) 0, .int .u8 56] _ _ from c_WriteByte (c := 56) hB2 (by simp only [List.length_cons, List.length_append, hA1l, List.length_nil]; omega)) (fun v3 h3' hq3 => ?_)
            obtain ⟨e3, hB3, hG3⟩ := hq3
            simp only at e3 hB3 hG3
            subst e3
            rw [List.cons_append] at hB3
            simp [-ixStr, h0, h1, h2, h6, h7, hlt, hix, g, gI, hsl, hrune, hw, hmid, pkV, xV, ex2_0, ex2_1, a15, x8]
            refine step _ (by rw [hG3] ; rw [hG2] ; rw [hG1]) (by simpa using hB3) ?_ ?_ ?_ ?_ ?_
            · simp [h0]
            · simp [h1]
            · simp [h2]
            · simp
            · simp
          · have hfl : ¬ (start : Int) < i := by omega
            refine loopω_run fns ?_
            simp [-ixStr, h0, h1, h2, h6, h7, hlt, hix, g, gI, hsl, hrune, hw, hmid, pkV, xV, ex2_0, ex2_1, a15, x8, hfl]
            have hB1 : BufAt st.h b (34 :: (A ++ (s.drop start).take (i - start))) := by rw [hsi2 hfl0, List.append_nil]; exact hB
            refine gH_use (c_WriteString (s := [92, 117, 50, 48, 50]) hB1 (by simp) (by simp) (by simp only [List.length_cons, List.length_append, hA1l, List.length_nil]; omega) (by simp)) (fun v2 h2' hq2 => ?_)
            obtain ⟨e2, hB2, hG2⟩ := hq2
            simp only at e2 hB2 hG2
            subst e2
            rw [List.cons_append] at hB2
            simp [-ixStr, h0, h1, h2, h6, h7, hlt, hix, g, gI, hsl, hrune, hw, hmid, pkV, xV, ex2_0, ex2_1, a15, x8]
            refine gH_use (show CW fns 17 [.ptr (.obj b) 0, .int .u8 56] _ _ from c_WriteByte (c := 56) hB2 (by simp only [List.length_cons, List.length_append, hA1l, List.length_nil]; omega)) (fun v3 h3' hq3 => ?_)
            obtain ⟨e3, hB3, hG3⟩ := hq3
            simp only at e3 hB3 hG3
            subst e3
            rw [List.cons_append] at hB3
            simp [-ixStr, h0, h1, h2, h6, h7, hlt, hix, g, gI, hsl, hrune, hw, hmid, pkV, xV, ex2_0, ex2_1, a15, x8]
            refine step _ (by rw [hG3] ; rw [hG2]) (by simpa using hB3) ?_ ?_ ?_ ?_ ?_
            · simp [h0]
            · simp [h1]
            · simp [h2]
            · simp
            · simp
        · simp only [Int.cast_ofNat_Int] at hrune
          have a15 : andI .i32 8233 15 = 9 := by decide +kernel
          have x8 : ixStr (.str [48, 49, 50, 51, 52, 53, 54, 55, 56, 57, 97, 98, 99, 100, 101, 102]) (.int .i32 9) = some (.int .u8 57) := rfl
          rw [show UInt8.ofNat (8233 - 8176) = 57 from rfl] at step
          by_cases hfl0 : start < i
          · have hfl : (start : Int) < i := by omega
            refine loopω_run fns ?_
            simp [-ixStr, h0, h1, h2, h6, h7, hlt, hix, g, gI, hsl, hrune, hw, hmid, pkV, xV, ex2_0, ex2_1, a15, x8, hfl]
            refine gH_use (c_WriteString hB (by simp) (by rw [hA1l]; omega) (by simp; omega) (by rw [hA1l]; omega)) (fun v1 h1' hq1 => ?_)
            obtain ⟨e1, hB1, hG1⟩ := hq1
            simp only at e1 hB1 hG1
            subst e1
            rw [List.cons_append] at hB1
            simp [-ixStr, h0, h1, h2, h6, h7, hlt, hix, g, gI, hsl, hrune, hw, hmid, pkV, xV, ex2_0, ex2_1, a15, x8]
            refine gH_use (c_WriteString (s := [92, 117, 50, 48, 50]) hB1 (by simp) (by simp) (by simp only [List.length_cons, List.length_append, hA1l, List.length_nil]; omega) (by simp)) (fun v2 h2' hq2 => ?_)
            obtain ⟨e2, hB2, hG2⟩ := hq2
            simp only at e2 hB2 hG2
            subst e2
            rw [List.cons_append] at hB2
            simp [-ixStr, h0, h1, h2, h6, h7, hlt, hix, g, gI, hsl, hrune, hw, hmid, pkV, xV, ex2_0, ex2_1, a15, x8]
            refine gH_use (show CW fns 17 [.ptr (.obj b) 0, .int .u8 57] _ _ from c_WriteByte (c := 57) hB2 (by simp only [List.length_cons, List.length_append, hA1l, List.length_nil]; omega)) (fun v3 h3' hq3 => ?_)
            obtain ⟨e3, hB3, hG3⟩ := hq3
            simp only at e3 hB3 hG3
            subst e3
            rw [List.cons_append] at hB3
            simp [-ixStr, h0, h1, h2, h6, h7, hlt, hix, g, gI, hsl, hrune, hw, hmid, pkV, xV, ex2_0, ex2_1, a15, x8]
            refine step _ (by rw [hG3] ; rw [hG2] ; rw [hG1]) (by simpa using hB3) ?_ ?_ ?_ ?_ ?_
            · simp [h0]
            · simp [h1]
            · simp [h2]
            · simp
            · simp
          · have hfl : ¬ (start : Int) < i := by omega
            refine loopω_run fns ?_
            simp [-ixStr, h0, h1, h2, h6, h7, hlt, hix, g, gI, hsl, hrune, hw, hmid, pkV, xV, ex2_0, ex2_1, a15, x8, hfl]
            have hB1 : BufAt st.h b (34 :: (A ++ (s.drop start).take (i - start))) := by rw [hsi2 hfl0, List.append_nil]; exact hB
            refine gH_use (c_WriteString (s := [92, 117, 50, 48, 50]) hB1 (by simp) (by simp) (by simp only [List.length_cons, List.length_append, hA1l, List.length_nil]; omega) (by simp)) (fun v2 h2' hq2 => ?_)
            obtain ⟨e2, hB2, hG2⟩ := hq2
            simp only at e2 hB2 hG2
            subst e2
            rw [List.cons_append] at hB2
            simp [-ixStr, h0, h1, h2, h6, h7, hlt, hix, g, gI, hsl, hrune, hw, hmid, pkV, xV, ex2_0, ex2_1, a15, x8]
            refine gH_use (show CW fns 17 [.ptr (.obj b) 0, .int .u8 57] _ _ from c_WriteByte (c := 57) hB2 (by simp only [List.length_cons, List.length_append, hA1l, List.length_nil]; omega)) (fun v3 h3' hq3 => ?_)
            obtain ⟨e3, hB3, hG3⟩ := hq3
            simp only at e3 hB3 hG3
            subst e3
            rw [List.cons_append] at hB3
            simp [-ixStr, h0, h1, h2, h6, h7, hlt, hix, g, gI, hsl, hrune, hw, hmid, pkV, xV, ex2_0, ex2_1, a15, x8]
            refine step _ (by rw [hG3] ; rw [hG2]) (by simpa using hB3) ?_ ?_ ?_ ?_ ?_
            · simp [h0]
            · simp [h1]
            · simp [h2]
            · simp
            · simp
      · have hqx := qch_rest (esc := esc) (bs := (x :: r).take n) c128 ⟨fun e => hsep (.inl e), fun e => hsep (.inr e)⟩
        have k1 : ¬ (c : Int) = 8232 := by omega
        have k2 : ¬ (c : Int) = 8233 := by omega
        have k1' : ¬ c = 8232 := by omega
        have k2' : ¬ c = 8233 := by omega
        have step : ∀ st2 : St, st2.h = st.h → st2.s 0 = .str s → st2.s 4 = .ptr (.obj b) 0 → st2.s 3 = .bool esc → st2.s 5 = .int .i64 start → st2.s 6 = .int .i64 ((i : Int) + n) → LoopR fns lc16_0 st2 Q := by
          intro st2 q0 q1 q2 q3 q4 q5
          rw [hqx] at hq
          refine ih ((x :: r).drop n) (i + n) start A st2 (by simp at hk hl' ⊢; omega) hd' hi' (by omega) hv' (by rw [q0]; exact hT) (by rw [q0]; exact hB) hb q1 q2 q3 q4 (by rw [q5]; simp) Q (fun st' A' s' z1 z2 z3 z4 z5 z6 z7 z8 => hQ st' A' s' (by rw [z1, q0]) z2 z3 ?_ z5 z6 z7 z8)
          rw [z4, hte, hq]; simp
        by_cases h65 : c = 65533
        · subst h65
          refine loopω_run fns ?_
          simp [-ixStr, h0, h1, h2, h6, h7, hlt, hix, g, gI, hsl, hrune, hw, hmid, pkV, xV, ex2_0, ex2_1, nn1, nn1', k1, k2]
          refine step _ rfl ?_ ?_ ?_ ?_ ?_
          · simp [h0]
          · simp [h1]
          · simp [h2]
          · simp [h6]
          · simp
        · have h65' : ¬ (c : Int) = 65533 := by omega
          refine loopω_run fns ?_
          simp [-ixStr, h0, h1, h2, h6, h7, hlt, hix, g, gI, hsl, hrune, hw, hmid, pkV, xV, ex2_0, ex2_1, h65, h65', k1, k2, k1', k2']
          refine step _ rfl ?_ ?_ ?_ ?_ ?_
          · simp [h0]
          · simp [h1]
          · simp [h2]
          · simp [h6]
          · simp
end Go.Proofs.YtpinoabhaaemfaaDoor.Abs
