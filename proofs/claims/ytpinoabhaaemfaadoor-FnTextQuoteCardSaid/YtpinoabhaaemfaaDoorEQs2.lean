/- A text quoted: the specification's. -/
import Derived.Test.YtpinoabhaaemfaaDoorEQs
namespace Go.Proofs.YtpinoabhaaemfaaDoor.Abs
set_option linter.all false
open Go.Proofs
set_option linter.unusedVariables false
set_option linter.unusedSimpArgs false
set_option maxRecDepth 100000
set_option maxHeartbeats 8000000

theorem ap_one {out : List UInt8} {a : UInt8} {x : Int} (hx : x = a.toNat) (h : out.length + 1 ≤ tooLong) : ∀ hp : H, apV hp 5 1 1 false (.slice (.own true) 5 1 (byteCells out)) (.slice (.own true) 5 1 [.int .u8 x]) = some (.slice (.own true) 5 1 (byteCells (out ++ [a]))) := by
  intro hp; subst hx; exact apV_lit rfl h
theorem ap_two {out : List UInt8} {a b : UInt8} {x y : Int} (hx : x = a.toNat) (hy : y = b.toNat) (h : out.length + 2 ≤ tooLong) : ∀ hp : H, apV hp 5 1 1 false (.slice (.own true) 5 1 (byteCells out)) (.slice (.own true) 5 1 [.int .u8 x, .int .u8 y]) = some (.slice (.own true) 5 1 (byteCells (out ++ [a, b]))) := by
  intro hp; subst hx; subst hy; exact apV_lit rfl h
theorem ap_text {out t : List UInt8} (h : out.length + t.length ≤ tooLong) : ∀ hp : H, apV hp 5 1 1 true (.slice (.own true) 5 1 (byteCells out)) (.str t) = some (.slice (.own true) 5 1 (byteCells (out ++ t))) :=
  fun hp => apV_str (.own true out) t h
theorem sl_take {s rest : List UInt8} {i n : Nat} (hd : s.drop i = rest) (hn : n ≤ rest.length) (hi : i ≤ s.length) : slStr (.str s) (some (i : Int)) (some ((i : Int) + n)) = some (.str (rest.take n)) := by
  have hl := rest_len hd
  subst hd
  have h1 : (i : Int) ≤ (i : Int) + n := by omega
  have h2 : (i : Int) + n ≤ s.length := by omega
  have h3 : ((i : Int) + n).toNat - i = n := by omega
  simp [slStr, h1, h2, h3]
theorem u8w {c : Nat} (h : c < 256) : IntKind.u8.wrap (c : Int) = c := by simp [IntKind.wrap, IntKind.signed, IntKind.bits]; omega
theorem quoteF_succ {k : Nat} {esc : Bool} {l : List UInt8} (h : l ≠ []) : quoteF (k + 1) esc l = qch esc (dec l).1 (l.take (dec l).2) ++ quoteF k esc (l.drop (dec l).2) := by simp [quoteF, h]
theorem validF_succ {k : Nat} {l : List UInt8} (h : l ≠ []) (hv : validF (k + 1) l = true) : okR l = true ∧ validF k (l.drop (dec l).2) = true := by
  simpa [validF, h] using hv

theorem qch_len {esc : Bool} {c : Nat} {bs : List UInt8} : (qch esc c bs).length ≤ 6 ∨ qch esc c bs = bs := by
  unfold qch
  repeat' split
  all_goals first | (left; simp; done) | (right; rfl)
theorem quoteF_len (esc : Bool) : ∀ (k : Nat) (l : List UInt8), validF k l = true → (quoteF k esc l).length ≤ 6 * l.length
  | 0, l, h => by simp [quoteF]
  | k + 1, l, h => by
    by_cases hl : l = []
    · simp [quoteF, hl]
    · obtain ⟨h1, h2⟩ := validF_succ hl h
      obtain ⟨d1, d2, _⟩ := dec_ok h1
      have := quoteF_len esc k _ h2
      rw [List.length_drop] at this
      rw [quoteF_succ hl, List.length_append]
      rcases qch_len (esc := esc) (c := (dec l).1) (bs := l.take (dec l).2) with q | q
      · omega
      · rw [q, List.length_take]; omega
theorem l_ext {s : List UInt8} {esc : Bool} (hs : s.length ≤ 100000) : ∀ (k : Nat) (rest : List UInt8) (i : Nat) (out : List UInt8) (st : St), rest.length ≤ k → s.drop i = rest → i ≤ s.length → validF k rest = true → out.length + 6 * rest.length ≤ 1000000 →
    st.s 0 = .str s → st.s 1 = .bool esc → st.s 5 = .slice (.own true) 5 1 (byteCells out) → st.s 6 = .int .i64 i →
    ∀ Q : Ex × St → Prop, (∀ st' : St, st'.h = st.h → st'.s 5 = .slice (.own true) 5 1 (byteCells (out ++ quoteF k esc rest)) → Q (.exit 0, st')) → LoopR fns lc7_0 st Q := by
  intro k
  induction k with
  | zero =>
    intro rest i out st hk hd hi hv hb h0 h1 h5 h6 Q hQ
    have hr : rest = [] := List.eq_nil_of_length_eq_zero (by omega)
    subst hr
    have hl := rest_len hd
    simp at hl
    have hlt : ¬ (i : Int) < s.length := by omega
    refine loopω_run fns ?_
    simp [h0, h6, hlt]
    exact hQ _ rfl (by simp [quoteF, h5])
  | succ k ih =>
    intro rest i out st hk hd hi hv hb h0 h1 h5 h6 Q hQ
    have hl := rest_len hd
    by_cases hr : rest = []
    · subst hr
      simp at hl
      have hlt : ¬ (i : Int) < s.length := by omega
      refine loopω_run fns ?_
      simp [h0, h6, hlt]
      exact hQ _ rfl (by simp [quoteF, h5])
    have hrl : 1 ≤ rest.length := by cases rest with | nil => exact absurd rfl hr | cons a r => simp
    have hlt : (i : Int) < s.length := by omega
    have hsl := sl_rest hd hi
    have hx := c_extRune rest
    obtain ⟨hok, hv'⟩ := validF_succ hr hv
    rw [exr_of hok] at hx
    obtain ⟨d1, d2, d3, d4, d5⟩ := dec_ok hok
    have hq := quoteF_succ (k := k) (esc := esc) hr
    have hst := sl_take hd d2 hi
    have hi' : i + (dec rest).2 ≤ s.length := by omega
    have hd' := drop_rest (n := (dec rest).2) hd
    have hl' : (rest.drop (dec rest).2).length = rest.length - (dec rest).2 := by simp
    have hc0 := chr_lt rest 0
    have htl : (rest.take (dec rest).2).length = (dec rest).2 := by rw [List.length_take]; omega
    generalize hn : (dec rest).2 = n at *
    generalize hc : (dec rest).1 = c at *
    have hn0 : ¬ (n : Int) = 0 := by omega
    have hn0' : ¬ n = 0 := by omega
    have hw : IntKind.i64.wrap ((i : Int) + n) = i + n := wrap_i64 (by omega) (by omega)
    by_cases g34 : c = 34
    · subst g34
      have hqc : qch esc 34 (rest.take n) = [92, 34] := qch_quote (.inl rfl)
      rw [hqc] at hq
      have ha := ap_two (out := out) (a := 92) (b := 34) (x := 92) (y := 34) rfl rfl (by simp [tooLong]; omega)
      have wu : IntKind.u8.wrap 34 = 34 := rfl
      have wv : IntKind.i64.wrap 26 = 26 := rfl
      refine loopω_run fns ?_
      simp [h0, h1, h5, h6, hlt, hsl, hx, ex2_0, ex2_1, hn0, hn0', hw, pkV, ha, wu, wv]
      refine ih (rest.drop n) (i + n) (out ++ [92, 34]) _ (by omega) hd' hi' hv' (by simp; omega) ?_ ?_ ?_ ?_ Q (fun st' q5 q6 => hQ st' ?_ ?_)
      · simp [h0]
      · simp [h1]
      · simp
      · simp
      · rw [q5]
      · rw [q6, hq, List.append_assoc]
    by_cases g92 : c = 92
    · subst g92
      have hqc : qch esc 92 (rest.take n) = [92, 92] := qch_quote (.inr rfl)
      rw [hqc] at hq
      have ha := ap_two (out := out) (a := 92) (b := 92) (x := 92) (y := 92) rfl rfl (by simp [tooLong]; omega)
      have wu : IntKind.u8.wrap 92 = 92 := rfl
      have wv : IntKind.i64.wrap 84 = 84 := rfl
      refine loopω_run fns ?_
      simp [h0, h1, h5, h6, hlt, hsl, hx, ex2_0, ex2_1, hn0, hn0', hw, pkV, ha, wu, wv]
      refine ih (rest.drop n) (i + n) (out ++ [92, 92]) _ (by omega) hd' hi' hv' (by simp; omega) ?_ ?_ ?_ ?_ Q (fun st' q5 q6 => hQ st' ?_ ?_)
      · simp [h0]
      · simp [h1]
      · simp
      · simp
      · rw [q5]
      · rw [q6, hq, List.append_assoc]
    by_cases g8 : c = 8
    · subst g8
      have hqc : qch esc 8 (rest.take n) = [92, 98] := qch_ltr (.inl rfl)
      rw [hqc] at hq
      have ha := ap_two (out := out) (a := 92) (b := 98) (x := 92) (y := 98) rfl rfl (by simp [tooLong]; omega)
      have wu : IntKind.u8.wrap 8 = 8 := rfl
      have wv : IntKind.i64.wrap 0 = 0 := rfl
      refine loopω_run fns ?_
      simp [h0, h1, h5, h6, hlt, hsl, hx, ex2_0, ex2_1, hn0, hn0', hw, pkV, ha, wu, wv]
      refine ih (rest.drop n) (i + n) (out ++ [92, 98]) _ (by omega) hd' hi' hv' (by simp; omega) ?_ ?_ ?_ ?_ Q (fun st' q5 q6 => hQ st' ?_ ?_)
      · simp [h0]
      · simp [h1]
      · simp
      · simp
      · rw [q5]
      · rw [q6, hq, List.append_assoc]
    by_cases g9 : c = 9
    · subst g9
      have hqc : qch esc 9 (rest.take n) = [92, 116] := qch_ltr (.inr (.inl rfl))
      rw [hqc] at hq
      have ha := ap_two (out := out) (a := 92) (b := 116) (x := 92) (y := 116) rfl rfl (by simp [tooLong]; omega)
      have wu : IntKind.u8.wrap 9 = 9 := rfl
      have wv : IntKind.i64.wrap 1 = 1 := rfl
      refine loopω_run fns ?_
      simp [h0, h1, h5, h6, hlt, hsl, hx, ex2_0, ex2_1, hn0, hn0', hw, pkV, ha, wu, wv]
      refine ih (rest.drop n) (i + n) (out ++ [92, 116]) _ (by omega) hd' hi' hv' (by simp; omega) ?_ ?_ ?_ ?_ Q (fun st' q5 q6 => hQ st' ?_ ?_)
      · simp [h0]
      · simp [h1]
      · simp
      · simp
      · rw [q5]
      · rw [q6, hq, List.append_assoc]
    by_cases g10 : c = 10
    · subst g10
      have hqc : qch esc 10 (rest.take n) = [92, 110] := qch_ltr (.inr (.inr (.inl rfl)))
      rw [hqc] at hq
      have ha := ap_two (out := out) (a := 92) (b := 110) (x := 92) (y := 110) rfl rfl (by simp [tooLong]; omega)
      have wu : IntKind.u8.wrap 10 = 10 := rfl
      have wv : IntKind.i64.wrap 2 = 2 := rfl
      refine loopω_run fns ?_
      simp [h0, h1, h5, h6, hlt, hsl, hx, ex2_0, ex2_1, hn0, hn0', hw, pkV, ha, wu, wv]
      refine ih (rest.drop n) (i + n) (out ++ [92, 110]) _ (by omega) hd' hi' hv' (by simp; omega) ?_ ?_ ?_ ?_ Q (fun st' q5 q6 => hQ st' ?_ ?_)
      · simp [h0]
      · simp [h1]
      · simp
      · simp
      · rw [q5]
      · rw [q6, hq, List.append_assoc]
    by_cases g12 : c = 12
    · subst g12
      have hqc : qch esc 12 (rest.take n) = [92, 102] := qch_ltr (.inr (.inr (.inr (.inl rfl))))
      rw [hqc] at hq
      have ha := ap_two (out := out) (a := 92) (b := 102) (x := 92) (y := 102) rfl rfl (by simp [tooLong]; omega)
      have wu : IntKind.u8.wrap 12 = 12 := rfl
      have wv : IntKind.i64.wrap 4 = 4 := rfl
      refine loopω_run fns ?_
      simp [h0, h1, h5, h6, hlt, hsl, hx, ex2_0, ex2_1, hn0, hn0', hw, pkV, ha, wu, wv]
      refine ih (rest.drop n) (i + n) (out ++ [92, 102]) _ (by omega) hd' hi' hv' (by simp; omega) ?_ ?_ ?_ ?_ Q (fun st' q5 q6 => hQ st' ?_ ?_)
      · simp [h0]
      · simp [h1]
      · simp
      · simp
      · rw [q5]
      · rw [q6, hq, List.append_assoc]
    by_cases g13 : c = 13
    · subst g13
      have hqc : qch esc 13 (rest.take n) = [92, 114] := qch_ltr (.inr (.inr (.inr (.inr rfl))))
      rw [hqc] at hq
      have ha := ap_two (out := out) (a := 92) (b := 114) (x := 92) (y := 114) rfl rfl (by simp [tooLong]; omega)
      have wu : IntKind.u8.wrap 13 = 13 := rfl
      have wv : IntKind.i64.wrap 5 = 5 := rfl
      refine loopω_run fns ?_
      simp [h0, h1, h5, h6, hlt, hsl, hx, ex2_0, ex2_1, hn0, hn0', hw, pkV, ha, wu, wv]
      refine ih (rest.drop n) (i + n) (out ++ [92, 114]) _ (by omega) hd' hi' hv' (by simp; omega) ?_ ?_ ?_ ?_ Q (fun st' q5 q6 => hQ st' ?_ ?_)
      · simp [h0]
      · simp [h1]
      · simp
      · simp
      · rw [q5]
      · rw [q6, hq, List.append_assoc]
    by_cases g8232 : c = 8232
    · subst g8232
      have hqc : qch esc 8232 (rest.take n) = [92, 117, 50, 48, 50, 56] := qch_sep (.inl rfl)
      rw [hqc] at hq
      have hn2 : 2 ≤ n := (d5 (by rcases Nat.lt_or_ge (chr rest 0) 128 with h | h; { have := (d4 h).1; omega }; { exact h })).2
      have ha := ap_text (out := out) (t := [92, 117, 50, 48, 50]) (by simp [tooLong]; omega)
      have ha2 := ap_one (out := out ++ [92, 117, 50, 48, 50]) (a := 56) (x := 56) rfl (by simp [tooLong]; omega)
      have wv : IntKind.i64.wrap 8288 = 8288 := rfl
      have wv2 : IntKind.i64.wrap 56 = 56 := rfl
      have wu : IntKind.u8.wrap 56 = 56 := rfl
      have hap : out ++ [92, 117, 50, 48, 50] ++ [56] = out ++ [92, 117, 50, 48, 50, 56] := by simp
      rw [hap] at ha2
      cases esc with
      | false =>
        refine loopω_run fns ?_
        simp [h0, h1, h5, h6, hlt, hsl, hx, ex2_0, ex2_1, hn0, hn0', hw, pkV, ha, ha2, wu, wv, wv2]
        refine ih (rest.drop n) (i + n) (out ++ [92, 117, 50, 48, 50, 56]) _ (by omega) hd' hi' hv' (by simp; omega) ?_ ?_ ?_ ?_ Q (fun st' q5 q6 => hQ st' ?_ ?_)
        · simp [h0]
        · simp [h1]
        · simp
        · simp
        · rw [q5]
        · rw [q6, hq, List.append_assoc]
      | true =>
        refine loopω_run fns ?_
        simp [h0, h1, h5, h6, hlt, hsl, hx, ex2_0, ex2_1, hn0, hn0', hw, pkV, ha, ha2, wu, wv, wv2]
        refine ih (rest.drop n) (i + n) (out ++ [92, 117, 50, 48, 50, 56]) _ (by omega) hd' hi' hv' (by simp; omega) ?_ ?_ ?_ ?_ Q (fun st' q5 q6 => hQ st' ?_ ?_)
        · simp [h0]
        · simp [h1]
        · simp
        · simp
        · rw [q5]
        · rw [q6, hq, List.append_assoc]
    by_cases g8233 : c = 8233
    · subst g8233
      have hqc : qch esc 8233 (rest.take n) = [92, 117, 50, 48, 50, 57] := qch_sep (.inr rfl)
      rw [hqc] at hq
      have hn2 : 2 ≤ n := (d5 (by rcases Nat.lt_or_ge (chr rest 0) 128 with h | h; { have := (d4 h).1; omega }; { exact h })).2
      have ha := ap_text (out := out) (t := [92, 117, 50, 48, 50]) (by simp [tooLong]; omega)
      have ha2 := ap_one (out := out ++ [92, 117, 50, 48, 50]) (a := 57) (x := 57) rfl (by simp [tooLong]; omega)
      have wv : IntKind.i64.wrap 8289 = 8289 := rfl
      have wv2 : IntKind.i64.wrap 57 = 57 := rfl
      have wu : IntKind.u8.wrap 57 = 57 := rfl
      have hap : out ++ [92, 117, 50, 48, 50] ++ [57] = out ++ [92, 117, 50, 48, 50, 57] := by simp
      rw [hap] at ha2
      cases esc with
      | false =>
        refine loopω_run fns ?_
        simp [h0, h1, h5, h6, hlt, hsl, hx, ex2_0, ex2_1, hn0, hn0', hw, pkV, ha, ha2, wu, wv, wv2]
        refine ih (rest.drop n) (i + n) (out ++ [92, 117, 50, 48, 50, 57]) _ (by omega) hd' hi' hv' (by simp; omega) ?_ ?_ ?_ ?_ Q (fun st' q5 q6 => hQ st' ?_ ?_)
        · simp [h0]
        · simp [h1]
        · simp
        · simp
        · rw [q5]
        · rw [q6, hq, List.append_assoc]
      | true =>
        refine loopω_run fns ?_
        simp [h0, h1, h5, h6, hlt, hsl, hx, ex2_0, ex2_1, hn0, hn0', hw, pkV, ha, ha2, wu, wv, wv2]
        refine ih (rest.drop n) (i + n) (out ++ [92, 117, 50, 48, 50, 57]) _ (by omega) hd' hi' hv' (by simp; omega) ?_ ?_ ?_ ?_ Q (fun st' q5 q6 => hQ st' ?_ ?_)
        · simp [h0]
        · simp [h1]
        · simp
        · simp
        · rw [q5]
        · rw [q6, hq, List.append_assoc]
    have i34 : ¬ (c : Int) = 34 := by omega
    have i92 : ¬ (c : Int) = 92 := by omega
    have i8 : ¬ (c : Int) = 8 := by omega
    have i9 : ¬ (c : Int) = 9 := by omega
    have i10 : ¬ (c : Int) = 10 := by omega
    have i12 : ¬ (c : Int) = 12 := by omega
    have i13 : ¬ (c : Int) = 13 := by omega
    have i8232 : ¬ (c : Int) = 8232 := by omega
    have i8233 : ¬ (c : Int) = 8233 := by omega
    by_cases g32 : c < 32
    · have i32 : (c : Int) < 32 := by omega
      have c128 : c < 128 := by omega
      have hqc : qch esc c (rest.take n) = [92, 117, 48, 48, hexC (c / 16), hexC (c % 16)] := by
        unfold qch; rw [if_neg (by omega), if_neg (by omega), if_pos (.inl g32)]
      rw [hqc] at hq
      have ha := ap_text (out := out) (t := [92, 117, 48, 48]) (by simp [tooLong]; omega)
      have ha2 := ap_text (out := out ++ [92, 117, 48, 48]) (t := [hexC (c / 16), hexC (c % 16)]) (by simp [tooLong]; omega)
      have hap : out ++ [92, 117, 48, 48] ++ [hexC (c / 16), hexC (c % 16)] = out ++ [92, 117, 48, 48, hexC (c / 16), hexC (c % 16)] := by simp
      rw [hap] at ha2
      have hh := c_extHex c (by omega)
      have wu := u8w (c := c) (by omega)
      refine loopω_run fns ?_
      simp [h0, h1, h5, h6, hlt, hsl, hx, ex2_0, ex2_1, hn0, hn0', hw, pkV, g34, g92, g8, g9, g10, g12, g13, g8232, g8233, i34, i92, i8, i9, i10, i12, i13, i8232, i8233, ha, ha2, wu, hh, g32, i32]
      refine ih (rest.drop n) (i + n) (out ++ [92, 117, 48, 48, hexC (c / 16), hexC (c % 16)]) _ (by omega) hd' hi' hv' (by simp; omega) ?_ ?_ ?_ ?_ Q (fun st' q5 q6 => hQ st' ?_ ?_)
      · simp [h0]
      · simp [h1]
      · simp
      · simp
      · rw [q5]
      · rw [q6, hq, List.append_assoc]
    have i32 : ¬ (c : Int) < 32 := by omega
    by_cases g60 : esc = true ∧ c = 60
    · obtain ⟨he, hcc⟩ := g60
      have hh := c_extHex 60 (by omega)
      subst hcc
      have hqc : qch esc 60 (rest.take n) = [92, 117, 48, 48, hexC (60 / 16), hexC (60 % 16)] := by
        unfold qch; rw [if_neg (by omega), if_neg (by omega), if_pos (.inr ⟨he, by omega⟩)]
      rw [hqc] at hq
      subst he
      have ha := ap_text (out := out) (t := [92, 117, 48, 48]) (by simp [tooLong]; omega)
      have ha2 := ap_text (out := out ++ [92, 117, 48, 48]) (t := [hexC (60 / 16), hexC (60 % 16)]) (by simp [tooLong]; omega)
      have hap : out ++ [92, 117, 48, 48] ++ [hexC (60 / 16), hexC (60 % 16)] = out ++ [92, 117, 48, 48, hexC (60 / 16), hexC (60 % 16)] := by simp
      rw [hap] at ha2
      have wu : IntKind.u8.wrap 60 = 60 := rfl
      generalize hA : hexC (60 / 16) = A at *
      generalize hB : hexC (60 % 16) = B at *
      have hh2 : ∀ hE : H, callω fns 12 [.int .u8 60] hE = some (.str [A, B], hE) := hh
      refine loopω_run fns ?_
      simp [h0, h1, h5, h6, hlt, hsl, hx, ex2_0, ex2_1, hn0, hn0', hw, pkV, ha, ha2, wu, hh2]
      refine ih (rest.drop n) (i + n) (out ++ [92, 117, 48, 48, A, B]) _ (by omega) hd' hi' hv' (by simp; omega) ?_ ?_ ?_ ?_ Q (fun st' q5 q6 => hQ st' ?_ ?_)
      · simp [h0]
      · simp [h1]
      · simp
      · simp
      · rw [q5]
      · rw [q6, hq, List.append_assoc]
    by_cases g62 : esc = true ∧ c = 62
    · obtain ⟨he, hcc⟩ := g62
      have hh := c_extHex 62 (by omega)
      subst hcc
      have hqc : qch esc 62 (rest.take n) = [92, 117, 48, 48, hexC (62 / 16), hexC (62 % 16)] := by
        unfold qch; rw [if_neg (by omega), if_neg (by omega), if_pos (.inr ⟨he, by omega⟩)]
      rw [hqc] at hq
      subst he
      have ha := ap_text (out := out) (t := [92, 117, 48, 48]) (by simp [tooLong]; omega)
      have ha2 := ap_text (out := out ++ [92, 117, 48, 48]) (t := [hexC (62 / 16), hexC (62 % 16)]) (by simp [tooLong]; omega)
      have hap : out ++ [92, 117, 48, 48] ++ [hexC (62 / 16), hexC (62 % 16)] = out ++ [92, 117, 48, 48, hexC (62 / 16), hexC (62 % 16)] := by simp
      rw [hap] at ha2
      have wu : IntKind.u8.wrap 62 = 62 := rfl
      generalize hA : hexC (62 / 16) = A at *
      generalize hB : hexC (62 % 16) = B at *
      have hh2 : ∀ hE : H, callω fns 12 [.int .u8 62] hE = some (.str [A, B], hE) := hh
      refine loopω_run fns ?_
      simp [h0, h1, h5, h6, hlt, hsl, hx, ex2_0, ex2_1, hn0, hn0', hw, pkV, ha, ha2, wu, hh2]
      refine ih (rest.drop n) (i + n) (out ++ [92, 117, 48, 48, A, B]) _ (by omega) hd' hi' hv' (by simp; omega) ?_ ?_ ?_ ?_ Q (fun st' q5 q6 => hQ st' ?_ ?_)
      · simp [h0]
      · simp [h1]
      · simp
      · simp
      · rw [q5]
      · rw [q6, hq, List.append_assoc]
    by_cases g38 : esc = true ∧ c = 38
    · obtain ⟨he, hcc⟩ := g38
      have hh := c_extHex 38 (by omega)
      subst hcc
      have hqc : qch esc 38 (rest.take n) = [92, 117, 48, 48, hexC (38 / 16), hexC (38 % 16)] := by
        unfold qch; rw [if_neg (by omega), if_neg (by omega), if_pos (.inr ⟨he, by omega⟩)]
      rw [hqc] at hq
      subst he
      have ha := ap_text (out := out) (t := [92, 117, 48, 48]) (by simp [tooLong]; omega)
      have ha2 := ap_text (out := out ++ [92, 117, 48, 48]) (t := [hexC (38 / 16), hexC (38 % 16)]) (by simp [tooLong]; omega)
      have hap : out ++ [92, 117, 48, 48] ++ [hexC (38 / 16), hexC (38 % 16)] = out ++ [92, 117, 48, 48, hexC (38 / 16), hexC (38 % 16)] := by simp
      rw [hap] at ha2
      have wu : IntKind.u8.wrap 38 = 38 := rfl
      generalize hA : hexC (38 / 16) = A at *
      generalize hB : hexC (38 % 16) = B at *
      have hh2 : ∀ hE : H, callω fns 12 [.int .u8 38] hE = some (.str [A, B], hE) := hh
      refine loopω_run fns ?_
      simp [h0, h1, h5, h6, hlt, hsl, hx, ex2_0, ex2_1, hn0, hn0', hw, pkV, ha, ha2, wu, hh2]
      refine ih (rest.drop n) (i + n) (out ++ [92, 117, 48, 48, A, B]) _ (by omega) hd' hi' hv' (by simp; omega) ?_ ?_ ?_ ?_ Q (fun st' q5 q6 => hQ st' ?_ ?_)
      · simp [h0]
      · simp [h1]
      · simp
      · simp
      · rw [q5]
      · rw [q6, hq, List.append_assoc]
    have hqc : qch esc c (rest.take n) = rest.take n := by
      unfold qch
      rw [if_neg (by omega), if_neg (by omega), if_neg (by intro h; rcases h with h | ⟨h, h2⟩; { omega }; { rcases h2 with h2 | h2 | h2; { exact g60 ⟨h, h2⟩ }; { exact g62 ⟨h, h2⟩ }; { exact g38 ⟨h, h2⟩ } }), if_neg (by omega)]
    rw [hqc] at hq
    have ha := ap_text (out := out) (t := rest.take n) (by rw [htl]; simp [tooLong]; omega)
    have hb2 : (out ++ rest.take n).length + 6 * (rest.drop n).length ≤ 1000000 := by rw [List.length_append, htl, hl']; omega
    cases esc with
    | false =>
      refine loopω_run fns ?_
      simp [h0, h1, h5, h6, hlt, hsl, hx, ex2_0, ex2_1, hn0, hn0', hw, pkV, g34, g92, g8, g9, g10, g12, g13, g8232, g8233, i34, i92, i8, i9, i10, i12, i13, i8232, i8233, g32, i32, hst, ha]
      refine ih (rest.drop n) (i + n) (out ++ rest.take n) _ (by omega) hd' hi' hv' hb2 ?_ ?_ ?_ ?_ Q (fun st' q5 q6 => hQ st' ?_ ?_)
      · simp [h0]
      · simp [h1]
      · simp
      · simp
      · rw [q5]
      · rw [q6, hq, List.append_assoc]
    | true =>
      have j60 : ¬ c = 60 := fun e => g60 ⟨rfl, e⟩
      have j62 : ¬ c = 62 := fun e => g62 ⟨rfl, e⟩
      have j38 : ¬ c = 38 := fun e => g38 ⟨rfl, e⟩
      have k60 : ¬ (c : Int) = 60 := by omega
      have k62 : ¬ (c : Int) = 62 := by omega
      have k38 : ¬ (c : Int) = 38 := by omega
      refine loopω_run fns ?_
      simp [h0, h1, h5, h6, hlt, hsl, hx, ex2_0, ex2_1, hn0, hn0', hw, pkV, g34, g92, g8, g9, g10, g12, g13, g8232, g8233, i34, i92, i8, i9, i10, i12, i13, i8232, i8233, g32, i32, j60, j62, j38, k60, k62, k38, hst, ha]
      refine ih (rest.drop n) (i + n) (out ++ rest.take n) _ (by omega) hd' hi' hv' hb2 ?_ ?_ ?_ ?_ Q (fun st' q5 q6 => hQ st' ?_ ?_)
      · simp [h0]
      · simp [h1]
      · simp
      · simp
      · rw [q5]
      · rw [q6, hq, List.append_assoc]
theorem c_ExtString (s : List UInt8) (esc : Bool) (hs : s.length ≤ 300) (hv : validF s.length s = true) : ∀ hE : H, callω fns 7 [.str s, .bool esc] hE = some (.str ([34] ++ quoteF s.length esc s ++ [34]), hE) := by
  intro hE
  refine run7 (Nat.le_of_ble_eq_true rfl) ?_
  simp
  refine l_ext (esc := esc) (by omega) s.length s 0 [34] _ (Nat.le_refl _) rfl (by omega) hv (by simp; omega) ?_ ?_ ?_ ?_ _ (fun st' q q5 => ?_)
  · simp
  · simp
  · simp; rfl
  · simp
  · have hqn := quoteF_len esc s.length s hv
    have ha := ap_one (out := [34] ++ quoteF s.length esc s) (a := 34) (x := 34) rfl (by simp [tooLong]; omega)
    have hb := bytesOf_cells ([34] ++ quoteF s.length esc s ++ [34])
    simp only [List.cons_append, List.nil_append] at ha hb
    simp [q, q5, ha, cvBS, hb]
end Go.Proofs.YtpinoabhaaemfaaDoor.Abs
