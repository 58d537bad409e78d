/- The specification and the program agree on what a value tells: all kinds; whether a value is right. -/
import Derived.Test.YticoldgiebmmgaaGreatDoorEGetV
namespace Go.Proofs.YticoldgiebmmgaaGreatDoor.Abs
set_option linter.all false
open Go.Proofs
set_option linter.unusedVariables false
set_option linter.unusedSimpArgs false
set_option maxRecDepth 100000
set_option maxHeartbeats 4000000

theorem get_all {k : Int} (o : Option (List UInt8)) (hl : (bl o).length ≤ 5000) : ∃ z : Bool, (∀ hE : H, callω fns 7 [.int .i64 k, bAV 5 o] hE = some (.bool z, hE)) ∧
    (z = true → (mthK k = true ∧ AG k o) ∨ (mthK k = false ∧ ∃ (cs : List AV) (n : Int) (b : Bool), cs.length = 8 ∧ cs.map gvV = cs ∧ ∀ hE : H, callω fns 8 [.int .i64 k, bAV 5 o] hE = some (.tup [.agg cs, .int .i64 n, .bool b], hE))) := by
  by_cases h5 : k = 5
  · subst h5
    by_cases q : ((bl o).drop 4).head? = some 2 → tk5 (bl o) = true
    · obtain ⟨tv, ob, ob', n, b, he, ht, hg⟩ := ag_5 o hl q
      have hT := c_Agrees5 o (cs := if b = true then tvC 5 tv ob else zC8) (by split <;> rfl) ht
      exact ⟨_, hT, fun _ => .inl ⟨rfl, ⟨tv, ob, ob', n, b, he, ht, hg⟩⟩⟩
    · obtain ⟨q1, q2⟩ := Classical.not_imp.1 q
      have q2 : tk5 (bl o) = false := by simpa using q2
      have hT := c_Agrees5 o (cs := zC8) rfl (t5_no o hl q2)
      simp only [if_pos q1] at hT
      exact ⟨false, hT, fun e => by cases e⟩
  by_cases h15 : k = 15
  · subst h15
    cases q : cwOk (bl o) with
    | true =>
      obtain ⟨tv, ob, ob', n, b, he, ht, hg⟩ := ag_15 o hl q
      have hT := c_Agrees15 o (cs := if b = true then tvC 15 tv ob else zC8) (by split <;> rfl) ht
      exact ⟨_, hT, fun _ => .inl ⟨rfl, ⟨tv, ob, ob', n, b, he, ht, hg⟩⟩⟩
    | false =>
      have hT := c_Agrees15 o (cs := zC8) rfl (t15_no o hl q)
      exact ⟨false, hT, fun e => by cases e⟩
  refine ⟨true, c_AgreesNo h5 h15 o, fun _ => ?_⟩
  by_cases h1 : k = 1
  · subst h1; exact .inl ⟨rfl, ag_long (.inl rfl) o hl⟩
  by_cases h2 : k = 2
  · subst h2; exact .inl ⟨rfl, ag_str (.inl rfl) o hl⟩
  by_cases h3 : k = 3
  · subst h3; exact .inl ⟨rfl, ag_doc (.inl rfl) o hl⟩
  by_cases h4 : k = 4
  · subst h4; exact .inl ⟨rfl, ag_doc (.inr rfl) o hl⟩
  by_cases h6 : k = 6
  · subst h6; exact .inr ⟨rfl, _, _, _, rfl, tvC_gv _ _ _, take_none (.inl rfl) o⟩
  by_cases h7 : k = 7
  · subst h7; exact .inl ⟨rfl, ag_7 o hl⟩
  by_cases h8 : k = 8
  · subst h8; exact .inl ⟨rfl, ag_8 o hl⟩
  by_cases h9 : k = 9
  · subst h9; exact .inl ⟨rfl, ag_int (.inl rfl) o hl⟩
  by_cases h10 : k = 10
  · subst h10; exact .inr ⟨rfl, _, _, _, rfl, tvC_gv _ _ _, take_none (.inr (.inl rfl)) o⟩
  by_cases h11 : k = 11
  · subst h11; exact .inl ⟨rfl, ag_11 o hl⟩
  by_cases h12 : k = 12
  · subst h12; exact .inl ⟨rfl, ag_12 o hl⟩
  by_cases h13 : k = 13
  · subst h13; exact .inl ⟨rfl, ag_str (.inr (.inl rfl)) o hl⟩
  by_cases h14 : k = 14
  · subst h14; exact .inl ⟨rfl, ag_str (.inr (.inr rfl)) o hl⟩
  by_cases h16 : k = 16
  · subst h16; exact .inl ⟨rfl, ag_16 o hl⟩
  by_cases h17 : k = 17
  · subst h17; exact .inl ⟨rfl, ag_long (.inr rfl) o hl⟩
  by_cases h18 : k = 18
  · subst h18; exact .inl ⟨rfl, ag_int (.inr rfl) o hl⟩
  by_cases h19 : k = 19
  · subst h19; exact .inl ⟨rfl, ag_19 o hl⟩
  by_cases h127 : k = 127
  · subst h127; exact .inr ⟨rfl, _, _, _, rfl, tvC_gv _ _ _, take_none (.inr (.inr (.inr rfl))) o⟩
  by_cases h255 : k = 255
  · subst h255; exact .inr ⟨rfl, _, _, _, rfl, tvC_gv _ _ _, take_none (.inr (.inr (.inl rfl))) o⟩
  refine .inr ⟨?_, zC8, 0, false, rfl, rfl, take_unknown (by omega) o⟩
  unfold mthK
  exact decide_eq_false (by omega)
theorem x_any {k rk : Int} (a : 0 ≤ rk) (b : rk < 256) (hne : mthK k = true → ¬ rk = k) (o : Option (List UInt8)) :
    ∀ hE : H, callv fns 10 [.agg [.int .i64 rk, bAV 5 o], .int .i64 k] hE = some (.tup [.agg zC8, .bool false]) := by
  by_cases h1 : k = 1
  · subst h1; exact x_1 rk a b (hne rfl) o
  by_cases h2 : k = 2
  · subst h2; exact x_2 rk a b (hne rfl) o
  by_cases h3 : k = 3
  · subst h3; exact x_3 rk a b (hne rfl) o
  by_cases h4 : k = 4
  · subst h4; exact x_4 rk a b (hne rfl) o
  by_cases h5 : k = 5
  · subst h5; exact x_5 rk a b (hne rfl) o
  by_cases h7 : k = 7
  · subst h7; exact x_7 rk a b (hne rfl) o
  by_cases h8 : k = 8
  · subst h8; exact x_8 rk a b (hne rfl) o
  by_cases h9 : k = 9
  · subst h9; exact x_9 rk a b (hne rfl) o
  by_cases h11 : k = 11
  · subst h11; exact x_11 rk a b (hne rfl) o
  by_cases h12 : k = 12
  · subst h12; exact x_12 rk a b (hne rfl) o
  by_cases h13 : k = 13
  · subst h13; exact x_13 rk a b (hne rfl) o
  by_cases h14 : k = 14
  · subst h14; exact x_14 rk a b (hne rfl) o
  by_cases h15 : k = 15
  · subst h15; exact x_15 rk a b (hne rfl) o
  by_cases h16 : k = 16
  · subst h16; exact x_16 rk a b (hne rfl) o
  by_cases h17 : k = 17
  · subst h17; exact x_17 rk a b (hne rfl) o
  by_cases h18 : k = 18
  · subst h18; exact x_18 rk a b (hne rfl) o
  by_cases h19 : k = 19
  · subst h19; exact x_19 rk a b (hne rfl) o
  exact x_no ⟨h1, h2, h3, h4, h5, h7, h8, h9, h11, h12, h13, h14, h15, h16, h17, h18, h19⟩ rk a b o
end Go.Proofs.YticoldgiebmmgaaGreatDoor.Abs
