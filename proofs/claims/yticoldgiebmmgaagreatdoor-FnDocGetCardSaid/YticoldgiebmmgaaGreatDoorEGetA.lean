/- The specification and the program agree on what a value tells, kind by kind. -/
import Derived.Test.YticoldgiebmmgaaGreatDoorEGetD
import Derived.Test.YticoldgiebmmgaaGreatDoorEGetH
namespace Go.Proofs.YticoldgiebmmgaaGreatDoor.Abs
set_option linter.all false
open Go.Proofs
set_option linter.unusedVariables false
set_option linter.unusedSimpArgs false
set_option maxRecDepth 100000
set_option maxHeartbeats 4000000

def AG (k : Int) (o : Option (List UInt8)) : Prop := ∃ (tv : TV) (ob ob' : Option (List UInt8)) (n : Int) (b : Bool), bl ob = bl ob' ∧
  (∀ hE : H, callω fns 8 [.int .i64 k, bAV 5 o] hE = some (.tup [.agg (if b = true then tvC k tv ob else zC8), .int .i64 n, .bool b], hE)) ∧
  ∀ hE : H, callv fns 10 [.agg [.int .i64 k, bAV 5 (some (bl o))], .int .i64 k] hE = some (.tup [.agg (if b = true then tvC k tv ob' else zC8), .bool b])
theorem agT {k : Int} {o : Option (List UInt8)} {tv : TV} {ob ob' : Option (List UInt8)} {n : Int} (h : bl ob = bl ob') (ht : ∀ hE : H, callω fns 8 [.int .i64 k, bAV 5 o] hE = some (.tup [.agg (tvC k tv ob), .int .i64 n, .bool true], hE))
    (hg : ∀ hE : H, callv fns 10 [.agg [.int .i64 k, bAV 5 (some (bl o))], .int .i64 k] hE = some (.tup [.agg (tvC k tv ob'), .bool true])) : AG k o :=
  ⟨tv, ob, ob', n, true, h, fun hE => by rw [if_pos rfl]; exact ht hE, fun hE => by rw [if_pos rfl]; exact hg hE⟩
theorem agF {k : Int} {o : Option (List UInt8)} (ht : ∀ hE : H, callω fns 8 [.int .i64 k, bAV 5 o] hE = some (.tup [.agg zC8, .int .i64 0, .bool false], hE))
    (hg : ∀ hE : H, callv fns 10 [.agg [.int .i64 k, bAV 5 (some (bl o))], .int .i64 k] hE = some (.tup [.agg zC8, .bool false])) : AG k o :=
  ⟨tv0, none, none, 0, false, rfl, fun hE => by rw [if_neg (by simp)]; exact ht hE, fun hE => by rw [if_neg (by simp)]; exact hg hE⟩
theorem tvC_old (k : Int) (tv : TV) (ob : Option (List UInt8)) (b : Bool) (n : Nat) : (AV.tup [.agg (tvC k tv ob), .bool b]).old n = true := by
  have hb : ∀ l : List UInt8, oldL n (byteCells l) = true := fun l => by
    induction l with
    | nil => rfl
    | cons x r ih => simp only [byteCells, List.map_cons] at ih ⊢; simp [oldL, AV.old]; exact ih
  cases ob with
  | none => simp [tvC, bAV, AV.old, oldL]
  | some l => have := hb l; simp [tvC, bAV, AV.old, oldL, this]
theorem cvT {vs : List AV} {k : Int} {tv : TV} {ob : Option (List UInt8)} {b : Bool} (h : ∀ hE : H, callω fns 10 vs hE = some (.tup [.agg (tvC k tv ob), .bool b], hE)) : ∀ hE : H, callv fns 10 vs hE = some (.tup [.agg (tvC k tv ob), .bool b]) := fun hE => by
  rw [callv_eq, h, Option.elim_some]; exact noHeap_old (tvC_old k tv ob b _)
theorem cvF {vs : List AV} {b : Bool} (h : ∀ hE : H, callω fns 10 vs hE = some (.tup [.agg zC8, .bool b], hE)) : ∀ hE : H, callv fns 10 vs hE = some (.tup [.agg zC8, .bool b]) :=
  cvT (k := 0) (tv := tv0) (ob := none) h
theorem tvC_gv (k : Int) (tv : TV) (ob : Option (List UInt8)) : (tvC k tv ob).map gvV = tvC k tv ob := by cases ob <;> rfl
theorem len_fix {k : Int} (n : Nat) (hk : k = 8 ∨ k = 16 ∨ (k = 1 ∨ k = 9 ∨ k = 18 ∨ k = 17) ∨ k = 7 ∨ k = 19) (hv : vLen k [] = some n) (o : Option (List UInt8)) {b : Bool} (hb : decide (n ≤ (bl o).length) = b) :
    ∀ hE : H, callω fns 14 [.int .i64 k, bAV 5 o] hE = some (.tup [.int .i64 n, .bool b], hE) := by
  obtain ⟨m, _, h1, h2⟩ := fixed_kinds (k := k) (.inr hk)
  have h3 := h1 []
  rw [hv] at h3; injection h3 with h3; subst h3; subst hb
  exact h2 o
theorem ag_long {k : Int} (hk : k = 1 ∨ k = 17) (o : Option (List UInt8)) (hl : (bl o).length ≤ 5000) : AG k o := by
  by_cases g : 8 ≤ (bl o).length
  · obtain ⟨l, rfl⟩ := some_of (o := o) (by omega)
    have hL := len_fix (k := k) 8 (by omega) (by rcases hk with rfl | rfl <;> rfl) (some l) (decide_eq_true g)
    have g' : 8 ≤ l.length := g
    refine agT rfl (d_parse (by omega) (some l) hL rfl (tvC_gv _ _ _) (p_long hk l g' hL)) (cvT fun hE => ?_)
    rcases hk with rfl | rfl
    · have := g_1 l hl hE; rw [if_pos g'] at this; exact this
    · have := g_17 l hl hE; rw [if_pos g'] at this; exact this
  · have hL := len_fix (k := k) 8 (by omega) (by rcases hk with rfl | rfl <;> rfl) o (decide_eq_false g)
    refine agF (d_no k o hL (by omega)) (cvF fun hE => ?_)
    rcases hk with rfl | rfl
    · have := g_1 (bl o) hl hE; rw [if_neg g] at this; exact this
    · have := g_17 (bl o) hl hE; rw [if_neg g] at this; exact this
theorem ag_int {k : Int} (hk : k = 9 ∨ k = 18) (o : Option (List UInt8)) (hl : (bl o).length ≤ 5000) : AG k o := by
  by_cases g : 8 ≤ (bl o).length
  · obtain ⟨l, rfl⟩ := some_of (o := o) (by omega)
    have hL := len_fix (k := k) 8 (by omega) (by rcases hk with rfl | rfl <;> rfl) (some l) (decide_eq_true g)
    have g' : 8 ≤ l.length := g
    refine agT rfl (d_parse (by omega) (some l) hL rfl (tvC_gv _ _ _) (p_int hk l g' hL)) (cvT fun hE => ?_)
    rcases hk with rfl | rfl
    · have := g_9 l hl hE; rw [if_pos g'] at this; exact this
    · have := g_18 l hl hE; rw [if_pos g'] at this; exact this
  · have hL := len_fix (k := k) 8 (by omega) (by rcases hk with rfl | rfl <;> rfl) o (decide_eq_false g)
    refine agF (d_no k o hL (by omega)) (cvF fun hE => ?_)
    rcases hk with rfl | rfl
    · have := g_9 (bl o) hl hE; rw [if_neg g] at this; exact this
    · have := g_18 (bl o) hl hE; rw [if_neg g] at this; exact this
theorem ag_19 (o : Option (List UInt8)) (hl : (bl o).length ≤ 5000) : AG 19 o := by
  by_cases g : 16 ≤ (bl o).length
  · obtain ⟨l, rfl⟩ := some_of (o := o) (by omega)
    have hL := len_fix (k := 19) 16 (by omega) rfl (some l) (decide_eq_true g)
    have g' : 16 ≤ l.length := g
    exact agT rfl (d_parse (by omega) (some l) hL rfl (tvC_gv _ _ _) (p_dec l g' hL)) (cvT fun hE => by have := g_19 l hl hE; rw [if_pos g'] at this; exact this)
  · have hL := len_fix (k := 19) 16 (by omega) rfl o (decide_eq_false g)
    exact agF (d_no 19 o hL (by omega)) (cvF fun hE => by have := g_19 (bl o) hl hE; rw [if_neg g] at this; exact this)
theorem ag_16 (o : Option (List UInt8)) (hl : (bl o).length ≤ 5000) : AG 16 o := by
  by_cases g : 4 ≤ (bl o).length
  · obtain ⟨l, rfl⟩ := some_of (o := o) (by omega)
    have hL := len_fix (k := 16) 4 (by omega) rfl (some l) (decide_eq_true g)
    have g' : 4 ≤ l.length := g
    exact agT rfl (d_parse (by omega) (some l) hL rfl (tvC_gv _ _ _) (p_i32 l g' hL)) (cvT fun hE => by have := g_16 l hl hE; rw [if_pos g'] at this; exact this)
  · have hL := len_fix (k := 16) 4 (by omega) rfl o (decide_eq_false g)
    exact agF (d_no 16 o hL (by omega)) (cvF fun hE => by have := g_16 (bl o) hl hE; rw [if_neg g] at this; exact this)
theorem ag_7 (o : Option (List UInt8)) (hl : (bl o).length ≤ 5000) : AG 7 o := by
  by_cases g : 12 ≤ (bl o).length
  · obtain ⟨l, rfl⟩ := some_of (o := o) (by omega)
    have hL := len_fix (k := 7) 12 (by omega) rfl (some l) (decide_eq_true g)
    have g' : 12 ≤ l.length := g
    exact agT rfl (d_parse (by omega) (some l) hL rfl (tvC_gv _ _ _) (p_oid l g' hL)) (fun hE => by have := g_7 l hE; rw [if_pos g'] at this; exact this)
  · have hL := len_fix (k := 7) 12 (by omega) rfl o (decide_eq_false g)
    exact agF (d_no 7 o hL (by omega)) (fun hE => by have := g_7 (bl o) hE; rw [if_neg g] at this; exact this)
theorem ag_str {k : Int} (hk : k = 2 ∨ k = 13 ∨ k = 14) (o : Option (List UInt8)) (hl : (bl o).length ≤ 5000) : AG k o := by
  have hL := c_LenStr hk o hl
  cases g : strOk (bl o) with
  | true =>
    have g4 : 1 ≤ (bl o).length := by unfold strOk at g; simp only [Bool.and_eq_true, decide_eq_true_eq] at g; omega
    obtain ⟨l, rfl⟩ := some_of (o := o) g4
    have g' : strOk l = true := g
    refine agT rfl (d_str hk l hl g') (cvT fun hE => ?_)
    rcases hk with rfl | rfl | rfl
    · have := g_2 l hl hE; rw [if_pos g'] at this; exact this
    · have := g_13 l hl hE; rw [if_pos g'] at this; exact this
    · have := g_14 l hl hE; rw [if_pos g'] at this; exact this
  | false =>
    rw [g] at hL
    have g' : ¬ strOk (bl o) = true := by simp [g]
    refine agF (d_no k o hL (by omega)) (cvF fun hE => ?_)
    rcases hk with rfl | rfl | rfl
    · have := g_2 (bl o) hl hE; rw [if_neg g'] at this; exact this
    · have := g_13 (bl o) hl hE; rw [if_neg g'] at this; exact this
    · have := g_14 (bl o) hl hE; rw [if_neg g'] at this; exact this
theorem ag_doc {k : Int} (hk : k = 3 ∨ k = 4) (o : Option (List UInt8)) (hl : (bl o).length ≤ 5000) : AG k o := by
  have hL := c_LenDoc (k := k) (by omega) o hl
  cases g : docB (bl o) with
  | true =>
    have g4 : 1 ≤ (bl o).length := by unfold docB at g; simp only [Bool.and_eq_true, decide_eq_true_eq] at g; omega
    obtain ⟨l, rfl⟩ := some_of (o := o) g4
    have g' : docB l = true := g
    refine agT (by rw [bl_oB]; rfl) (d_doc hk l hl g') (cvT (ob := oB (l.take (num32 l).toNat)) fun hE => ?_)
    rcases hk with rfl | rfl
    · have := g_3 l hl hE; rw [if_pos g'] at this; exact this
    · have := g_4 l hl hE; rw [if_pos g'] at this; exact this
  | false =>
    have hno : ¬ (4 ≤ (bl o).length ∧ (4 ≤ num32 (bl o) ∧ num32 (bl o) ≤ (bl o).length)) := by
      intro ⟨a, b, c⟩; unfold docB at g; simp [a, b, c] at g
    have hf : docO (bl o) = false := by
      cases hd : docO (bl o) with
      | false => rfl
      | true => unfold docO at hd; simp only [Bool.and_eq_true, decide_eq_true_eq] at hd; omega
    rw [hf] at hL
    have g' : ¬ docB (bl o) = true := by simp [g]
    refine agF (d_no k o hL (by omega)) (cvF fun hE => ?_)
    rcases hk with rfl | rfl
    · have := g_3 (bl o) hl hE; rw [if_neg g'] at this; exact this
    · have := g_4 (bl o) hl hE; rw [if_neg g'] at this; exact this
end Go.Proofs.YticoldgiebmmgaaGreatDoor.Abs
