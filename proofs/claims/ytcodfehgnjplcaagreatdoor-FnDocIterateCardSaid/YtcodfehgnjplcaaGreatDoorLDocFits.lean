/- What is read of values and elements. -/
import Derived.Test.YtcodfehgnjplcaaGreatDoorA28
import Derived.Test.YtcodfehgnjplcaaGreatDoorProg
import Derived.KernelRfl
namespace Go.Proofs.YtcodfehgnjplcaaGreatDoor.Abs
set_option linter.all false
set_option linter.unusedVariables false
open Go.Proofs

theorem fits_tree : ∀ (fuel : Nat), (∀ xs, FitsC Tryz.prog fuel 44 xs → ∃ v : Tr, xs = v.cells 5 66 ∧ v.wf) ∧
    (∀ xs, FitsC Tryz.prog fuel 42 xs → ∃ (ks : Ks) (kn : Bool), xs = [Ks.av 5 66 ks kn] ∧ ks.len ≤ reachBytes ∧ ks.wf) := by
  intro fuel
  induction fuel using Nat.strongRecOn with
  | _ fuel ih =>
  constructor
  · intro xs h
    obtain ⟨k, rfl, h3⟩ := fits_struct Tryz.underlying44 h
    obtain ⟨p1, q1, rfl, h1, p2, q2, rfl, h2, p3, q3, rfl, h3, p4, q4, rfl, h4, p5, q5, rfl, h5, p6, q6, rfl, h6, p7, q7, rfl, h7, p8, q8, rfl, h8, hr⟩ := h3
    have hr' : q8 = [] := hr
    subst hr'
    obtain ⟨kd, rfl, a1, a2⟩ := fits_int Tryz.underlying3 h1
    obtain ⟨t, rfl, b1⟩ := fits_str Tryz.underlying9 h2
    obtain ⟨m, rfl, b2⟩ := fits_str Tryz.underlying9 h3
    obtain ⟨n, rfl, a3, a4⟩ := fits_int Tryz.underlying2 h4
    obtain ⟨bi, rfl, a5, a6⟩ := fits_int Tryz.underlying41 h5
    obtain ⟨hi, rfl, a7, a8⟩ := fits_int Tryz.underlying41 h6
    obtain ⟨b, rfl, b3⟩ := fits_bytes Tryz.underlying22 Tryz.underlying5 (by kernel_rfl) h7
    obtain ⟨ks, kn, rfl, b4, b5⟩ := (ih k (by omega)).2 _ h8
    exact ⟨.mk kd t m n bi hi b kn ks, by simp [Tr.cells], a1, a2, b1, b2, a3, a4, a5, a6, a7, a8, b3, b4, b5⟩
  · intro xs h
    cases fuel with
    | zero => exact h.elim
    | succ k =>
      simp only [FitsC, Tryz.underlying42] at h
      have hcell : Tryz.prog.cellsOf 66 = 9 := by kernel_rfl
      rcases h with rfl | ⟨rows, rfl, hl, hr⟩
      · exact ⟨.nil, true, by simp [Ks.av], by simp [Ks.len], trivial⟩
      · have : ∃ ks : Ks, rows.flatten = ks.flat 5 66 ∧ ks.len = rows.length ∧ ks.wf := by
          clear hl
          induction rows with
          | nil => exact ⟨.nil, rfl, rfl, trivial⟩
          | cons r rows ihr =>
            obtain ⟨ks, e1, e2, e3⟩ := ihr (fun r hr' => hr r (List.mem_cons_of_mem _ hr'))
            obtain ⟨_, hf⟩ := hr r List.mem_cons_self
            obtain ⟨k', hk', h3⟩ := fits_struct Tryz.underlying66 hf
            obtain ⟨p1, q1, rfl, h1, p2, q2, rfl, h2, hq⟩ := h3
            have hq' : q2 = [] := hq
            subst hq'
            obtain ⟨nm, rfl, b1⟩ := fits_str Tryz.underlying9 h1
            obtain ⟨v, rfl, hv⟩ := (ih k' (by omega)).1 _ h2
            exact ⟨.cons nm v ks, by simp [Ks.flat, e1], by simp [Ks.len, e2], b1, hv, e3⟩
        obtain ⟨ks, e1, e2, e3⟩ := this
        refine ⟨ks, false, ?_, by omega, e3⟩
        rw [e1, hcell]
        rcases Ks.av_cases 5 66 ks false with ⟨_, h, _⟩ | h
        · cases h
        · rw [h]

theorem kids_fits {x : AV} (h : FitsV Tryz.prog 42 x) : ∃ (ks : Ks) (kn : Bool), x = Ks.av 5 66 ks kn ∧ ks.len ≤ reachBytes ∧ ks.wf := by
  obtain ⟨fuel, xs, h1, h2⟩ := h
  rcases h2 with ⟨h2, _⟩ | ⟨_, rfl⟩
  · have e : tagg Tryz.prog 42 = some false := by kernel_rfl
    rw [e] at h2; cases h2
  · obtain ⟨ks, kn, e, h3⟩ := (fits_tree fuel).2 _ h1
    injection e with e _
    exact ⟨ks, kn, e, h3⟩
theorem val_fits {x : AV} (h : FitsV Tryz.prog 44 x) : ∃ v : Tr, x = .agg (v.cells 5 66) ∧ v.wf := by
  obtain ⟨fuel, xs, h1, h2⟩ := h
  rcases h2 with ⟨_, rfl⟩ | ⟨h2, _⟩
  · obtain ⟨v, rfl, h3⟩ := (fits_tree fuel).1 _ h1
    exact ⟨v, rfl, h3⟩
  · have e : tagg Tryz.prog 44 = some true := by kernel_rfl
    rw [e] at h2; cases h2
theorem bytes_fits {x : AV} (h : FitsV Tryz.prog 22 x) : ∃ o, x = bAV 5 o ∧ (bl o).length ≤ reachBytes := by
  obtain ⟨fuel, xs, h1, h2⟩ := h
  rcases h2 with ⟨h2, _⟩ | ⟨_, rfl⟩
  · have e : tagg Tryz.prog 22 = some false := by kernel_rfl
    rw [e] at h2; cases h2
  · obtain ⟨o, e, h3⟩ := fits_bytes Tryz.underlying22 Tryz.underlying5 (by kernel_rfl) h1
    injection e with e _
    exact ⟨o, e, h3⟩
theorem str_fits {x : AV} (h : FitsV Tryz.prog 9 x) : ∃ t, x = .str t ∧ t.length ≤ reachBytes := by
  obtain ⟨fuel, xs, h1, h2⟩ := h
  rcases h2 with ⟨h2, _⟩ | ⟨_, rfl⟩
  · have e : tagg Tryz.prog 9 = some false := by kernel_rfl
    rw [e] at h2; cases h2
  · obtain ⟨t, e, h3⟩ := fits_str Tryz.underlying9 h1
    injection e with e _
    exact ⟨t, e, h3⟩
theorem int_fits {x : AV} (h : FitsV Tryz.prog 3 x) : ∃ n, x = .int .i64 n ∧ IntKind.i64.min ≤ n ∧ n ≤ IntKind.i64.max := by
  obtain ⟨fuel, xs, h1, h2⟩ := h
  rcases h2 with ⟨h2, _⟩ | ⟨_, rfl⟩
  · have e : tagg Tryz.prog 3 = some false := by kernel_rfl
    rw [e] at h2; cases h2
  · obtain ⟨n, e, h3⟩ := fits_int Tryz.underlying3 h1
    injection e with e _
    exact ⟨n, e, h3⟩
end Go.Proofs.YtcodfehgnjplcaaGreatDoor.Abs
