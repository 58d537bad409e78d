/- The names of BSON kinds: two known kinds have one name exactly if they are one kind, and what is no kind has the name of none; for all pairs of bytes, without condition. -/
import Derived.Test.YtfamhjnjlgdglaaPFnDocKindNamesx1
namespace Go.Proofs.Ytfamhjnjlgdglaa.Pure
open Go.RowKit Go.Proofs.Ytfamhjnjlgdglaa.PFnDocKindNames Go.Proofs.YtfamhjnjlgdglaaW.PrintWords Go.Proofs.YtfamhjnjlgdglaaW.PrintLast

/-- The class of a byte: its own place among the kinds, 0 for what is no kind. -/
def cls (n : Nat) : Nat := if 1 ≤ n ∧ n ≤ 19 then n else if n = 127 then 20 else if n = 255 then 21 else 0
/-- The name of a class, by the printed function. -/
def nm (c : Nat) : ByteArray := ((impl_TypeName.f (if c = 20 then 127 else if c = 21 then 255 else (c : Int))).getD ⟨#[]⟩)

theorem name_cls : ∀ n : Fin 256, impl_TypeName.f (n.val : Int) = some (nm (cls n.val)) := by decide +kernel
theorem known_cls : ∀ n : Fin 256, spec_DocKnown.f (n.val : Int) = some (decide (cls n.val ≠ 0)) := by decide +kernel
theorem cls_lt : ∀ n : Fin 256, cls n.val < 22 := by decide +kernel
theorem nm_inj : ∀ c d : Fin 22, ((nm c.val).toList == (nm d.val).toList) = decide (c.val = d.val) := by decide +kernel
theorem nm_ne : ∀ c : Fin 22, (nm c.val).toList ≠ ([] : List UInt8) := by decide +kernel
theorem nm_zero : impl_TypeName.f 0 = some (nm 0) := by decide +kernel
theorem nm_sixteen : impl_TypeName.f 16 = some (nm 16) := by decide +kernel
theorem cls_back : ∀ n : Fin 256, cls n.val ≠ 0 → n.val = (if cls n.val = 20 then 127 else if cls n.val = 21 then 255 else cls n.val) := by decide +kernel
theorem wrap_small (n : Nat) (h : n < 256) : wrap64 (n : Int) = n := by unfold wrap64; omega

theorem u8_bounds {a : Int} (h : (Lit.int .u8 a).wf = true) : 0 ≤ a ∧ a < 256 := by
  simp only [Lit.wf, Bool.and_eq_true, decide_eq_true_eq] at h
  have x : IntKind.u8.min = 0 := by decide
  have y : IntKind.u8.max = 255 := by decide
  omega

theorem FnDocKindNames : laws_FnDocKindNames.Pure := by
  intro a0 a1 h0 h1
  have e0 := u8_bounds h0
  have e1 := u8_bounds h1
  obtain ⟨n, rfl⟩ := Int.eq_ofNat_of_zero_le e0.1
  obtain ⟨m, rfl⟩ := Int.eq_ofNat_of_zero_le e1.1
  have hn : n < 256 := by omega
  have hm : m < 256 := by omega
  have an := name_cls ⟨n, hn⟩
  have am := name_cls ⟨m, hm⟩
  have kn := known_cls ⟨n, hn⟩
  have km := known_cls ⟨m, hm⟩
  have bn := cls_back ⟨n, hn⟩
  have bm := cls_back ⟨m, hm⟩
  have ln := cls_lt ⟨n, hn⟩
  have lm := cls_lt ⟨m, hm⟩
  simp only at an am kn km bn bm ln lm
  have inj := nm_inj ⟨cls n, ln⟩ ⟨cls m, lm⟩
  have inj0 := nm_inj ⟨0, by omega⟩ ⟨cls n, ln⟩
  have inj16 : ((nm 0).toList != (nm 16).toList) = true := by
    have := nm_inj ⟨0, by omega⟩ ⟨16, by omega⟩
    simp only [bne] at *; rw [this]; rfl
  have ne := nm_ne ⟨cls n, ln⟩
  simp only at inj inj0 ne
  refine ⟨1, ?_⟩
  unfold laws_FnDocKindNames.f
  rw [wrap_small n hn, wrap_small m hm, an, am, kn]
  simp only [Option.bind_some]
  by_cases kn0 : cls n = 0
  · rw [if_neg (by simp [kn0])]
    simp only [laws_FnDocKindNames.j0]
    rw [if_pos trivial, wrap_small n hn, wrap_small m hm, kn, km]
    simp only [Option.bind_some]
    rw [inj, if_pos (by by_cases km0 : cls m = 0 <;> simp [kn0, km0] <;> omega), nm_zero, nm_sixteen]
    simp only [Option.bind_some]
    rw [inj16]
  · rw [if_pos (by simp [kn0]), km]
    simp only [Option.bind_some]
    simp only [laws_FnDocKindNames.j0]
    by_cases km0 : cls m = 0
    · rw [if_pos (by simp [km0]), wrap_small n hn, wrap_small m hm, kn, km]
      simp only [Option.bind_some]
      rw [inj, if_pos (by simp [kn0, km0]), nm_zero, nm_sixteen]
      simp only [Option.bind_some]
      rw [inj16]
    · rw [if_neg (by simp [km0])]
      have bn' := bn kn0
      have bm' := bm km0
      have same : (cls n = cls m) ↔ (n = m) := ⟨fun h => by rw [bn', bm', h], fun h => by rw [h]⟩
      have e3 : (decide (cls n = cls m) == ((n : Int) == (m : Int))) = true := by
        rw [beq_iff_eq, Bool.eq_iff_iff, decide_eq_true_iff, beq_iff_eq, same]; omega
      rw [inj, if_pos e3, if_neg ne, nm_zero]
      simp only [Option.bind_some, bne]
      rw [inj0]
      simp; omega

end Go.Proofs.Ytfamhjnjlgdglaa.Pure
