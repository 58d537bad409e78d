/- FnBindEqual: raw values are equal exactly if they have the same kind and the same bytes: the law's function returns true at every input, and the input reads as it did. No condition. -/
import Derived.Test.YtfamhjnjlgdglaaEFnBindEqual
import Derived.Test.YtfamhjnjlgdglaaRows
import Derived.WalkKit
import Derived.ProofKit
import Derived.OpenShut
import Derived.ChangeOld
import Derived.Below
import Derived.SizedLaws
namespace Go.Proofs.Ytfamhjnjlgdglaa.fnBindEqual
open Go.ChangeShapes Go.WideShapes Go.ChangeAt Go.RowKit
open Go.Proofs.Ytfamhjnjlgdglaa.Abs
set_option linter.unusedVariables false
theorem own : ownKnob Try.prog.godebug = none := by kernel_rfl

theorem closed : closedB Try.prog [24, 3, 22, 5] = true := by kernel_rfl
theorem tagg24 : tagg Try.prog 24 = some true := by kernel_rfl
theorem cells5 : Try.prog.cellsOf 5 = 1 := by kernel_rfl

theorem raw_fits {x : AV} (h : FitsV Try.prog 24 x) : ∃ n o, x = rawE 5 .i64 n o := by
  obtain ⟨fuel, xs, h1, h2⟩ := h
  rcases h2 with ⟨_, rfl⟩ | ⟨h2, _⟩
  · obtain ⟨k, _, h3⟩ := fits_struct Try.underlying24 h1
    obtain ⟨p, q, rfl, hp, p2, q2, rfl, hq, hr⟩ := h3
    have hr' : q2 = [] := hr
    subst hr'
    obtain ⟨n, rfl, _⟩ := fits_int Try.underlying3 hp
    obtain ⟨o, rfl, _⟩ := fits_bytes Try.underlying22 Try.underlying5 cells5 hq
    exact ⟨n, o, rfl⟩
  · rw [tagg24] at h2; cases h2

theorem hlaw (xs : List AV) (h : FitsAll Try.prog [24, 24] xs) : callω fns 3 xs = some (.bool true) := by
  obtain ⟨x, r, rfl, hx, y, r2, rfl, hy, hr⟩ := h
  have hr' : r2 = [] := hr
  subst hr'
  obtain ⟨n, o, rfl⟩ := raw_fits hx
  obtain ⟨m, o', rfl⟩ := raw_fits hy
  exact c3 5 n m o o'

set_option maxRecDepth 100000 in
theorem lifted (os : Os) (started : os.Started) (H : Type) (enc : TypeId × Value → H) :
    ReturnsInHanded {} Try.checked os 3 .any (Rows.fnBindEqualSpec.pre6 enc Try.prog Try.f3 Rows.fnBindEqualRow.domain false) (Rows.fnBindEqualSpec.post enc Try.prog Try.f3 false true false false) := by
  refine returnsInHanded_of_change_sized (C := Try.checked) own started (by kernel_rfl) Try.func3
    (ChangeSpec.witness6 (enc := enc) (C := Try.checked) false ⟨#[], #[.agg #[.int .i64 0, .slice none 0 0], .agg #[.int .i64 0, .slice none 0 0]], []⟩ 8 (by kernel_rfl) (by kernel_rfl) (by kernel_rfl) (by kernel_rfl)) ?_
  intro W base args ds gs before hval0 hW hcnd hsz0 _
  have hW' := hW
  have hlt := hW.lt
  obtain ⟨p, q, hA0, hV, rfl, hfz, hnd⟩ := hW
  obtain ⟨rfl, rfl⟩ := trodVars_none hV
  have hA := hA0
  rw [Try.params3] at hA
  obtain ⟨v0, vs0, d0, ds0, p0, q0, hargs, rfl, rfl, h0, r0⟩ := trodAll_cons hA
  obtain ⟨v1, vs1, d1, ds1, p1, q1, rfl, rfl, rfl, h1, r1⟩ := trodAll_cons r0
  obtain ⟨rfl, rfl, rfl⟩ := trodAll_nil r1
  refine (law_calls fnsOk (by kernel_rfl) closed Try.func3 (by rw [Try.params3]; decide) hA0 hval0 (by rw [Try.params3]; exact hlaw)).mono fun e W' ⟨he, bel⟩ => ?_
  subst he
  exact ⟨_, rfl, _, _, _, [], _, [], hW', trodAll_mk1 (shut_bool Try.underlying4 _), trodAll_below (by kernel_rfl) bel (by kernel_rfl) hA0 (fun x hx => hlt x (List.mem_append_left _ hx)), rfl, bel.frame _, fun h => by cases h⟩
theorem over : Rows.fnBindEqualRow.holds Try.pinned (OpenSpec.ofChange Rows.fnBindEqualSpec) :=
  OpenClaim.holds_of_wide 3 Try.f3 rfl rfl rfl rfl rfl rfl rfl ⟨rfl, rfl, rfl, rfl, rfl⟩ rfl rfl rfl rfl rfl (by kernel_rfl) Try.func3 (by kernel_rfl)
    (of_decide_eq_true (by kernel_rfl)) (by unfold Func.isWrapper; first | (rw [if_pos (by decide +kernel)]; kernel_rfl) | (rw [if_neg (by decide +kernel)]; exact ⟨rfl, rfl⟩))
    (fun os started H enc _ => lifted os started H enc)
theorem proved : Rows.FnBindEqualSaid := over
#print axioms proved
end Go.Proofs.Ytfamhjnjlgdglaa.fnBindEqual
namespace Go.Proofs.Ytfamhjnjlgdglaa
/-- The row, under a short name, for the claim. -/
theorem fnBindEqual_holds : Rows.FnBindEqualSaid := fnBindEqual.proved
end Go.Proofs.Ytfamhjnjlgdglaa
