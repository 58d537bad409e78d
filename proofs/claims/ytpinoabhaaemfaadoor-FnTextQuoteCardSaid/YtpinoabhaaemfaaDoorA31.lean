/- Package variables that hold rows of numbers, of truths, of pairs of numbers. -/
import Derived.Test.YtpinoabhaaemfaaDoorA24
import Derived.OpenShut
import Derived.ChangeArms
import Derived.FnData
namespace Go.Proofs.YtpinoabhaaemfaaDoor.Abs
set_option linter.all false
set_option linter.unusedVariables false
open Go
section
variable {P : Program} {W : World} {base : Nat} {spare : Nat → Bool} {held : Bool} {enc : TypeId × Value → Unit} {fuel t e n : Nat} {cs : List Value} {D : DataW Unit} {p : List MemPlace}

theorem slice1 {cs : List Value} {i : Nat} {v : Value} (h : (cs.drop i).take 1 = [v]) : cs[i]? = some v := by
  have := congrArg (·[0]?) h
  simpa using this
theorem map_at {α β : Type} {l : List α} {f : α → β} {r : List β} (h : l.map f = r) {i : Nat} (hi : i < l.length) (hr : i < r.length) : f l[i] = r[i] := by subst h; simp
theorem arr_ints {ns : List Int} (hu : P.underlying t = some (.array n e)) (he : P.underlying e = some (.int .u8)) (c1 : P.cellsOf e = 1) (hd : DataW.trod enc P W base spare held fuel t cs = some (D, p)) (hD : D = .agg (ns.map fun z => .lit (.int .u8 z))) :
    ns.length = n ∧ ∀ i (h : i < ns.length), cs[i]? = some (.int .u8 ns[i]) := by
  obtain ⟨ys, m, rfl, hx, _, hn, hel⟩ := DataW.trod_array hu hd
  simp only [Prod.mk.injEq] at hx
  obtain ⟨hx, _⟩ := hx
  rw [hD] at hx
  injection hx with hx
  have hl : ns.length = ys.length := by have := congrArg List.length hx; simpa using this
  refine ⟨by omega, fun i hi => ?_⟩
  have h1 := hel i (by omega)
  rw [c1, Nat.mul_one, List.getElem?_eq_getElem (show i < ys.length by omega)] at h1
  obtain ⟨z, e1, e2, _⟩ := DataW.trod_int he h1
  have h3 := map_at hx hi (by simp; omega)
  rw [List.getElem_map, e2] at h3
  injection h3 with h3; injection h3 with _ h3
  rw [h3]; exact slice1 e1
theorem arr_bools {ns : List Bool} (hu : P.underlying t = some (.array n e)) (he : P.underlying e = some .bool) (c1 : P.cellsOf e = 1) (hd : DataW.trod enc P W base spare held fuel t cs = some (D, p)) (hD : D = .agg (ns.map fun z => .lit (.bool z))) :
    ns.length = n ∧ ∀ i (h : i < ns.length), cs[i]? = some (.bool ns[i]) := by
  obtain ⟨ys, m, rfl, hx, _, hn, hel⟩ := DataW.trod_array hu hd
  simp only [Prod.mk.injEq] at hx
  obtain ⟨hx, _⟩ := hx
  rw [hD] at hx
  injection hx with hx
  have hl : ns.length = ys.length := by have := congrArg List.length hx; simpa using this
  refine ⟨by omega, fun i hi => ?_⟩
  have h1 := hel i (by omega)
  rw [c1, Nat.mul_one, List.getElem?_eq_getElem (show i < ys.length by omega)] at h1
  obtain ⟨z, e1, e2⟩ := DataW.trod_bool he h1
  have h3 := map_at hx hi (by simp; omega)
  rw [List.getElem_map, e2] at h3
  injection h3 with h3; injection h3 with h3
  rw [h3]; exact slice1 e1
theorem arr_pairs {ns : List (Int × Int)} {f0 f1 : Field} {eI : Nat} (hu : P.underlying t = some (.array n e)) (he : P.underlying e = some (.struct #[f0, f1])) (ht0 : f0.type = eI) (ht1 : f1.type = eI) (ho0 : f0.offset = 0) (ho1 : f1.offset = 1) (hI : P.underlying eI = some (.int .u8)) (c1 : P.cellsOf eI = 1) (c2 : P.cellsOf e = 2)
    (hd : DataW.trod enc P W base spare held fuel t cs = some (D, p)) (hD : D = .agg (ns.map fun z => .agg [.lit (.int .u8 z.1), .lit (.int .u8 z.2)])) :
    ns.length = n ∧ ∀ i (h : i < ns.length), cs[2 * i]? = some (.int .u8 ns[i].1) ∧ cs[2 * i + 1]? = some (.int .u8 ns[i].2) := by
  obtain ⟨ys, m, rfl, hx, _, hn, hel⟩ := DataW.trod_array hu hd
  simp only [Prod.mk.injEq] at hx
  obtain ⟨hx, _⟩ := hx
  rw [hD] at hx
  injection hx with hx
  have hl : ns.length = ys.length := by have := congrArg List.length hx; simpa using this
  refine ⟨by omega, fun i hi => ?_⟩
  have h1 := hel i (by omega)
  rw [c2, List.getElem?_eq_getElem (show i < ys.length by omega)] at h1
  obtain ⟨xs, m2, rfl, hx2, _, hn2, hel2⟩ := DataW.trod_struct he h1
  have h3 := map_at hx hi (by simp; omega)
  rw [List.getElem_map, hx2] at h3
  injection h3 with h3
  have hs2 : xs.length = 2 := by simpa using hn2
  match xs, hs2 with
  | [x0, x1], _ =>
  have k0 := hel2 0 f0 rfl
  have k1 := hel2 1 f1 rfl
  rw [ht0, ho0, c1] at k0
  rw [ht1, ho1, c1] at k1
  simp only [List.getElem?_cons_zero, List.getElem?_cons_succ] at k0 k1
  obtain ⟨z0, a1, a2, _⟩ := DataW.trod_int hI k0
  obtain ⟨z1, b1, b2, _⟩ := DataW.trod_int hI k1
  subst a2; subst b2
  simp only [List.map_cons, List.map_nil, List.cons.injEq, and_true] at h3
  obtain ⟨h30, h31⟩ := h3
  injection h30 with h30; injection h30 with _ h30
  injection h31 with h31; injection h31 with _ h31
  rw [h30, h31]
  have a3 := slice1 a1
  have b3 := slice1 b1
  rw [List.getElem?_take_of_lt (by omega), List.getElem?_drop] at a3 b3
  exact ⟨by rw [← a3]; congr 1; omega, by rw [← b3]; congr 1; omega⟩
theorem eptr_of {W : World} {g : Nat} {xs : List AV} (h : ∀ i (hi : i < xs.length), ∃ v, W.cell? ⟨g, i, none⟩ = some v ∧ v.oneCell' = true ∧ CR W ⟨allF W, fun _ => none⟩ xs[i] v) : CR W ⟨allF W, fun _ => none⟩ (.eptr xs) (.pointer (some ⟨g, 0, none⟩)) := by
  refine .eptr _ _ (fun i => (W.cell? ⟨g, i, none⟩).getD undef) rfl (fun i hi => ?_) (fun i hi => ?_) (fun i hi => ?_) (fun i hi => ?_)
  · obtain ⟨v, h1, _⟩ := h i hi
    rw [Nat.zero_add]; exact allF_lt h1
  · obtain ⟨v, h1, _⟩ := h i hi
    simp [h1]
  · obtain ⟨v, h1, h2, _⟩ := h i hi
    simpa [h1] using h2
  · obtain ⟨v, h1, _, h3⟩ := h i hi
    simpa [h1] using h3
end
end Go.Proofs.YtpinoabhaaemfaaDoor.Abs
