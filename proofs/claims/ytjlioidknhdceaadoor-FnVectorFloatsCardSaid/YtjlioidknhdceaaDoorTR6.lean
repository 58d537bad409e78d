/- Memories made one behind the other; rows of plain cells that are only read. -/
import Derived.Test.YtjlioidknhdceaaDoorTR5
namespace Go.Proofs.YtjlioidknhdceaaDoor.Abs
set_option linter.all false
set_option linter.unusedVariables false

def H.app (h : H) (os : List Obj) : H := ⟨h.base, h.l ++ os.map some, h.Γ⟩
theorem H.app_app (h : H) (a b : List Obj) : (h.app a).app b = h.app (a ++ b) := by simp [H.app]
@[simp] theorem H.Γ_app (h : H) (os : List Obj) : (h.app os).Γ = h.Γ := rfl
theorem RS.fv_len1 (e : Nat) (b : RS) : aLen false (b.fv e 1) = some (.int .i64 (b.l.length : Int)) := RS.fv_len (by omega) (by omega)
theorem RS.fv_at {e : Nat} {b : RS} {pre r : List AV} {x : AV} (h : b.l = pre ++ x :: r) : ixV 1 (b.fv e 1) (.int .i64 (pre.length : Int)) = some (.eptr (x :: r)) := by
  rw [RS.fv_ix (n := b.l.length) (by omega) (by omega) (by rw [h]; simp)]
  rw [h]; simp
theorem RS.fv_at' {e : Nat} {b : RS} {k : Nat} {pre r : List AV} {x : AV} (h : b.l = pre ++ x :: r) (hk : k = pre.length) : ixV 1 (b.fv e 1) (.int .i64 (k : Int)) = some (.eptr (x :: r)) := by
  subst hk; exact RS.fv_at h
def ptrsF (n m : Nat) : List AV := (List.range m).map fun j => .ptr (.obj (n + (j + 1))) 0
@[simp] theorem ptrsF_zero (n : Nat) : ptrsF n 0 = [] := rfl
theorem fits_row {P : Program} {t e : TypeId} (ht : P.underlying t = some (.slice e)) (hc : P.cellsOf e = 1) {α : Type} (f : α → AV) (hf : ∀ k r, FitsC P k e r → ∃ y : α, r = [f y]) {k : Nat} {xs : List AV} (h : FitsC P k t xs) :
    ∃ (b : RS) (l : List α), xs = [b.fv e 1] ∧ b.l = l.map f ∧ l.length ≤ reachBytes := by
  cases k with
  | zero => exact h.elim
  | succ k =>
    simp only [FitsC, ht, hc] at h
    rcases h with rfl | ⟨rows, rfl, hl, hr⟩
    · exact ⟨.nil, [], rfl, rfl, by simp⟩
    · have : ∃ l : List α, rows.flatten = l.map f ∧ l.length = rows.length := by
        clear hl
        induction rows with
        | nil => exact ⟨[], rfl, rfl⟩
        | cons r rows ihr =>
          obtain ⟨l, e1, e2⟩ := ihr (fun r hr' => hr r (List.mem_cons_of_mem _ hr'))
          obtain ⟨_, h2⟩ := hr r List.mem_cons_self
          obtain ⟨y, rfl⟩ := hf k r h2
          exact ⟨y :: l, by simp [e1], by simp [e2]⟩
      obtain ⟨l, e1, e2⟩ := this
      exact ⟨.own true (l.map f), l, by rw [e1]; rfl, rfl, by omega⟩

/-! ### Arrays of bytes in memory -/
theorem ex2_0 (a b : AV) : exV (.tup [a, b]) 0 = some (a, .tup [a.cls .left, b]) := rfl
theorem ex2_1 (a b : AV) : exV (.tup [a, b]) 1 = some (b, .tup [a, b.cls .left]) := rfl
theorem ex3_0 (a b c : AV) : exV (.tup [a, b, c]) 0 = some (a, .tup [a.cls .left, b, c]) := rfl
theorem ex3_1 (a b c : AV) : exV (.tup [a, b, c]) 1 = some (b, .tup [a, b.cls .left, c]) := rfl
theorem ex3_2 (a b c : AV) : exV (.tup [a, b, c]) 2 = some (c, .tup [a, b, c.cls .left]) := rfl
end Go.Proofs.YtjlioidknhdceaaDoor.Abs
