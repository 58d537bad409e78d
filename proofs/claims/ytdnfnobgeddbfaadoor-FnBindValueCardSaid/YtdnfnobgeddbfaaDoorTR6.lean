/- Memories made one behind the other; rows of plain cells that are only read. -/
import Derived.Test.YtdnfnobgeddbfaaDoorTR5
namespace Go.Proofs.YtdnfnobgeddbfaaDoor.Abs
set_option linter.all false
set_option linter.unusedVariables false

/-- A heap with more memories behind it. -/
def H.app (h : H) (os : List Obj) : H := ⟨h.base, h.l ++ os.map some, h.Γ⟩
theorem H.push_app (h : H) (o : Obj) : h.push o = h.app [o] := rfl
theorem H.app_app (h : H) (a b : List Obj) : (h.app a).app b = h.app (a ++ b) := by simp [H.app]
theorem H.app_push (h : H) (os : List Obj) (o : Obj) : (h.app os).push o = h.app (os ++ [o]) := by simp [H.app, H.push]
@[simp] theorem H.n_app (h : H) (os : List Obj) : (h.app os).n = h.n + os.length := by simp [H.app, H.n, Nat.add_assoc]
@[simp] theorem H.Γ_app (h : H) (os : List Obj) : (h.app os).Γ = h.Γ := rfl
@[simp] theorem H.get_app (h : H) (os : List Obj) (j : Nat) : (h.app os).get (h.n + j) = os[j]? := by
  unfold H.get H.app H.n
  simp only
  rw [if_neg (by omega), List.getElem?_append_right (by omega)]
  rw [show h.base + h.l.length + j - h.base - h.l.length = j by omega, List.getElem?_map]
  cases os[j]? <;> rfl
@[simp] theorem H.get_app0 (h : H) (os : List Obj) : (h.app os).get h.n = os[0]? := H.get_app h os 0
theorem H.get_app_old (h : H) (os : List Obj) {i : Nat} (hi : i < h.n) : (h.app os).get i = h.get i := by
  unfold H.get H.app
  unfold H.n at hi
  simp only
  split
  · rfl
  · rw [List.getElem?_append_left (by omega)]
theorem H.set_app (h : H) (os : List Obj) {j : Nat} (hj : j < os.length) (o : Obj) : (h.app os).set (h.n + j) o = h.app (os.set j o) := by
  unfold H.set H.app H.n
  simp only
  rw [if_neg (by omega), List.set_append_right _ _ (by omega)]
  congr 1
  rw [show h.base + h.l.length + j - h.base - h.l.length = j by omega, List.map_set]
@[simp] theorem H.set_app0 (h : H) (x : Obj) (os : List Obj) (o : Obj) : (h.app (x :: os)).set h.n o = h.app (o :: os) := H.set_app h (x :: os) (j := 0) (by simp) o
theorem H.set_app_same (h : H) (os : List Obj) {j : Nat} {o : Obj} (hj : os[j]? = some o) : (h.app os).set (h.n + j) o = h.app os := H.set_get (by rw [H.get_app]; exact hj)

@[simp] theorem RS.sh_sh (b : RS) : b.sh.sh = b.sh := by cases b <;> rfl
@[simp] theorem oldL_strs (n : Nat) : ∀ l : List (List UInt8), oldL n (l.map AV.str) = true
  | [] => by simp
  | _ :: l => by simp [oldL_strs n l]
@[simp] theorem oldL_ints (n : Nat) (k : IntKind) : ∀ l : List Int, oldL n (l.map (AV.int k)) = true
  | [] => by simp
  | _ :: l => by simp [oldL_ints n k l]
theorem RS.fv_len1 (e : Nat) (b : RS) : aLen false (b.fv e 1) = some (.int .i64 (b.l.length : Int)) := RS.fv_len (by omega) (by omega)
/-- The element behind so many. -/
theorem RS.fv_at {e : Nat} {b : RS} {pre r : List AV} {x : AV} (h : b.l = pre ++ x :: r) : ixV 1 (b.fv e 1) (.int .i64 (pre.length : Int)) = some (.eptr (x :: r)) := by
  rw [RS.fv_ix (n := b.l.length) (by omega) (by omega) (by rw [h]; simp)]
  rw [h]; simp
theorem RS.fv_at' {e : Nat} {b : RS} {k : Nat} {pre r : List AV} {x : AV} (h : b.l = pre ++ x :: r) (hk : k = pre.length) : ixV 1 (b.fv e 1) (.int .i64 (k : Int)) = some (.eptr (x :: r)) := by
  subst hk; exact RS.fv_at h
/-- So many addresses, one behind the other. -/
def ptrsF (n m : Nat) : List AV := (List.range m).map fun j => .ptr (.obj (n + (j + 1))) 0
theorem ptrsF_succ (n m : Nat) : ptrsF n (m + 1) = ptrsF n m ++ [.ptr (.obj (n + (m + 1))) 0] := by simp [ptrsF, List.range_succ]
@[simp] theorem ptrsF_length (n m : Nat) : (ptrsF n m).length = m := by simp [ptrsF]
@[simp] theorem ptrsF_zero (n : Nat) : ptrsF n 0 = [] := rfl
theorem ptrsF_at (n m k : Nat) (hk : k < m) : ∃ pre r, ptrsF n m = pre ++ .ptr (.obj (n + (k + 1))) 0 :: r ∧ pre.length = k := by
  refine ⟨(ptrsF n m).take k, (ptrsF n m).drop (k + 1), ?_, by simp; omega⟩
  have hk' : k < (ptrsF n m).length := by simpa using hk
  have : (ptrsF n m)[k] = .ptr (.obj (n + (k + 1))) 0 := by simp [ptrsF]
  rw [← this, List.getElem_cons_drop, List.take_append_drop]
/-- Rows that are read, of plain cells. -/
theorem fits_row {P : Program} {t e : TypeId} (ht : P.underlying t = some (.slice e)) (hc : P.cellsOf e = 1) {α : Type} (f : α → AV) (hf : ∀ k r, FitsC P k e r → ∃ y : α, r = [f y]) {k : Nat} {xs : List AV} (h : FitsC P k t xs) :
    ∃ (b : RS) (l : List α), xs = [b.fv e 1] ∧ b.l = l.map f ∧ l.length ≤ reachBytes := by
  cases k with
  | zero => exact h.elim
  | succ k =>
    simp only [FitsC, ht, hc] at h
    rcases h with rfl | ⟨rows, rfl, hl, hr⟩
    · exact ⟨.nil, [], rfl, rfl, by simp⟩
    · have : ∃ l : List α, rows.flatten = l.map f ∧ l.length = rows.length := by
        clear hl
        induction rows with
        | nil => exact ⟨[], rfl, rfl⟩
        | cons r rows ihr =>
          obtain ⟨l, e1, e2⟩ := ihr (fun r hr' => hr r (List.mem_cons_of_mem _ hr'))
          obtain ⟨_, h2⟩ := hr r List.mem_cons_self
          obtain ⟨y, rfl⟩ := hf k r h2
          exact ⟨y :: l, by simp [e1], by simp [e2]⟩
      obtain ⟨l, e1, e2⟩ := this
      exact ⟨.own true (l.map f), l, by rw [e1]; rfl, rfl, by omega⟩

/-! ### Arrays of bytes in memory -/
theorem notOwn_bytes (l : List UInt8) : (byteCells l).all (fun c => !c.isOwn) = true := by
  rw [List.all_eq_true]; intro x hx
  obtain ⟨b, _, rfl⟩ := List.mem_map.1 hx
  rfl
theorem hcells_bytes {h : H} {i k m : Nat} {l : List UInt8} (hg : h.get i = some (.cells (byteCells l))) (hk : k + m ≤ l.length) : hcells h i k m = some (byteCells ((l.drop k).take m)) := by
  unfold hcells
  rw [hg]
  simp only
  rw [if_pos ⟨by simpa [byteCells] using hk, notOwn_bytes l⟩]
  simp [byteCells, List.map_drop, List.map_take]
theorem cvBS_arr {h : H} {i k e m : Nat} {l : List UInt8} (hg : h.get i = some (.cells (byteCells l))) (hk : k + m ≤ l.length) : cvBS h (.hsl i k e 1 m) = some (.str ((l.drop k).take m)) := by
  simp only [cvBS, hcells_bytes hg hk, Option.bind_some, bytesOf_cells, Option.map_some]
theorem moreV_arr {h : H} {i k e m : Nat} {l : List UInt8} (hg : h.get i = some (.cells (byteCells l))) (hk : k + m ≤ l.length) : moreV h 1 false (.hsl i k e 1 m) = some (byteCells ((l.drop k).take m)) := by
  simp [moreV, hcells_bytes hg hk]
theorem apV_arr {h : H} {i k e m : Nat} {l : List UInt8} (hg : h.get i = some (.cells (byteCells l))) (hk : k + m ≤ l.length) (hm : m ≤ 1073741824) :
    apV h e 1 1 false (.slice .nil 0 1 []) (.hsl i k e 1 m) = some ((BS.mk ((l.drop k).take m)).av e) := by
  have hl : ((l.drop k).take m).length = m := by simp; omega
  simp only [apV, moreV_arr hg hk, Option.bind_some, List.length_nil, Nat.zero_add, byteCells, List.length_map, hl, Nat.div_one, Nat.mul_one]
  rw [if_pos ⟨by simp only [tooLong]; omega, by simp only [tooLong]; omega⟩]
  cases hx : (l.drop k).take m with
  | nil => rw [hx] at hl; simp at hl; subst hl; rfl
  | cons a r => rw [hx] at hl; rw [if_neg (by simp at hl; omega)]; rfl
theorem map_gv_bytes (l : List UInt8) : (byteCells l).map gvV = byteCells l := by
  simp only [byteCells, List.map_map]; apply List.map_congr_left; intro b _; rfl
theorem splice_self (cs : List AV) : splice cs 0 cs = cs := by simp [splice]
/-- An array loaded whole. -/
theorem ldO_arr {m : Mode} {n : Nat} {l : List UInt8} (hn : l.length = n) : ldO m true n 0 (.cells (byteCells l)) = some (.agg (byteCells l), .cells (byteCells l)) := by
  subst hn
  unfold ldO
  have hl : (byteCells l).length = l.length := by simp [byteCells]
  simp only [Nat.zero_add, hl, Nat.le_refl, if_true, List.drop_zero]
  rw [show (byteCells l).take l.length = byteCells l by rw [← hl, List.take_length], map_gv_bytes, splice_self]
theorem bAV_at {e : Nat} {l : List UInt8} {k : Nat} (hk : k < l.length) : ixV 1 (bAV e (some l)) (.int .i64 (k : Int)) = some (.eptr (.int .u8 (l[k].toNat : Int) :: byteCells (l.drop (k + 1)))) := by
  have h1 : (byteCells l).length = l.length := by simp [byteCells]
  have h2 : (0 : Int) ≤ (k : Int) := by omega
  have h3 : (byteCells l).drop k = .int .u8 (l[k].toNat : Int) :: byteCells (l.drop (k + 1)) := by
    unfold byteCells
    rw [← List.map_drop, List.drop_eq_getElem_cons hk]; rfl
  simp [ixV, bAV, h1, hk, h3]
theorem ex2_0 (a b : AV) : exV (.tup [a, b]) 0 = some (a, .tup [a.cls .left, b]) := rfl
theorem ex2_1 (a b : AV) : exV (.tup [a, b]) 1 = some (b, .tup [a, b.cls .left]) := rfl
theorem ex3_0 (a b c : AV) : exV (.tup [a, b, c]) 0 = some (a, .tup [a.cls .left, b, c]) := rfl
theorem ex3_1 (a b c : AV) : exV (.tup [a, b, c]) 1 = some (b, .tup [a, b.cls .left, c]) := rfl
theorem ex3_2 (a b c : AV) : exV (.tup [a, b, c]) 2 = some (c, .tup [a, b, c.cls .left]) := rfl
end Go.Proofs.YtdnfnobgeddbfaaDoor.Abs
