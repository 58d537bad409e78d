/- What a law's reading of its arguments says, as abstract values. -/
import Derived.Test.YtjlioidknhdceaaDoorA23
import Derived.ChangeArms
import Derived.DataReads
import Derived.SizedLaws
namespace Go.Proofs.YtjlioidknhdceaaDoor.Abs
set_option linter.all false
set_option linter.unusedVariables false

def laidFrom (P : Program) : List Field → Nat → Option Nat
  | [], o => some o
  | f :: r, o => if f.offset = o then laidFrom P r (o + P.cellsOf f.type) else none

def closedB (P : Program) (T : List TypeId) : Bool :=
  T.all fun t => match P.underlying t with
    | some .bool => true
    | some (.int _) => true
    | some .string => true
    | some (.slice e) => T.contains e && decide (0 < P.cellsOf e) && decide (0 < P.bytesOf e)
    | some (.struct fs) => (fs.toList.all fun f => T.contains f.type) && (laidFrom P fs.toList 0 == some (P.cellsOf t))
    | _ => false

def fitsFields (F : TypeId → List AV → Prop) : List Field → List AV → Prop
  | [], xs => xs = []
  | f :: r, xs => ∃ p q, xs = p ++ q ∧ F f.type p ∧ fitsFields F r q

def FitsC (P : Program) : Nat → TypeId → List AV → Prop
  | 0, _, _ => False
  | k + 1, t, xs =>
    match P.underlying t with
    | some .bool => ∃ b, xs = [.bool b]
    | some (.int i) => ∃ n, xs = [.int i n] ∧ i.min ≤ n ∧ n ≤ i.max
    | some .string => ∃ s, xs = [.str s] ∧ s.length ≤ reachBytes
    | some (.slice e) => xs = [.slice .nil 0 1 []] ∨ ∃ rows : List (List AV), xs = [.slice .frz e (P.cellsOf e) rows.flatten] ∧ rows.length ≤ reachBytes ∧ ∀ r ∈ rows, r.length = P.cellsOf e ∧ FitsC P k e r
    | some (.struct fs) => fitsFields (FitsC P k) fs.toList xs
    | _ => False

def allF (w : World) (b : Nat) : Nat :=
  match w.heap[b]? with
  | some (.cells vs _ _) => vs.size
  | _ => 0

theorem allF_lt {w : World} {b o : Nat} {v : Value} (h : w.cell? ⟨b, o, none⟩ = some v) : o < allF w b := by
  unfold World.cell? at h
  unfold allF
  split at h
  · rename_i c e fz hb
    simp only at hb
    rw [hb]
    simp at h
    exact (Array.getElem?_eq_some_iff.1 h).1
  · cases h

theorem allF_new (w : World) : ∀ b, w.heap.size ≤ b → allF w b = 0 := by
  intro b hb
  unfold allF
  rw [Array.getElem?_eq_none (by omega)]

theorem cell_spot {w : World} {a : Addr} {v : Value} (h : w.cell? a = some v) : a.spot = none := by
  unfold World.cell? at h
  split at h
  · cases hs : a.spot with
    | none => rfl
    | some x => rw [hs] at h; simp at h
  · cases h

theorem add_zero' (a : Addr) : a.add 0 = a := by unfold Addr.add; simp

section
variable {H : Type} {enc : TypeId × Value → H} {P : Program} {w : World} {base : Nat} {spare : Nat → Bool} {held : Bool} {F : FT}

def CellsR (w : World) (F : FT) (xs : List AV) (cs : List Value) : Prop :=
  cs.length = xs.length ∧ ∀ i (h : i < xs.length) (h' : i < cs.length), (cs[i]).oneCell' = true ∧ CR w F xs[i] cs[i]

theorem CellsR.nil : CellsR w F [] [] := ⟨rfl, fun i h => absurd h (by simp)⟩
theorem CellsR.one {x : AV} {v : Value} (h1 : v.oneCell' = true) (h2 : CR w F x v) : CellsR w F [x] [v] :=
  ⟨rfl, fun i h h' => by obtain rfl : i = 0 := (by simpa using h); exact ⟨h1, h2⟩⟩
theorem CellsR.append {xs ys : List AV} {cs ds : List Value} (h : CellsR w F xs cs) (k : CellsR w F ys ds) : CellsR w F (xs ++ ys) (cs ++ ds) := by
  refine ⟨by simp [h.1, k.1], fun i hi hi' => ?_⟩
  by_cases hc : i < cs.length
  · rw [List.getElem_append_left hc, List.getElem_append_left (by rw [← h.1]; exact hc)]
    exact h.2 i (by rw [← h.1]; exact hc) hc
  · rw [List.getElem_append_right (by omega), List.getElem_append_right (by rw [← h.1]; omega)]
    simp only [List.length_append] at hi
    have := k.2 (i - cs.length) (by have := h.1; omega) (by simp only [List.length_append] at hi'; omega)
    simpa only [h.1] using this

theorem fields_read {k : Nat} {cs : List Value} (hread : ∀ (f : Field) (ds : List Value), ds.length = P.cellsOf f.type → ds = ((cs.drop f.offset).take (P.cellsOf f.type)) → True) :
    ∀ {fs : List Field} {o : Nat}, laidFrom P fs o = some cs.length → (∀ f ∈ fs, ∃ xs, CellsR w F xs ((cs.drop f.offset).take (P.cellsOf f.type)) ∧ FitsC P k f.type xs) →
    o ≤ cs.length ∧ ∃ xs, CellsR w F xs (cs.drop o) ∧ fitsFields (FitsC P k) fs xs := by
  intro fs
  induction fs with
  | nil =>
    intro o hl _
    simp only [laidFrom, Option.some.injEq] at hl
    subst hl
    exact ⟨Nat.le_refl _, [], by rw [List.drop_length]; exact CellsR.nil, rfl⟩
  | cons f fs ih =>
    intro o hl hf
    simp only [laidFrom] at hl
    split at hl
    · rename_i ho
      obtain ⟨h1, xs, h2, h3⟩ := ih hl (fun f hm => hf f (List.mem_cons_of_mem _ hm))
      obtain ⟨ys, h4, h5⟩ := hf f (List.mem_cons_self)
      refine ⟨by omega, ys ++ xs, ?_, ys, xs, rfl, h5, h3⟩
      rw [ho] at h4
      have := h4.append h2
      rwa [← List.drop_drop, List.take_append_drop] at this
    · cases hl

theorem weights_mem_all {t : TypeId} {d : DataW H} {n : Nat} (hn : n ∈ d.weights P t) : ∀ {l : List (DataW H)}, d ∈ l → n ∈ DataW.weightsAll P t l
  | a :: l, hd => by
    simp only [DataW.weightsAll, List.mem_append]
    rcases List.mem_cons.1 hd with h | h
    · subst h; exact .inl hn
    · exact .inr (weights_mem_all hn h)

theorem read_sound (hF : ∀ b o v, w.cell? ⟨b, o, none⟩ = some v → o < F b) {T : List TypeId} (hT : closedB P T = true) : ∀ {fuel : Nat} {t : TypeId} {cs : List Value} {x : DataW H × List MemPlace}, t ∈ T →
    DataW.trod enc P w base spare held fuel t cs = some x → (∀ n ∈ x.1.weights P t, n ≤ reachBytes) → ∃ xs, CellsR w F xs cs ∧ FitsC P fuel t xs := by
  intro fuel
  induction fuel with
  | zero => intro t cs x _ h; simp [DataW.trod] at h
  | succ k ih =>
    intro t cs x ht h hz
    have hc := List.all_eq_true.1 hT t ht
    simp only [FitsC]
    cases hu : P.underlying t with
    | none => rw [hu] at hc; cases hc
    | some d =>
      rw [hu] at hc
      cases d with
      | bool =>
        obtain ⟨b, rfl, _⟩ := DataW.trod_bool hu h
        exact ⟨[.bool b], CellsR.one rfl (.bool b), b, rfl⟩
      | int i =>
        obtain ⟨n, rfl, _, hw⟩ := DataW.trod_int hu h
        simp only [Lit.wf, Bool.and_eq_true, decide_eq_true_eq] at hw
        exact ⟨[.int i n], CellsR.one rfl (.int i n), n, rfl, hw⟩
      | string =>
        obtain ⟨s, rfl, hx, hs⟩ := DataW.trod_string hu h
        subst hx
        exact ⟨[.str s.data.toList], CellsR.one rfl (.str s _ rfl), s.data.toList, rfl, hz _ (by simp [DataW.weights])⟩
      | slice e =>
        simp only [Bool.and_eq_true, decide_eq_true_eq, List.contains_iff_mem] at hc
        obtain ⟨⟨hce, hpos⟩, hbpos⟩ := hc
        rcases DataW.trod_slice hu h with ⟨rfl, _⟩ | ⟨a, len, cap, elems, rest, m, hm, rfl, hxe, hb, hlc, hcm, hlen, hel, _, _⟩
        · exact ⟨[.slice .nil 0 1 []], CellsR.one rfl (.nil 0 1), .inl rfl⟩
        · obtain rfl : m = k := (by omega)
          subst hxe
          simp only [DataW.weights, hu, List.mem_cons, List.mem_append, List.length_map] at hz
          have hlr : len ≤ reachBytes := by
            have h1 := hz _ (.inl rfl)
            rw [hlen] at h1
            exact Nat.le_trans (Nat.le_trans (Nat.le_add_right len rest.length) (Nat.le_mul_of_pos_right _ hbpos)) h1
          have key : ∀ j, j ≤ len → ∃ rows : List (List AV), rows.length = j ∧ (∀ r ∈ rows, r.length = P.cellsOf e ∧ FitsC P m e r) ∧ rows.flatten.length = j * P.cellsOf e ∧
              ∃ ds, CellsR w F rows.flatten ds ∧ ∀ i v, ds[i]? = some v → w.cell? (a.add i) = some v := by
            intro j
            induction j with
            | zero => intro _; exact ⟨[], rfl, fun r hr => (by cases hr), by simp, [], CellsR.nil, fun i v hv => by simp at hv⟩
            | succ j ihj =>
              intro hj
              obtain ⟨rows, h1, h2, h3, ds, h4, h5⟩ := ihj (by omega)
              have he := hel j (by omega)
              rw [List.getElem?_eq_getElem (by omega)] at he
              obtain ⟨cs', hcs, htr⟩ := Option.bind_eq_some_iff.1 he
              obtain ⟨_, hcl, hcell⟩ := World.cells?_some hcs
              obtain ⟨xs, hx1, hx2⟩ := ih hce htr (fun n hn => hz n (.inr (.inl (weights_mem_all hn (List.mem_map_of_mem (List.getElem_mem _))))))
              have hdl : ds.length = j * P.cellsOf e := by rw [h4.1, h3]
              refine ⟨rows ++ [xs], by simp [h1], fun r hr => ?_, by simp [h3, ← hx1.1, hcl, Nat.succ_mul], ds ++ cs', by simpa using h4.append hx1, fun i v hv => ?_⟩
              · rcases List.mem_append.1 hr with hr | hr
                · exact h2 r hr
                · simp only [List.mem_singleton] at hr; subst hr; exact ⟨by rw [← hx1.1, hcl], hx2⟩
              · by_cases hi : i < ds.length
                · rw [List.getElem?_append_left hi] at hv; exact h5 i v hv
                · rw [List.getElem?_append_right (by omega)] at hv
                  have hi2 : i - ds.length < P.cellsOf e := by rw [← hcl]; exact (List.getElem?_eq_some_iff.1 hv).1
                  have := hcell (i - ds.length) hi2
                  rw [hv] at this
                  rw [← this, hdl]
                  have hadd : (a.add (j * P.cellsOf e)).add (i - j * P.cellsOf e) = a.add i := by
                    have : i = j * P.cellsOf e + (i - j * P.cellsOf e) := by omega
                    conv => rhs; rw [this]
                    unfold Addr.add
                    by_cases h1 : j * P.cellsOf e = 0 <;> by_cases h2 : i - j * P.cellsOf e = 0 <;> simp [h1, h2, Nat.add_assoc]
                  rw [hadd]
          obtain ⟨rows, h1, h2, h3, ds, h4, h5⟩ := key len (Nat.le_refl _)
          refine ⟨[.slice .frz e (P.cellsOf e) rows.flatten], CellsR.one rfl ?_, .inr ⟨rows, rfl, by rw [h1]; exact hlr, h2⟩⟩
          have hsp : 0 < rows.flatten.length → a.spot = none := fun hp => by
            have hd0 : 0 < ds.length := by rw [h4.1]; exact hp
            have := h5 0 ds[0] (List.getElem?_eq_getElem hd0)
            rw [add_zero'] at this
            exact cell_spot this
          have hcell : ∀ i (hi : i < rows.flatten.length), w.cell? ⟨a.block, a.off + i, none⟩ = some (ds.getD i undef) := fun i hi => by
            have hi' : i < ds.length := by rw [h4.1]; exact hi
            have := h5 i ds[i] (List.getElem?_eq_getElem hi')
            rw [add_off a (hsp (by omega))] at this
            rw [this]; simp [List.getD, List.getElem?_eq_getElem hi']
          refine .frz e _ len cap a _ (fun i => ds.getD i undef) hsp hpos h3 hlc (fun i hi => hF _ _ _ (hcell i hi)) hcell (fun i hi => ?_) (fun i hi => ?_)
          · have hi' : i < ds.length := by rw [h4.1]; exact hi
            have := (h4.2 i hi hi').1
            simpa [List.getD, List.getElem?_eq_getElem hi'] using this
          · have hi' : i < ds.length := by rw [h4.1]; exact hi
            have := (h4.2 i hi hi').2
            simpa [List.getD, List.getElem?_eq_getElem hi'] using this
      | struct fs =>
        simp only [Bool.and_eq_true, beq_iff_eq, List.all_eq_true, List.contains_iff_mem] at hc
        obtain ⟨hcf, hlaid⟩ := hc
        obtain ⟨xs, m, hm, hxe, hcl, hxl, hfields⟩ := DataW.trod_struct hu h
        obtain rfl : m = k := (by omega)
        subst hxe
        simp only [DataW.weights, hu] at hz
        rw [← hcl] at hlaid
        obtain ⟨_, ys, h1, h2⟩ := fields_read (P := P) (w := w) (F := F) (k := m) (cs := cs) (fun _ _ _ _ => trivial) hlaid (fun f hf => by
          obtain ⟨i, hi, hif⟩ := List.getElem_of_mem hf
          have hif' : fs[i]? = some f := by
            rw [← hif]; simp
          have := hfields i f hif'
          have hxi : i < xs.length := by
            rw [hxl]; simpa using hi
          rw [List.getElem?_eq_getElem hxi] at this
          refine ih (hcf f hf) this (fun n hn => hz n ?_)
          refine DataW.weights_mem_each (j := i) (t := f.type) (d := xs[i].1) ?_ ?_ n hn
          · rw [List.getElem?_map, Array.getElem?_toList, hif']; rfl
          · rw [List.getElem?_map, List.getElem?_eq_getElem hxi]; rfl)
        exact ⟨ys, by simpa using h1, h2⟩
      | _ => cases hc
end

/-! ### Arguments -/
section
variable {H : Type} {enc : TypeId × Value → H} {P : Program} {w : World} {F : FT}

def FitsV (P : Program) (t : TypeId) (x : AV) : Prop :=
  ∃ fuel xs, FitsC P fuel t xs ∧ ((tagg P t = some true ∧ x = .agg xs) ∨ (tagg P t = some false ∧ xs = [x]))

theorem arg_sound (hF : ∀ b o v, w.cell? ⟨b, o, none⟩ = some v → o < F b) {T : List TypeId} (hT : closedB P T = true) {t : TypeId} (ht : t ∈ T) {base : Nat} {v : Value} (hv : Value.okWide P w .any base t v)
    {b0 : Nat} {spare : Nat → Bool} {held : Bool} {d : DataW H} {ps : List MemPlace} (h : DataW.Trod enc P w b0 spare held t v d ps) (hz : ∀ n ∈ d.weights P t, n ≤ reachBytes) : ∃ x, CR w F x v ∧ FitsV P t x := by
  obtain ⟨fuel, h⟩ := h
  obtain ⟨xs, h1, h2⟩ := read_sound hF hT ht h hz
  have hc := List.all_eq_true.1 hT t ht
  unfold Value.okWide at hv
  cases hu : P.underlying t with
  | none => rw [hu] at hc; cases hc
  | some dd =>
    rw [hu] at hc hv
    have one : ∀ (hag : tagg P t = some false) (hone : v.cells = #[v]), ∃ x, CR w F x v ∧ FitsV P t x := by
      intro hag hone
      rw [hone] at h1
      have hl : xs.length = 1 := by rw [← h1.1]; rfl
      obtain ⟨x, rfl⟩ := List.length_eq_one_iff.1 hl
      exact ⟨x, (h1.2 0 (by simp) (by simp)).2, fuel, [x], h2, .inr ⟨hag, rfl⟩⟩
    cases dd with
    | bool => exact one (by simp [tagg, hu]) (by unfold Cell.okWide at hv; rw [hu] at hv; simp only [Cell.ok, hu] at hv; cases v <;> first | rfl | exact hv.elim)
    | int i => exact one (by simp [tagg, hu]) (by unfold Cell.okWide at hv; rw [hu] at hv; simp only [Cell.ok, hu] at hv; cases v <;> first | rfl | exact hv.elim)
    | string => exact one (by simp [tagg, hu]) (by unfold Cell.okWide at hv; rw [hu] at hv; simp only [Cell.ok, hu] at hv; cases v <;> first | rfl | exact hv.elim)
    | slice e => exact one (by simp [tagg, hu]) (by unfold Cell.okWide at hv; rw [hu] at hv; simp only [Cell.ok, hu] at hv; cases v <;> first | rfl | exact hv.elim)
    | struct fs =>
      obtain ⟨cs, rfl, hcs, _⟩ := hv
      refine ⟨.agg xs, .agg xs cs (by have := h1.1; simpa [Value.cells] using this) (fun i hi => ?_) (fun i hi hi' => ?_), fuel, xs, h2, .inl ⟨by simp [tagg, hu], rfl⟩⟩
      · have := (h1.2 i (by rw [← h1.1]; simpa [Value.cells] using hi) (by simpa [Value.cells] using hi)).1
        simpa [Value.cells] using this
      · have := (h1.2 i hi (by simpa [Value.cells] using hi')).2
        simpa [Value.cells] using this
    | _ => cases hc
end

end Go.Proofs.YtjlioidknhdceaaDoor.Abs
