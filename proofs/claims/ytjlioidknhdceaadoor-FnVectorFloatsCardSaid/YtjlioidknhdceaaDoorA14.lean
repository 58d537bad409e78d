/- The machine's runs of the operations that make or write memory. -/
import Derived.Test.YtjlioidknhdceaaDoorA13
namespace Go.Proofs.YtjlioidknhdceaaDoor.Abs
set_option linter.all false
set_option linter.unusedVariables false

variable {P : Program} {w w' : World} {G G' : Gh} {a : Act} {o : Oper}
variable {w0 : World} {F0 : FT} {A : Nat → Prop} {n : Nat} {st : St} {β : Type}

theorem tzero_inv {t : TypeId} {z : AV} (h : tzero P t = some z) : ∃ i v, P.info? t = some i ∧ i.zero = some v ∧ ofConst v = some z := by
  simp only [tzero, Option.bind_eq_some_iff] at h
  obtain ⟨v, ⟨i, hi, hv⟩, hz⟩ := h
  exact ⟨i, v, hi, hv, hz⟩

theorem run_newVar (t : TypeId) (v : Value) (w : World) : (newVar t v).run P w = .ok ⟨w.heap.size, 0, none⟩ (w.alloc (.cells v.cells t)) := by
  simp [newVar, newRow, World.alloc, -World.alloc_eq]

theorem runs_alloc {t : TypeId} (ho : o.op = .alloc t) {i : TypeInfo} {v : Value} (hi : P.info? t = some i) (hv : i.zero = some v) :
    Runs P o a w (.pointer (some ⟨w.heap.size, 0, none⟩)) (w.alloc (.cells v.cells t)) := by
  simp only [Runs, execOp, ho, Instr.alloc, zeroValue, typeInfo, Sem.run_bind, run_program, Result.andThen_ok, hi, Sem.run_pure, hv, run_newVar]

theorem runs_box {t : TypeId} {x : Operand} (ho : o.op = .box t x) : Runs P o a w (.pointer (some ⟨w.heap.size, 0, none⟩)) (w.alloc (.cells (a.eval x).cells t)) := by
  simp only [Runs, execOp, ho, Instr.box, Sem.run_bind, run_newVar, Result.andThen_ok, Sem.run_pure]

theorem run_places {fs : List Field} : ∀ {pl : List (Nat × Nat × Bool)}, placesOf P fs = some pl → ∀ w : World,
    (fs.mapM (fun f => do pure (f.offset, ← sizeOf f.type) : Field → Sem (Nat × Nat))).run P w = .ok (pl.map fun q => (q.1, q.2.1)) w := by
  induction fs with
  | nil => intro pl h w; simp [placesOf] at h; subst h; simp
  | cons f r ih =>
    intro pl h w
    simp only [placesOf, Option.bind_eq_some_iff, Option.map_eq_some_iff] at h
    obtain ⟨m, hm, l, hl, rfl⟩ := h
    have := ih hl w
    simp only [List.mapM_cons, Sem.run_bind, run_sizeOf' hm, Result.andThen_ok, Sem.run_pure, this]
    simp

theorem runs_build {t : TypeId} {parts : Array (Nat × Operand)} (ho : o.op = .build t parts) {i : TypeInfo} {v : Value} (hi : P.info? t = some i) (hv : i.zero = some v) {pl : List (Nat × Nat × Bool)} (hpl : tplaces P t = some pl)
    {vs' : Array Value} (hf : Instr.fill (fun i => (pl[i]?).map fun q => (q.1, q.2.1)) v.cells (parts.toList.map fun (i, x) => (i, a.eval x)) = some vs') (w : World) :
    Runs P o a w (.agg vs') w := by
  unfold tplaces at hpl
  split at hpl
  · rename_i fs hu
    have hm := run_places (P := P) hpl w
    have hm' : (fs.mapM (fun f => do pure (f.offset, ← sizeOf f.type) : Field → Sem (Nat × Nat))).run P w = .ok (pl.map fun q => (q.1, q.2.1)).toArray w := by
      rw [Array.mapM_eq_mapM_toList, Sem.run_map, hm]; rfl
    have hfun : ((pl.map fun q => (q.1, q.2.1)).toArray[·]? : Nat → Option (Nat × Nat)) = fun i => (pl[i]?).map fun q => (q.1, q.2.1) := by
      funext i; simp
    have hparts : (parts.map fun (i, x) => (i, a.eval x)).toList = parts.toList.map fun (i, x) => (i, a.eval x) := by simp
    simp only [Runs, execOp, ho, Instr.build, zeroValue, typeInfo, Sem.run_bind, run_program, Result.andThen_ok, hi, Sem.run_pure, hv, run_underlying hu, hm', hfun, hparts, hf]
  · cases hpl

theorem repCells_get {k : Nat} {z : List AV} (hz : 0 < z.length) : (repCells k z).length = k * z.length ∧ ∀ i, i < k * z.length → (repCells k z)[i]? = z[i % z.length]? := by
  induction k with
  | zero => refine ⟨by simp [repCells], fun i hi => absurd hi (by simp)⟩
  | succ k ih =>
    have hs : repCells (k + 1) z = z ++ repCells k z := by simp [repCells, List.replicate_succ]
    rw [hs]
    refine ⟨by rw [List.length_append, ih.1, Nat.succ_mul, Nat.add_comm], fun i hi => ?_⟩
    by_cases h : i < z.length
    · rw [List.getElem?_append_left h, Nat.mod_eq_of_lt h]
    · rw [List.getElem?_append_right (by omega), ih.2 _ (by rw [Nat.succ_mul] at hi; omega)]
      congr 1
      rw [Nat.mod_eq_sub_mod (a := i) (by omega)]

theorem zeros_RowR {Fr : FT} {k sz : Nat} {z : List AV} {zv : Array Value} (h : RowR w Fr z zv) (hl : z.length = sz) (hsz : 0 < sz) :
    RowR w Fr (repCells k z) ((Array.range (k * sz)).map (zv[· % zv.size]!)) := by
  obtain ⟨h1, h2⟩ := repCells_get (k := k) (z := z) (by omega)
  have hzs := h.1
  refine ⟨by simp [h1, hl], fun c hc hc' => ?_⟩
  have hck : c < k * z.length := by rw [← h1]; exact hc
  have hm : c % z.length < z.length := Nat.mod_lt _ (by omega)
  have e1 := h2 c hck
  rw [List.getElem?_eq_getElem hc, List.getElem?_eq_getElem hm] at e1
  injection e1 with e1
  have hm' : c % zv.size < zv.size := by rw [hzs]; exact hm
  have e2 : ((Array.range (k * sz)).map (zv[· % zv.size]!))[c] = zv[c % zv.size] := by simp [hm']
  rw [e1, e2]
  have := h.2 (c % z.length) hm (by omega)
  simpa [hzs] using this

theorem runs_buildSlice {t e : TypeId} {len sz by' : Nat} {parts : Array (Nat × Operand)} (ho : o.op = .buildSlice t len parts) (ht : telem P t = some (e, sz, by')) {i : TypeInfo} {v : Value} (hi : P.info? e = some i) (hv : i.zero = some v)
    (hsmall : len * sz ≤ 65536) {vs' : Array Value} (hf : Instr.fill (fun i => some (i * sz, sz)) ((Array.range (len * sz)).map (v.cells[· % v.cells.size]!)) (parts.toList.map fun (i, x) => (i, a.eval x)) = some vs') (w : World) :
    Runs P o a w (.slice (some ⟨w.heap.size, 0, none⟩) len len) (w.alloc (.cells vs' e)) := by
  obtain ⟨hu, i', z', hi', hz', hs', _, _, hpos⟩ := telem_inv ht
  rw [hi] at hi'; injection hi' with hi'; subst hi'
  rw [hv] at hz'; injection hz' with hz'; subst hz'
  subst hs'
  have hparts : (parts.map fun (i, x) => (i, a.eval x)).toList = parts.toList.map fun (i, x) => (i, a.eval x) := by simp
  by_cases h0 : len * i.size = 0
  · have hlen : len = 0 := by rcases Nat.mul_eq_zero.1 h0 with h | h; { exact h }; { omega }
    subst hlen
    have hr : (Instr.buildSlice t 0 (parts.map fun (i, x) => (i, a.eval x))).run P w = .ok (.slice (some ⟨w.heap.size, 0, none⟩) 0 0) (w.alloc (.cells vs' e)) := by
      have he : (Array.range (0 * i.size)).map (v.cells[· % v.cells.size]!) = #[] := by apply Array.eq_empty_of_size_eq_zero; simp
      rw [he] at hf
      have he2 : (Array.range (0 * i.size)).map (fun x => (#[] : Array Value)[x % (#[] : Array Value).size]!) = #[] := by apply Array.eq_empty_of_size_eq_zero; simp
      unfold Instr.buildSlice
      simp only [Sem.run_bind, run_underlying hu, Result.andThen_ok, run_sizeOf' (show tsize P e = some i.size by simp [tsize, hi])]
      rw [if_neg (by omega)]
      simp only [Sem.run_bind, Sem.run_pure, Result.andThen_ok, if_pos h0, he2, hparts, hf]
      rfl
    simp only [Runs, execOp, ho, Sem.run_bind, hr, Result.andThen_ok, Sem.run_pure]
  · have hr := run_buildSlice (P := P) w t e len (parts.map fun (i, x) => (i, a.eval x)) vs' i v hu hi hv (by omega) h0 (by rw [hparts]; exact hf)
    simp only [Runs, execOp, ho, Sem.run_bind, hr, Result.andThen_ok, Sem.run_pure]

end Go.Proofs.YtjlioidknhdceaaDoor.Abs
