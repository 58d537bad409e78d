/- The machine's runs of the other pure operations. -/
import Derived.Test.YtjlioidknhdceaaDoorA8
namespace Go.Proofs.YtjlioidknhdceaaDoor.Abs
set_option linter.all false

variable {P : Program} {w : World} {G : Gh} {p q : Nat → Pos} {a : Act} {o : Oper}

structure Pres (bx : K → Option Obj) (G : Gh) (w w' : World) : Prop where
  cell : ∀ b o v, o < G.Fr b → w.cell? ⟨b, o, none⟩ = some v → w'.cell? ⟨b, o, none⟩ = some v
  box : ∀ s ob t, bx s = some ob → G.at s = some t → w'.heap[t.b]? = w.heap[t.b]?

theorem Pres.refl (bx : K → Option Obj) (G : Gh) (w : World) : Pres bx G w w := ⟨fun _ _ _ _ h => h, fun _ _ _ _ _ => rfl⟩

def CellsAt (bx : K → Option Obj) (G : Gh) (w : World) (ys : List AV) (m sz : Nat) (v : Value) : Prop :=
  ∃ (ad : Addr) (cap : Nat) (vs : Nat → Value), v = .slice (some ad) m cap ∧ 0 < sz ∧ m ≤ cap ∧ ys.length = m * sz ∧ (0 < ys.length → ad.spot = none) ∧
      (∀ j, j < ys.length → ∀ w', Pres bx G w w' → w'.cell? ⟨ad.block, ad.off + j, none⟩ = some (vs j)) ∧ (∀ j, j < ys.length → (vs j).oneCell' = true) ∧ ∀ j (hj : j < ys.length), CR w G.Fr ys[j] (vs j)

theorem hcells_sound {st : St} (hh : HR w G st.h) {i k e sz m : Nat} {v : Value} (hT : TR w G p (.hsl i k e sz m) v) {ys : List AV} (hc : hcells st.h i k (m * sz) = some ys) : CellsAt st.at G w ys m sz v := by
  obtain ⟨cap, ad, th, hat, rfl, hz, hmc, ha⟩ := TR_hsl hT
  have core : ∀ (cs : List AV) (f : Nat → Value), k + m * sz ≤ cs.length → ys = (cs.drop k).take (m * sz) → (∀ j, j < cs.length → ∀ w', Pres st.at G w w' → w'.cell? ⟨th.b, j, none⟩ = some (f j)) → (∀ j, j < cs.length → (f j).oneCell' = true) → (∀ j (hj : j < cs.length), CR w G.Fr cs[j] (f j)) →
      CellsAt st.at G w ys m sz (.slice (some ad) m cap) := by
    intro cs f hle hys h1 h2 h3
    have hlen : ys.length = m * sz := by rw [hys, List.length_take, List.length_drop]; omega
    have hpos : 0 < ys.length → ad = ⟨th.b, k, none⟩ := fun h => (ha (.inr (by rw [hlen] at h; exact Nat.pos_of_mul_pos_right h))).1
    refine ⟨ad, cap, fun j => f (k + j), rfl, hz, hmc, hlen, fun h => by rw [hpos h], fun j hj w' hw' => ?_, fun j hj => h2 _ (by omega), fun j hj => ?_⟩
    · rw [hpos (by omega)]; exact h1 (k + j) (by omega) w' hw'
    · have := h3 (k + j) (by omega)
      subst hys
      simpa using this
  unfold hcells at hc
  have rowcase : ∀ (cs : List AV) (vs : Array Value) (e1 : Nat), w.heap[th.b]? = some (.cells vs e1 (0, 0)) → cs.length ≤ vs.size → k + m * sz ≤ cs.length → ys = (cs.drop k).take (m * sz) → (∃ ob, st.at (.obj i) = some ob) →
      (∀ c (h : c < cs.length) (h' : c < vs.size), (vs[c]).oneCell' = true ∧ CR w G.Fr cs[c] vs[c]) → CellsAt st.at G w ys m sz (.slice (some ad) m cap) := by
    intro cs vs e1 hg hsz hle hys hob hcc
    obtain ⟨ob, hob⟩ := hob
    refine core cs (fun j => vs.getD j undef) hle hys (fun j hj w' hw' => ?_) (fun j hj => ?_) (fun j hj => ?_)
    · have hjv : j < vs.size := by omega
      have := hw'.box _ _ _ hob hat
      simp [World.cell?, this, hg, hjv]
    · have hjv : j < vs.size := by omega
      simpa [hjv] using (hcc j hj hjv).1
    · have hjv : j < vs.size := by omega
      simpa [hjv] using (hcc j hj hjv).2
  split at hc
  · rename_i cs hget
    split at hc
    · rename_i hcond
      injection hc with hc
      obtain ⟨t, k1, k2, k3, k4⟩ := hh.box i _ hget
      rw [hat] at k1; injection k1 with k1; subst k1
      obtain ⟨_, _, vs, k5, k6, k7⟩ := k4
      refine rowcase cs vs th.e k5 (by omega) hcond.1 hc.symm ⟨_, hget⟩ (fun c h1 h2 => ⟨(k7 c h1 h2).1, CR_of_TC (k7 c h1 h2).2 ?_⟩)
      have := List.all_eq_true.1 hcond.2 cs[c] (List.getElem_mem _)
      simpa using this
    · cases hc
  · rename_i e' sz' cs hget
    split at hc
    · rename_i hcond
      injection hc with hc
      obtain ⟨t, k1, k2, k3, k4⟩ := hh.box i _ hget
      rw [hat] at k1; injection k1 with k1; subst k1
      obtain ⟨_, _, _, _, _, j1, _, vs, k5, k6, k7⟩ := k4
      exact rowcase cs vs th.e k5 (by omega) hcond hc.symm ⟨_, hget⟩ k7
    · cases hc
  · rename_i cs hget
    split at hc
    · rename_i hcond
      injection hc with hc
      obtain ⟨t, k1, k2, k3, k4⟩ := hh.box i _ hget
      rw [hat] at k1; injection k1 with k1; subst k1
      have k4' : CR w G.Fr (.eptr cs) (.pointer (some ⟨th.b, 0, none⟩)) := k4
      generalize hv : Value.pointer (some ⟨th.b, 0, none⟩) = v at k4'
      cases k4' with
      | eptr a _ vs hs hp hv' ho hr =>
      injection hv with hv; injection hv with hv; subst hv
      refine core cs vs hcond hc.symm (fun j hj w' hw' => ?_) ho hr
      have := hw'.cell _ _ _ (hp j hj) (hv' j hj)
      simpa using this
    · cases hc
  · cases hc

theorem idx_inv {x : AV} {n : Int} {v : Value} (h : TR w G p x v) (hx : aIdx x = some n) : ∃ k, v = .int k n := by
  cases x <;> simp [aIdx] at hx
  subst hx; exact ⟨_, TR_int h⟩

theorem runs_convInt {s d : TypeId} {x : Operand} (ho : o.op = .convert s d x) {k : IntKind} (hk : tint P d = some k) (hs : tkind P s = some 1) {vx r : AV}
    (hx : TR w G p vx (a.eval x)) (hr : cvInt k vx = some r) : ∃ v, CR w G.Fr r v ∧ ∀ w', Runs P o a w' v w' := by
  simp only [cvInt, Option.map_eq_some_iff] at hr
  obtain ⟨n, hn, rfl⟩ := hr
  obtain ⟨k', he⟩ := idx_inv hx hn
  refine ⟨_, .int _ _, fun w' => ?_⟩
  have h2 : ∃ d', P.underlying s = some d' := by
    cases hu : P.underlying s with
    | none => simp [tkind, hu] at hs
    | some d' => exact ⟨d', rfl⟩
  obtain ⟨d', hd'⟩ := h2
  simp [Runs, execOp, ho, he, convert, run_underlying hd', run_underlying (tint_inv hk), Conv.intToInt]

theorem runs_convSS {s d : TypeId} {x : Operand} (ho : o.op = .convert s d x) (hs : tkind P s = some 2) (hd : tkind P d = some 2) {vx r : AV}
    (hx : TR w G p vx (a.eval x)) (hr : cvSS vx = some r) : ∃ v, CR w G.Fr r v ∧ ∀ w', Runs P o a w' v w' := by
  cases vx <;> simp [cvSS] at hr
  subst hr
  obtain ⟨s', he, hl⟩ := TR_str hx
  refine ⟨_, .str s' _ hl, fun w' => ?_⟩
  simp [Runs, execOp, ho, he, convert, run_underlying (tkind_2 hs), run_underlying (tkind_2 hd)]

theorem runs_iface {t : TypeId} {x : Operand} (ho : o.op = .makeInterface t x) {kd : Nat} (hk : tkind P t = some kd) (h5 : kd ≠ 5) {v : Value} (hx : a.eval x = v) :
    ∀ w', Runs P o a w' (.iface t v) w' := by
  intro w'
  have : ∃ d', P.underlying t = some d' ∧ ∀ ms, d' ≠ .interface ms := by
    cases hu : P.underlying t with
    | none => simp [tkind, hu] at hk
    | some d' => exact ⟨d', rfl, fun ms e => by subst e; simp [tkind, hu] at hk; exact h5 hk.symm⟩
  obtain ⟨d', hd', hne⟩ := this
  have : (Instr.makeInterface t v).run P w' = .ok (.iface t v) w' := by
    unfold Instr.makeInterface
    rw [Sem.run_bind, run_underlying hd', Result.andThen_ok]
    cases d' <;> first | rfl | exact absurd rfl (hne _)
  simp [Runs, execOp, ho, hx, this]

theorem runs_fieldAddr {t : TypeId} {x : Operand} {i : Nat} (ho : o.op = .fieldAddr t x i) {off n : Nat} {u : TypeId} (hf : foff P t i = some (off, u)) (hn : tsize P u = some n) (h0 : n ≠ 0) {ad : Addr}
    (hx : a.eval x = .pointer (some ad)) : ∀ w', Runs P o a w' (.pointer (some (ad.add off))) w' := by
  intro w'
  obtain ⟨fs, f, hu, hfi, rfl, rfl⟩ := foff_inv hf
  simp [Runs, execOp, ho, hx, Instr.fieldAt, run_underlying hu, hfi, Instr.sureAddr, fieldPlace, run_sizeOf' hn, h0]

theorem runs_field {t : TypeId} {x : Operand} {i : Nat} (ho : o.op = .field t x i) {off n : Nat} {u : TypeId} {ag : Bool} (hf : foff P t i = some (off, u)) (ha : tagg P u = some ag) (hn : tsize P u = some n) {vx r : AV}
    (hx : TR w G p vx (a.eval x)) (hr : aPart ag n off vx = some r) : ∃ v, CR w G.Fr r v ∧ ∀ w', Runs P o a w' v w' := by
  obtain ⟨fs, f, hu, hfi, rfl, rfl⟩ := foff_inv hf
  unfold aPart at hr
  split at hr
  · rename_i xs
    obtain ⟨vs, he, hc⟩ := TR_agg hx
    cases hc with
    | agg _ _ hl hone hr' =>
    cases ag with
    | true =>
      simp only [if_true] at hr
      split at hr
      · rename_i hle
        injection hr with hr; subst hr
        refine ⟨.agg (vs.extract f.offset (f.offset + n)), ?_, fun w' => ?_⟩
        · refine .agg _ _ (by simp; omega) (fun i h => ?_) (fun i h h' => ?_)
          · simp at h ⊢; exact hone _ (by omega)
          · simp at h h' ⊢; exact hr' _ (by omega) (by omega)
        · simp [Runs, execOp, ho, he, Instr.field, run_underlying hu, hfi, asAgg, part, run_isAgg_true ha, run_sizeOf' hn]
      · cases hr
    | false =>
      simp only [Bool.false_eq_true, if_false] at hr
      have hlt : f.offset < xs.length := (List.getElem?_eq_some_iff.1 hr).1
      have hxe : xs[f.offset] = r := (List.getElem?_eq_some_iff.1 hr).2
      have hlt' : f.offset < vs.size := by omega
      refine ⟨vs[f.offset], by rw [← hxe]; exact hr' _ hlt hlt', fun w' => ?_⟩
      simp [Runs, execOp, ho, he, Instr.field, run_underlying hu, hfi, asAgg, part, run_isAgg_false ha, hlt']
  · cases hr

theorem runs_extract {t : Nat} {i : Nat} (ho : o.op = .extract (.tmp t) i) {vs : Array Value} (hx : a.eval (.tmp t) = .tuple vs) {v : Value} (hv : vs[i]? = some v) : ∀ w', Runs P o a w' v w' := by
  intro w'
  simp [Runs, execOp, ho, hx, Instr.extract, hv]

theorem arr1 {α : Type} {l : Array α} {x : α} (h : l.toList = [x]) : l = #[x] := by rw [← Array.toArray_toList (xs := l), h]
theorem arr2 {α : Type} {l : Array α} {x y : α} (h : l.toList = [x, y]) : l = #[x, y] := by rw [← Array.toArray_toList (xs := l), h]

theorem runs_len {args : Array Operand} {ats : Array TypeId} {x : Operand} {t : TypeId} {s : Bool} (ho : o.op = .call ⟨.builtin .len, args, ats⟩) (h1 : args.toList = [x]) (h2 : ats.toList = [t])
    (hk : tkind P t = some (if s then 2 else 3)) {vx r : AV} (hx : TR w G p vx (a.eval x)) (hr : aLen s vx = some r) : ∃ v, CR w G.Fr r v ∧ ∀ w', Runs P o a w' v w' := by
  obtain rfl := arr1 h1
  obtain rfl := arr1 h2
  unfold aLen at hr
  split at hr
  · injection hr with hr; subst hr
    obtain ⟨s', he, hl⟩ := TR_str hx
    refine ⟨_, .int _ _, fun w' => ?_⟩
    have hu := tkind_2 (by simpa using hk)
    have hsz : (s'.size : Int) = (List.length s'.data.toList : Int) := by rw [size_list]
    rw [← hl, ← hsz]
    simp [Runs, execOp, ho, resolve, invoke, builtin, Builtin.len_, he, run_underlying hu, goInt]
  · injection hr with hr; subst hr
    obtain ⟨oo, m, cap, he, hm, _⟩ := TR_slice hx
    obtain ⟨e, hu⟩ := tkind_3 (by simpa using hk)
    refine ⟨_, .int _ _, fun w' => ?_⟩
    rw [← hm]
    simp [Runs, execOp, ho, resolve, invoke, builtin, Builtin.len_, he, run_underlying hu, goInt]
  · injection hr with hr; subst hr
    obtain ⟨cap, ad, th, _, he, _⟩ := TR_hsl hx
    obtain ⟨e, hu⟩ := tkind_3 (by simpa using hk)
    refine ⟨_, .int _ _, fun w' => ?_⟩
    simp [Runs, execOp, ho, resolve, invoke, builtin, Builtin.len_, he, run_underlying hu, goInt]
  · cases hr

theorem runs_indexStr {t : TypeId} {x i : Operand} (ho : o.op = .index t x i) (hk : tkind P t = some 2) {vx vi r : AV} (hx : TR w G p vx (a.eval x)) (hi : TR w G q vi (a.eval i))
    (hr : ixStr vx vi = some r) : ∃ v, CR w G.Fr r v ∧ ∀ w', Runs P o a w' v w' := by
  unfold ixStr at hr
  split at hr
  · rename_i s k n
    split at hr
    · rename_i h0
      rw [Option.map_eq_some_iff] at hr
      obtain ⟨b, hb, rfl⟩ := hr
      obtain ⟨s', he, rfl⟩ := TR_str hx
      refine ⟨_, .int _ _, fun w' => ?_⟩
      have hlt : n.toNat < s'.data.toList.length := (List.getElem?_eq_some_iff.1 hb).1
      have hlt' : n.toNat < s'.size := by rw [size_list]; exact hlt
      have hb' : s'[n.toNat] = b := by
        have := (List.getElem?_eq_some_iff.1 hb).2
        rw [← this]; rfl
      simp [Runs, execOp, ho, he, TR_int hi, Instr.index, asIntOf, run_underlying (tkind_2 hk), h0, getElem?_pos, hlt', hb']
    · cases hr
  · cases hr

theorem run_bound {c : BoundsCode} {y : Nat} {k : IntKind} {n : Int} (h0 : 0 ≤ n) (h1 : n ≤ y) (w : World) : (Instr.sliceBound (.int k n) y c).run P w = .ok n.toNat w := by
  unfold Instr.sliceBound
  simp [asIntOf, h0, h1]

def BoundIs (a : Act) (x : Option Operand) (d : Option Int) (v : Int) : Prop :=
  match x with
  | none => d = some v
  | some x => ∃ k, a.eval x = .int k v

theorem run_bounds {isS : Bool} {len cap : Nat} {lo hi : Option Operand} {l h : Int}
    (hl : BoundIs a lo (some 0) l) (hh : BoundIs a hi (some (len : Int)) h)
    (h0 : 0 ≤ l) (h1 : l ≤ h) (h2 : h ≤ len) (h3 : len ≤ cap) (w : World) :
    (Instr.sliceBounds isS len cap (lo.map a.eval) (hi.map a.eval) none).run P w = .ok (l.toNat, h.toNat, cap) w := by
  unfold Instr.sliceBounds
  cases lo with
  | none =>
    simp only [BoundIs, Option.some.injEq] at hl; subst hl
    cases hi with
    | none => simp only [BoundIs, Option.some.injEq] at hh; subst hh; simp
    | some y => obtain ⟨k, hy⟩ := hh; simp [hy, run_bound (P := P) (c := if isS then .sliceAcap else .sliceAlen) (y := cap) (k := k) (n := h) (by omega) (by omega)]
  | some x =>
    obtain ⟨k, hx⟩ := hl
    cases hi with
    | none => simp only [BoundIs, Option.some.injEq] at hh; subst hh; simp [hx, run_bound (P := P) (c := .sliceB) (y := len) (k := k) (n := l) (by omega) (by omega)]
    | some y => obtain ⟨k', hy⟩ := hh; simp [hx, hy, run_bound (P := P) (c := if isS then .sliceAcap else .sliceAlen) (y := cap) (k := k') (n := h) (by omega) (by omega), run_bound (P := P) (c := .sliceB) (y := h.toNat) (k := k) (n := l) (by omega) (by omega)]

theorem run_bounds' {len cap : Nat} {lo hi : Option Operand} {l h : Int}
    (hl : BoundIs a lo (some 0) l) (hh : BoundIs a hi (some (len : Int)) h)
    (h0 : 0 ≤ l) (h1 : l ≤ h) (h2 : h ≤ cap) (h3 : len ≤ cap) (w : World) :
    (Instr.sliceBounds true len cap (lo.map a.eval) (hi.map a.eval) none).run P w = .ok (l.toNat, h.toNat, cap) w := by
  unfold Instr.sliceBounds
  cases lo with
  | none =>
    simp only [BoundIs, Option.some.injEq] at hl; subst hl
    cases hi with
    | none => simp only [BoundIs, Option.some.injEq] at hh; subst hh; simp
    | some y => obtain ⟨k, hy⟩ := hh; simp [hy, run_bound (P := P) (c := .sliceAcap) (y := cap) (k := k) (n := h) (by omega) (by omega)]
  | some x =>
    obtain ⟨k, hx⟩ := hl
    cases hi with
    | none => simp only [BoundIs, Option.some.injEq] at hh; subst hh; simp [hx, run_bound (P := P) (c := .sliceB) (y := len) (k := k) (n := l) (by omega) (by omega)]
    | some y => obtain ⟨k', hy⟩ := hh; simp [hx, hy, run_bound (P := P) (c := .sliceAcap) (y := cap) (k := k') (n := h) (by omega) (by omega), run_bound (P := P) (c := .sliceB) (y := h.toNat) (k := k) (n := l) (by omega) (by omega)]

theorem bound_inv {w0 : World} {F0 : FT} {A : Nat → Prop} {n : Nat} {st : St} (h : SR w0 F0 A n st a w G) {x : Option Operand} {ax : Option AX} (hx : pOpt x = some ax) {d : Option Int} {v : Int}
    (hv : bound st ax d = some v) : BoundIs a x d v := by
  cases x with
  | none => simp [pOpt] at hx; subst hx; exact hv
  | some x =>
    simp only [pOpt, Option.map_eq_some_iff] at hx
    obtain ⟨y, hy, rfl⟩ := hx
    obtain ⟨p, hp⟩ := h.peekX hy
    exact idx_inv hp hv

theorem runs_sliceStr {t : TypeId} {x : Operand} {lo hi : Option Operand} (ho : o.op = .slice t x lo hi none) (hk : tkind P t = some 2) {vx r : AV} {l h : Option Int} (hx : TR w G p vx (a.eval x))
    (hl : ∀ v, l = some v → BoundIs a lo (some 0) v) (hh : ∀ v, h = some v → BoundIs a hi (lenV vx) v)
    (hr : slStr vx l h = some r) : ∃ v, CR w G.Fr r v ∧ ∀ w', Runs P o a w' v w' := by
  unfold slStr at hr
  split at hr
  · rename_i s l' h' 
    split at hr
    · rename_i hb
      injection hr with hr; subst hr
      obtain ⟨s', he, rfl⟩ := TR_str hx
      have hlen : (s'.data.toList.length : Int) = s'.size := by rw [size_list]
      have hb1 := hb.1; have hb2 := hb.2.1; have hb3 := hb.2.2
      have hh' := hh _ rfl
      simp only [lenV, hlen] at hh'
      refine ⟨.string (s'.extract l'.toNat h'.toNat), .str _ _ ?_, fun w' => ?_⟩
      · rw [ByteArray.data_extract, Array.toList_extract, List.extract_eq_take_drop]
      · have := run_bounds (P := P) (a := a) (isS := false) (len := s'.size) (cap := s'.size) (hl _ rfl) hh' hb1 hb2 (by omega) (Nat.le_refl _) w'
        simp [Runs, execOp, ho, he, Instr.sliceAt, Instr.slice, run_underlying (tkind_2 hk), this]
    · cases hr
  · cases hr

theorem add_off (ad : Addr) (hs : ad.spot = none) (k : Nat) : ad.add k = ⟨ad.block, ad.off + k, none⟩ := by
  cases ad with
  | mk b o s => simp at hs; subst hs; unfold Addr.add; split <;> simp_all

theorem CR_frz_nil {F : FT} {e sz n cap : Nat} {ad : Addr} {xs : List AV} (h0 : xs = []) (hz : 0 < sz) (hl : xs.length = n * sz) (hc : n ≤ cap) : CR w F (.slice .frz e sz xs) (.slice (some ad) n cap) := by
  subst h0
  exact .frz e sz n cap ad [] (fun _ => undef) (fun h => absurd h (by simp)) hz hl hc (fun i hi => absurd hi (by simp)) (fun i hi => absurd hi (by simp)) (fun i hi => absurd hi (by simp)) (fun i hi => absurd hi (by simp))

theorem runs_sliceSl {t e : TypeId} {sz by' : Nat} {x : Operand} {lo hi : Option Operand} (ho : o.op = .slice t x lo hi none) (ht : telem P t = some (e, sz, by')) {vx r : AV} {l h : Option Int} (hx : TR w G p vx (a.eval x))
    (hown : vx.isOwn = false) (hl : ∀ v, l = some v → BoundIs a lo (some 0) v) (hh : ∀ v, h = some v → BoundIs a hi (lenV vx) v)
    {hp : H} (hroom : ∀ i to, roomTo hp i to = true → ∃ t, G.Fr.θ i = some t ∧ t.r = true ∧ to ≤ t.N) (hr : slSl hp sz vx l h = some r) : ∃ v, CR w G.Fr r v ∧ ∀ w', Runs P o a w' v w' := by
  obtain ⟨hu, i, z, hi', hz, hisz, _, _, hpos⟩ := telem_inv ht
  have hsize : tsize P e = some sz := by simp [tsize, hi', hisz]
  unfold slSl at hr
  split at hr
  · rename_i c e' sz' xs l' h'
    split at hr
    · rename_i hb
      injection hr with hr; subst hr
      obtain ⟨hb1, hb2, hb3, hb4⟩ := hb
      have hc := CR_of_TC (TC_of_TR hx rfl) hown
      have hl' := hl _ rfl
      have hh' := hh _ rfl
      simp only [lenV] at hh'
      generalize hv : a.eval x = v at hc
      cases hc with
      | nil =>
        simp only [List.length_nil, Nat.zero_div] at hb3 hh'
        have e1 : h' = 0 := by omega
        have e2 : l' = 0 := by omega
        subst e1; subst e2
        refine ⟨.slice none 0 0, by simpa using CR.nil _ _, fun w' => ?_⟩
        have := run_bounds (P := P) (a := a) (isS := true) (len := 0) (cap := 0) hl' hh' (by omega) (by omega) (by omega) (Nat.le_refl _) w'
        simp [Runs, execOp, ho, hv, Instr.sliceAt, Instr.slice, run_underlying hu, this, run_sizeOf' hsize]
      | frz _ _ n cap ad _ vs hs hz' hlen hc' hp hcell hone hcr =>
        have hn : xs.length / sz' = n := by rw [hlen, Nat.mul_div_cancel _ hz']
        rw [hn] at hb3 hh'
        have hsz : sz' = sz := by rcases hb4 with h | h; { cases h }; { exact h }
        subst hsz
        have hrun := run_bounds (P := P) (a := a) (isS := true) (len := n) (cap := cap) hl' hh' hb1 hb2 hb3 hc'
        have hmul : (h'.toNat - l'.toNat) * sz' = h'.toNat * sz' - l'.toNat * sz' := Nat.sub_mul _ _ _
        have hle : h'.toNat * sz' ≤ n * sz' := Nat.mul_le_mul_right _ (by omega)
        have hle2 : l'.toNat * sz' ≤ h'.toNat * sz' := Nat.mul_le_mul_right _ (by omega)
        refine ⟨.slice (some (if cap = l'.toNat then ad else ad.add (l'.toNat * sz'))) (h'.toNat - l'.toNat) (cap - l'.toNat), ?_, fun w' => ?_⟩
        · have hlen2 : ((xs.drop (l'.toNat * sz')).take ((h'.toNat - l'.toNat) * sz')).length = (h'.toNat - l'.toNat) * sz' := by
            rw [List.length_take, List.length_drop, hlen]; omega
          by_cases hcl : (h'.toNat - l'.toNat) * sz' = 0
          · exact CR_frz_nil (List.eq_nil_of_length_eq_zero (by rw [hlen2]; exact hcl)) hz' hlen2 (by omega)
          · have hcap : ¬ cap = l'.toNat := fun e => hcl (by rw [show h'.toNat - l'.toNat = 0 by omega]; simp)
            have hs := hs (by omega)
            rw [if_neg hcap, add_off ad hs]
            refine .frz _ _ _ _ ⟨ad.block, ad.off + l'.toNat * sz', none⟩ _ (fun i => vs (l'.toNat * sz' + i)) (fun _ => rfl) hz' hlen2 (by omega) (fun i hi => by rw [hlen2] at hi; have := hp (l'.toNat * sz' + i) (by omega); simp only; omega) (fun i hi => ?_) (fun i hi => ?_) (fun i hi => ?_)
            · rw [hlen2] at hi
              have := hcell (l'.toNat * sz' + i) (by omega)
              rw [← Nat.add_assoc] at this; exact this
            · rw [hlen2] at hi; exact hone _ (by omega)
            · have hi2 := hi; rw [hlen2] at hi2
              have := hcr (l'.toNat * sz' + i) (by omega)
              simpa using this
        · simp [Runs, execOp, ho, hv, Instr.sliceAt, Instr.slice, run_underlying hu, hrun, run_sizeOf' hsize]
          split <;> rfl
      | hdr _ _ n cap ad _ hz' hlen hc' =>
        have hn : xs.length / sz' = n := by rw [hlen, Nat.mul_div_cancel _ hz']
        rw [hn] at hb3 hh'
        have hsz : sz' = sz := by rcases hb4 with h | h; { cases h }; { exact h }
        subst hsz
        have hrun := run_bounds (P := P) (a := a) (isS := true) (len := n) (cap := cap) hl' hh' hb1 hb2 hb3 hc'
        have hmul : (h'.toNat - l'.toNat) * sz' = h'.toNat * sz' - l'.toNat * sz' := Nat.sub_mul _ _ _
        have hle : h'.toNat * sz' ≤ n * sz' := Nat.mul_le_mul_right _ (by omega)
        have hle2 : l'.toNat * sz' ≤ h'.toNat * sz' := Nat.mul_le_mul_right _ (by omega)
        have hlen2 : ((xs.drop (l'.toNat * sz')).take ((h'.toNat - l'.toNat) * sz')).length = (h'.toNat - l'.toNat) * sz' := by
          rw [List.length_take, List.length_drop, hlen]; omega
        refine ⟨.slice (some (if cap = l'.toNat then ad else ad.add (l'.toNat * sz'))) (h'.toNat - l'.toNat) (cap - l'.toNat), .hdr _ _ _ _ _ _ hz' hlen2 (by omega), fun w' => ?_⟩
        simp [Runs, execOp, ho, hv, Instr.sliceAt, Instr.slice, run_underlying hu, hrun, run_sizeOf' hsize]
        split <;> rfl
    · cases hr
  · rename_i i' k' e' sz' n' l' h'
    split at hr
    · rename_i hb
      injection hr with hr; subst hr
      obtain ⟨hb1, hb2, hb30, rfl⟩ := hb
      obtain ⟨cap, ad, th, hat, hv, hz', hmc, ha⟩ := TR_hsl hx
      have hl' := hl _ rfl
      have hh' := hh _ rfl
      simp only [lenV] at hh'
      have hb3 : h' ≤ (cap : Int) := by
        rcases hb30 with hb3 | ⟨hk0, hrm⟩
        · omega
        · obtain ⟨t2, g1, g2, g3⟩ := hroom _ _ hrm
          have hat' : G.Fr.θ i' = some th := hat
          rw [hat'] at g1; injection g1 with g1; subst g1
          have hN := (ha hk0).2 g2
          rw [← hN] at g3
          have : h'.toNat * sz' ≤ cap * sz' := by omega
          have := Nat.le_of_mul_le_mul_right this hz'
          omega
      have hk1 : l'.toNat = 0 → 0 < h'.toNat - l'.toNat → k' = 0 ∨ 0 < n' := fun e1 e2 => by
        rcases hb30 with hb3 | ⟨hk0, _⟩
        · right; omega
        · exact hk0
      have hk2 : 0 < h'.toNat → 0 < n' ∨ k' = 0 := fun e2 => by
        rcases hb30 with hb3 | ⟨hk0, _⟩
        · left; omega
        · exact hk0.symm
      have hrun := run_bounds' (P := P) (a := a) (len := n') (cap := cap) hl' hh' hb1 hb2 hb3 hmc
      refine ⟨.slice (some (if cap = l'.toNat then ad else ad.add (l'.toNat * sz'))) (h'.toNat - l'.toNat) (cap - l'.toNat), ?_, fun w' => ?_⟩
      · refine .hsl _ _ _ _ _ _ _ th hat hz' (by omega) (fun hh2 => ?_)
        by_cases hl0 : l'.toNat = 0
        · rw [hl0] at hh2 ⊢
          simp only [Nat.zero_mul, Nat.add_zero, Nat.sub_zero] at hh2 ⊢
          have e1 : (if cap = 0 then ad else ad.add 0) = ad := by split <;> simp [Addr.add]
          rw [e1]
          rcases hh2 with h | h
          · exact ha (.inl h)
          · exact ha ((hk1 hl0 (by omega)))
        · have hpos : 0 < h'.toNat - l'.toNat := by
            rcases hh2 with h | h
            · have : 0 < l'.toNat * sz' := Nat.mul_pos (by omega) hz'
              omega
            · exact h
          obtain ⟨rfl, hN⟩ := ha ((hk2 (by omega)).symm)
          have hcl : ¬ cap = l'.toNat := by omega
          rw [if_neg hcl, add_off _ rfl]
          refine ⟨rfl, fun hr => ?_⟩
          have := hN hr
          rw [← this, Nat.sub_mul]
          have : l'.toNat * sz' ≤ cap * sz' := Nat.mul_le_mul_right _ (by omega)
          omega
      · simp [Runs, execOp, ho, hv, Instr.sliceAt, Instr.slice, run_underlying hu, hrun, run_sizeOf' hsize]
        split <;> rfl
    · cases hr
  · cases hr

theorem runs_indexAddr {t e : TypeId} {sz by' : Nat} {x i : Operand} (ho : o.op = .indexAddr t x i) (ht : telem P t = some (e, sz, by')) {vx vi r : AV} (hx : TR w G p vx (a.eval x)) (hi : TR w G q vi (a.eval i))
    (hr : ixV sz vx vi = some r) : ∃ v, CR w G.Fr r v ∧ ∀ w', Runs P o a w' v w' := by
  obtain ⟨hu, ii, z, hi', hz, hisz, _, _, hpos⟩ := telem_inv ht
  have hsize : tsize P e = some sz := by simp [tsize, hi', hisz]
  unfold ixV at hr
  split at hr
  · rename_i c e' sz' xs k n
    split at hr
    · rename_i hb
      obtain ⟨rfl, rfl, h0, hn⟩ := hb
      injection hr with hr; subst hr
      have hc := CR_of_TC (TC_of_TR hx rfl) rfl
      generalize hv : a.eval x = v at hc
      cases hc with
      | frz _ _ m cap ad _ vs hs hz' hlen hc' hp hcell hone hcr =>
        have hm : xs.length / sz' = m := by rw [hlen, Nat.mul_div_cancel _ hz']
        rw [hm] at hn
        have hle : n.toNat * sz' + sz' ≤ m * sz' := by rw [← Nat.succ_mul]; exact Nat.mul_le_mul_right _ (by omega)
        have hs := hs (by omega)
        refine ⟨.pointer (some (ad.add (n.toNat * sz'))), ?_, fun w' => ?_⟩
        · rw [add_off ad hs]
          refine .eptr ⟨ad.block, ad.off + n.toNat * sz', none⟩ _ (fun i => vs (n.toNat * sz' + i)) rfl (fun i hi => ?_) (fun i hi => ?_) (fun i hi => ?_) (fun i hi => ?_)
          · simp only [List.length_drop] at hi; have := hp (n.toNat * sz' + i) (by omega); simp only; omega
          · have := hcell (n.toNat * sz' + i) (by simp at hi; omega)
            rw [← Nat.add_assoc] at this; exact this
          · exact hone _ (by simp at hi; omega)
          · have := hcr (n.toNat * sz' + i) (by simp at hi; omega)
            simpa using this
        · simp [Runs, execOp, ho, hv, TR_int hi, Instr.indexAt, asIntOf, run_underlying hu, h0, hn, run_sizeOf' hsize]
    · cases hr
  · rename_i i' k' e' sz' m k n
    split at hr
    · rename_i hb
      obtain ⟨rfl, h0, hn⟩ := hb
      injection hr with hr; subst hr
      obtain ⟨cap, ad, th, hat, hv, hz', hmc, ha⟩ := TR_hsl hx
      obtain ⟨rfl, _⟩ := ha (.inr (by omega))
      refine ⟨.pointer (some ((⟨th.b, k', none⟩ : Addr).add (n.toNat * sz'))), ?_, fun w' => ?_⟩
      · rw [add_off _ rfl]; exact .ref _ _ th hat
      · simp [Runs, execOp, ho, hv, TR_int hi, Instr.indexAt, asIntOf, run_underlying hu, h0, hn, run_sizeOf' hsize]
    · cases hr
  · cases hr

theorem bytesOf_int : ∀ {xs : List AV} {l : List UInt8}, bytesOf xs = some l → ∃ ns : List Int, xs = ns.map (AV.int .u8) ∧ l = ns.map (fun n => UInt8.ofNat n.toNat)
  | [], l, h => by simp [bytesOf] at h; subst h; exact ⟨[], rfl, rfl⟩
  | x :: xs, l, h => by
    unfold bytesOf at h
    split at h
    · cases ‹_ :: _ = _›
    · rename_i n r heq
      injection heq with h1 h2
      subst h1; subst h2
      rw [Option.map_eq_some_iff] at h
      obtain ⟨l', hl', rfl⟩ := h
      obtain ⟨ns, h1, h2⟩ := bytesOf_int hl'
      exact ⟨n :: ns, by simp [h1], by simp [h2]⟩
    · cases h

theorem foldl_push (ns : List Int) : ∀ (s : ByteArray), (ns.foldl (fun r n => r.push (UInt8.ofNat n.toNat)) s).data.toList = s.data.toList ++ ns.map (fun n => UInt8.ofNat n.toNat) := by
  induction ns with
  | nil => intro s; simp
  | cons n ns ih => intro s; rw [List.foldl_cons, ih]; simp [ByteArray.push]

theorem runs_convBS {s d e : TypeId} {by' : Nat} {x : Operand} (ho : o.op = .convert s d x) (hs : telem P s = some (e, 1, by')) (he : tint P e = some .u8) (hd : tkind P d = some 2) {vx r : AV}
    (hx : TR w G p vx (a.eval x)) (hown : vx.isOwn = false) {st : St} (hh : HR w G st.h) (hr : cvBS st.h vx = some r) : ∃ v, CR w G.Fr r v ∧ ∀ w', Pres st.at G w w' → Runs P o a w' v w' := by
  obtain ⟨hu, _⟩ := telem_inv hs
  unfold cvBS at hr
  split at hr
  · rename_i c e' xs
    split at hr
    · cases hr
    · rename_i hc
      rw [Option.map_eq_some_iff] at hr
      obtain ⟨l, hl, rfl⟩ := hr
      obtain ⟨ns, rfl, rfl⟩ := bytesOf_int hl
      have hC := CR_of_TC (TC_of_TR hx rfl) hown
      obtain ⟨oo, n, cap, hv, hn, _⟩ := TR_slice hx
      rw [hv] at hC
      have hrun : ∀ v w', (Conv.bytesToString (.slice oo n cap)).run P w' = .ok v w' → Runs P o a w' v w' := by
        intro v w' h
        have h2 := run_convert_bytes_string (P := P) w' s d e oo n cap hu (tint_inv he) (tkind_2 hd)
        simp only [Runs, execOp, ho, hv, Sem.run_bind, h2, h, Result.andThen_ok, Sem.run_pure]
      cases c with
      | nil =>
        have hns : ns = [] := by
          generalize hys : ns.map (AV.int .u8) = ys at hC
          cases hC; simpa using hys
        subst hns
        generalize hys : ([] : List Int).map (AV.int .u8) = ys at hC
        cases hC
        exact ⟨.string .empty, .str _ _ rfl, fun w' _ => hrun _ w' rfl⟩
      | own f => simp [AV.isOwn] at hown
      | hdr => exact absurd rfl hc
      | frz =>
        generalize hys : ns.map (AV.int .u8) = ys at hC
        cases hC with
        | frz _ _ _ _ ad _ vs hsp hz hlen hcap hp hcell hone hcr =>
        subst hys
        have hlen' : ns.length = n := by simpa using hlen
        refine ⟨.string (ns.foldl (fun r n => r.push (UInt8.ofNat n.toNat)) .empty), .str _ _ (by rw [foldl_push]; simp), fun w' hw' => ?_⟩
        have hload : (loadCells ad n).run P w' = .ok (ns.map (Value.int .u8)).toArray w' := by
          have := run_loadCells_list (P := P) w' ad (ns.map (Value.int .u8)) (fun j v hj => by
            have hj' : j < ns.length := by simpa using (List.getElem?_eq_some_iff.1 hj).1
            have h1 := hw'.cell _ _ _ (hp j (by simpa using hj')) (hcell j (by simpa using hj'))
            have h2 := hcr j (by simpa using hj')
            rw [add_off ad (hsp (by simp; omega)), h1]
            have h3 : (ns.map (AV.int .u8))[j]'(by simpa using hj') = .int .u8 ns[j] := by simp
            rw [h3] at h2
            have h4 : vs j = .int .u8 ns[j] := TR_int (p := p) (TR_of_CR h2)
            rw [h4, ← hj]; simp [List.getElem?_eq_getElem hj'])
          rw [List.length_map, hlen'] at this
          exact this
        exact hrun _ w' (run_bytesToString w' ad n cap ns hload)
  · rename_i i' k' e' n'
    simp only [Option.bind_eq_some_iff, Option.map_eq_some_iff] at hr
    obtain ⟨xs, hxs, l, hl, rfl⟩ := hr
    obtain ⟨ns, rfl, rfl⟩ := bytesOf_int hl
    obtain ⟨ad, cap, vs, hv, _, _, hlen, hsp, hcell, _, hcr⟩ := hcells_sound hh hx (by rw [Nat.mul_one]; exact hxs)
    have hlen' : ns.length = n' := by simpa using hlen
    refine ⟨.string (ns.foldl (fun r n => r.push (UInt8.ofNat n.toNat)) .empty), .str _ _ (by rw [foldl_push]; simp), fun w' hw' => ?_⟩
    have hload : (loadCells ad n').run P w' = .ok (ns.map (Value.int .u8)).toArray w' := by
      have := run_loadCells_list (P := P) w' ad (ns.map (Value.int .u8)) (fun j v hj => by
        have hj' : j < ns.length := by simpa using (List.getElem?_eq_some_iff.1 hj).1
        have h1 := hcell j (by simpa using hj') w' hw'
        have h2 := hcr j (by simpa using hj')
        rw [add_off ad (hsp (by simp; omega)), h1]
        have h3 : (ns.map (AV.int .u8))[j]'(by simpa using hj') = .int .u8 ns[j] := by simp
        rw [h3] at h2
        have h4 : vs j = .int .u8 ns[j] := TR_int (p := p) (TR_of_CR h2)
        rw [h4, ← hj]; simp [List.getElem?_eq_getElem hj'])
      rw [List.length_map, hlen'] at this
      exact this
    have h2 := run_convert_bytes_string (P := P) w' s d e (some ad) n' cap hu (tint_inv he) (tkind_2 hd)
    simp only [Runs, execOp, ho, hv, Sem.run_bind, h2, run_bytesToString w' ad n' cap ns hload, Result.andThen_ok, Sem.run_pure]
  · cases hr

end Go.Proofs.YtjlioidknhdceaaDoor.Abs
