/- The operations that read their operands alone, run by the machine. -/
import Derived.Test.YtjlioidknhdceaaDoorA16
import Derived.KernelRfl
import Derived.Lib.BytesEntry
import Derived.ChangeKeysEq
namespace Go.Proofs.YtjlioidknhdceaaDoor.Abs
set_option linter.all false
set_option linter.unusedVariables false

variable {P : Program} {sg : FuncId → Nat → Nat} {hs : Nat → Nat} {w w' : World} {G G' : Gh} {a : Act} {o : Oper}
variable {w0 : World} {F0 : FT} {A : Nat → Prop} {n : Nat} {st : St} {β : Type}

theorem tarr_inv {t e : TypeId} {k sz : Nat} (h : tarr P t = some (k, e, sz)) : P.underlying t = some (.array k e) ∧ tsize P e = some sz := by
  unfold tarr at h
  split at h
  · rename_i k' e' hu
    simp only [Option.map_eq_some_iff] at h
    obtain ⟨i, hi, h⟩ := h
    injection h with h1 h; injection h with h2 h3
    subst h1; subst h2; subst h3
    exact ⟨hu, by simp [tsize, hi]⟩
  · cases h

theorem eptr_drop {F : FT} {ad : Addr} {ys : List AV} (hC : CR w F (.eptr ys) (.pointer (some ad))) (k : Nat) : CR w F (.eptr (ys.drop k)) (.pointer (some (ad.add k))) := by
  cases hC with
  | eptr _ _ vs hs hp hv ho hr =>
    rw [add_off _ hs]
    refine .eptr _ _ (fun i => vs (k + i)) rfl (fun i hi => ?_) (fun i hi => ?_) (fun i hi => ho _ (by simp at hi; omega)) (fun i hi => ?_)
    · simp only [Nat.add_assoc]; exact hp (k + i) (by simp at hi; omega)
    · simp only [Nat.add_assoc]; exact hv (k + i) (by simp at hi; omega)
    · have := hr (k + i) (by simp at hi; omega)
      simpa using this

theorem run_indexArr {t e : TypeId} {k sz : Nat} (ht : tarr P t = some (k, e, sz)) {ad : Addr} {kd : IntKind} {i : Int} (h0 : 0 ≤ i) (h1 : i < (k : Int)) (w' : World) :
    (Instr.indexAt t (.pointer (some ad)) (.int kd i)).run P w' = .ok (.pointer (some (ad.add (i.toNat * sz)))) w' := by
  obtain ⟨hu, hsz⟩ := tarr_inv ht
  simp [Instr.indexAt, asIntOf, run_underlying hu, Instr.sureAddr, h0, h1, run_sizeOf' hsz]

theorem runs_ixArr (h : SR w0 F0 A n st a w G) {t e : TypeId} {k sz : Nat} {x i : Operand} (ho : o.op = .indexAddr t x i) (ht : tarr P t = some (k, e, sz)) {p q : Nat → Pos} {vx vi r : AV}
    (hx : TR w G p vx (a.eval x)) (hi : TR w G q vi (a.eval i)) (hr : iaV k sz st.h vx vi = some r) : ∃ v, (∀ q, TR w G q r v) ∧ ∀ w', Runs P o a w' v w' := by
  unfold iaV at hr
  split at hr
  · rename_i s off _ j
    split at hr
    · rename_i hb
      injection hr with hr; subst hr
      obtain ⟨t0, h1, h2⟩ := TR_ptr hx
      refine ⟨.pointer (some ((⟨t0.b, off, none⟩ : Addr).add (j.toNat * sz))), fun q => ?_, fun w' => ?_⟩
      rotate_left
      · simp only [Runs, execOp, ho, h2, TR_int hi, Sem.run_bind, run_indexArr ht hb.1 hb.2, Result.andThen_ok, Sem.run_pure]
      · rw [add_off _ rfl]
        cases s with
        | loc s => exact ⟨t0, h1, rfl⟩
        | obj i => exact TR_of_CR (.ref _ _ t0 h1)
    · cases hr
  · split at hr
    · rename_i hb
      injection hr with hr; subst hr
      obtain ⟨ad, h2, hC⟩ := TR_eptr hx
      refine ⟨_, fun q => TR_of_CR (eptr_drop hC _), fun w' => ?_⟩
      simp only [Runs, execOp, ho, h2, TR_int hi, Sem.run_bind, run_indexArr ht hb.1 hb.2, Result.andThen_ok, Sem.run_pure]
    · cases hr
  · split at hr
    · rename_i hb
      simp only [Option.map_eq_some_iff] at hr
      obtain ⟨ys, hg, rfl⟩ := hr
      refine ⟨_, fun q => TR_of_CR (eptr_drop (h.heap.glob _ _ hg) _), fun w' => ?_⟩
      simp only [Runs, execOp, ho, TR_gl hx, TR_int hi, Sem.run_bind, run_indexArr ht hb.1 hb.2, Result.andThen_ok, Sem.run_pure]
    · cases hr
  · cases hr

theorem run_sliceArr {t e : TypeId} {k sz : Nat} (ht : tarr P t = some (k, e, sz)) {ad : Addr} {lo hi : Option Operand} {l u : Int} (hl : BoundIs a lo (some 0) l) (hh : BoundIs a hi (some (k : Int)) u)
    (h0 : 0 ≤ l) (h1 : l ≤ u) (h2 : u ≤ (k : Int)) (w' : World) :
    (Instr.sliceAt t (.pointer (some ad)) (lo.map a.eval) (hi.map a.eval) none).run P w' = .ok (.slice (some (if k = l.toNat then ad else ad.add (l.toNat * sz))) (u.toNat - l.toNat) (k - l.toNat)) w' := by
  obtain ⟨hu, hsz⟩ := tarr_inv ht
  have hb := run_bounds (P := P) (a := a) (isS := false) (len := k) (cap := k) hl hh h0 h1 h2 (Nat.le_refl _) w'
  simp [Instr.sliceAt, run_underlying hu, Instr.sureAddr, hb, run_sizeOf' hsz]

theorem eptr_slice {F : FT} {ad : Addr} {ys : List AV} (hC : CR w F (.eptr ys) (.pointer (some ad))) {k e sz l u : Nat} (hz : 0 < sz) (h1 : l ≤ u) (h2 : u ≤ k) (hle : k * sz ≤ ys.length) :
    CR w F (.slice .frz e sz ((ys.drop (l * sz)).take ((u - l) * sz))) (.slice (some (if k = l then ad else ad.add (l * sz))) (u - l) (k - l)) := by
  cases hC with
  | eptr _ _ vs hs hp hv ho hr =>
    have hmul : (u - l) * sz = u * sz - l * sz := Nat.sub_mul _ _ _
    have e1 : u * sz ≤ k * sz := Nat.mul_le_mul_right _ h2
    have e2 : l * sz ≤ u * sz := Nat.mul_le_mul_right _ h1
    have hlen : ((ys.drop (l * sz)).take ((u - l) * sz)).length = (u - l) * sz := by rw [List.length_take, List.length_drop]; omega
    by_cases hcl : (u - l) * sz = 0
    · exact CR_frz_nil (List.eq_nil_of_length_eq_zero (by rw [hlen]; exact hcl)) hz hlen (by omega)
    · have hk : ¬ k = l := fun e => hcl (by rw [show u - l = 0 by omega]; simp)
      rw [if_neg hk, add_off _ hs]
      refine .frz _ _ _ _ ⟨ad.block, ad.off + l * sz, none⟩ _ (fun i => vs (l * sz + i)) (fun _ => rfl) hz hlen (by omega) (fun i hi => ?_) (fun i hi => ?_) (fun i hi => ?_) (fun i hi => ?_)
      · rw [hlen] at hi; have := hp (l * sz + i) (by omega); simp only; omega
      · rw [hlen] at hi; have := hv (l * sz + i) (by omega); rw [← Nat.add_assoc] at this; exact this
      · rw [hlen] at hi; exact ho _ (by omega)
      · have hi2 := hi; rw [hlen] at hi2
        have := hr (l * sz + i) (by omega)
        simpa using this

theorem pOpt_bound (h : SR w0 F0 A n st a w G) {x : Option Operand} {ax : Option AX} (hx : pOpt x = some ax) {k : IntKind} {d v : Int} {kd : IntKind} (hv : peek st (ax.getD (.c (.int k d))) = .int kd v) : BoundIs a x (some d) v := by
  refine bound_inv h hx ?_
  cases ax with
  | none => simp only [Option.getD_none, peek] at hv; injection hv with _ hv; simp [bound, hv]
  | some y => simp only [Option.getD_some] at hv; simp [bound, hv, aIdx]

theorem runs_slArr (h : SR w0 F0 A n st a w G) {t e : TypeId} {k sz : Nat} {x : Operand} {lo hi : Option Operand} (ho : o.op = .slice t x lo hi none) (ht : tarr P t = some (k, e, sz)) (hz : 0 < sz) {alo ahi : Option AX}
    (hlo : pOpt lo = some alo) (hhi : pOpt hi = some ahi) {p : Nat → Pos} {vx r : AV} (hx : TR w G p vx (a.eval x))
    (hr : saV k e sz st.h vx (peek st (alo.getD (.c (.int .i64 0)))) (peek st (ahi.getD (.c (.int .i64 k)))) = some r) : ∃ v, CR w G.Fr r v ∧ ∀ w', Runs P o a w' v w' := by
  generalize hvl : peek st (alo.getD (.c (.int .i64 0))) = vl at hr
  generalize hvh : peek st (ahi.getD (.c (.int .i64 k))) = vh at hr
  unfold saV at hr
  split at hr
  · rename_i i off _ l _ u
    have hbl := pOpt_bound h hlo hvl
    have hbh := pOpt_bound h hhi hvh
    split at hr
    · rename_i hb
      split at hr
      · rename_i cs hg
        injection hr with hr; subst hr
        obtain ⟨t0, h1, h2⟩ := TR_ptr hx
        obtain ⟨t1, k1, k2, k3, k4⟩ := h.heap.box _ _ hg
        rw [h1] at k1; injection k1 with k1; subst k1
        obtain ⟨_, j2, _⟩ := k4
        refine ⟨.slice (some (if k = l.toNat then ⟨t0.b, off, none⟩ else (⟨t0.b, off, none⟩ : Addr).add (l.toNat * sz))) (u.toNat - l.toNat) (k - l.toNat), ?_, fun w' => ?_⟩
        rotate_left
        · simp only [Runs, execOp, ho, h2, Sem.run_bind, Option.map_none, run_sliceArr ht hbl hbh hb.1 hb.2.1 hb.2.2, Result.andThen_ok, Sem.run_pure]
        · refine .hsl _ _ _ _ _ _ _ t0 h1 hz (by omega) (fun hh => ?_)
          refine ⟨?_, fun hr => by rw [j2] at hr; cases hr⟩
          by_cases hk : k = l.toNat
          · rw [if_pos hk]
            rcases hh with hh | hh
            · have : l.toNat * sz = 0 := by omega
              congr 1; omega
            · omega
          · rw [if_neg hk, add_off _ rfl]
      · cases hr
    · cases hr
  · rename_i ys _ l _ u
    have hbl := pOpt_bound h hlo hvl
    have hbh := pOpt_bound h hhi hvh
    split at hr
    · rename_i hb
      injection hr with hr; subst hr
      obtain ⟨ad, h2, hC⟩ := TR_eptr hx
      refine ⟨_, eptr_slice (k := k) hC hz (by omega) (by omega) hb.2.2.2, fun w' => ?_⟩
      simp only [Runs, execOp, ho, h2, Sem.run_bind, Option.map_none, run_sliceArr ht hbl hbh hb.1 hb.2.1 hb.2.2.1, Result.andThen_ok, Sem.run_pure]
    · cases hr
  · rename_i g _ l _ u
    have hbl := pOpt_bound h hlo hvl
    have hbh := pOpt_bound h hhi hvh
    split at hr
    · rename_i hb
      simp only [Option.bind_eq_some_iff] at hr
      obtain ⟨ys, hg, hr⟩ := hr
      split at hr
      · rename_i hle
        injection hr with hr; subst hr
        refine ⟨_, eptr_slice (k := k) (h.heap.glob _ _ hg) hz (by omega) (by omega) hle, fun w' => ?_⟩
        simp only [Runs, execOp, ho, TR_gl hx, Sem.run_bind, Option.map_none, run_sliceArr ht hbl hbh hb.1 hb.2.1 hb.2.2, Result.andThen_ok, Sem.run_pure]
      · cases hr
    · cases hr
  · cases hr

theorem runs_ixAgg {t e : TypeId} {k sz : Nat} {x i : Operand} (ho : o.op = .index t x i) (ht : tarr P t = some (k, e, sz)) {ag : Bool} (hag : tagg P e = some ag) {p q : Nat → Pos} {vx vi r : AV}
    (hx : TR w G p vx (a.eval x)) (hi : TR w G q vi (a.eval i)) (hr : igV ag k sz sz vx vi = some r) : ∃ v, CR w G.Fr r v ∧ ∀ w', Runs P o a w' v w' := by
  obtain ⟨hu, hsz⟩ := tarr_inv ht
  unfold igV at hr
  split at hr
  · rename_i kd j
    split at hr
    · rename_i hb
      unfold aPart at hr
      split at hr
      · rename_i xs
        obtain ⟨vs, he, hc⟩ := TR_agg hx
        cases hc with
        | agg _ _ hl hone hr' =>
        cases ag with
        | true =>
          simp only [if_true] at hr
          split at hr
          · rename_i hle
            injection hr with hr; subst hr
            refine ⟨.agg (vs.extract (j.toNat * sz) (j.toNat * sz + sz)), ?_, fun w' => ?_⟩
            · refine .agg _ _ (by simp; omega) (fun i h => ?_) (fun i h h' => ?_)
              · simp at h ⊢; exact hone _ (by omega)
              · simp at h h' ⊢; exact hr' _ (by omega) (by omega)
            · simp [Runs, execOp, ho, he, TR_int hi, Instr.index, asIntOf, run_underlying hu, hb.1, hb.2, part, run_isAgg_true hag, run_sizeOf' hsz]
          · cases hr
        | false =>
          simp only [Bool.false_eq_true, if_false] at hr
          have hlt : j.toNat * sz < xs.length := (List.getElem?_eq_some_iff.1 hr).1
          have hxe : xs[j.toNat * sz] = r := (List.getElem?_eq_some_iff.1 hr).2
          have hlt' : j.toNat * sz < vs.size := by omega
          refine ⟨vs[j.toNat * sz], by rw [← hxe]; exact hr' _ hlt hlt', fun w' => ?_⟩
          simp [Runs, execOp, ho, he, TR_int hi, Instr.index, asIntOf, run_underlying hu, hb.1, hb.2, part, run_isAgg_false hag, hlt', run_sizeOf' hsz]
      · cases hr
    · cases hr
  · cases hr

theorem TR_pair {q : Nat → Pos} {x : AV} {v : Value} {b : Bool} (h : CR w G.Fr x v) : TR w G q (.tup [x, .bool b]) (.tuple #[v, .bool b]) := by
  refine ⟨#[v, .bool b], rfl, rfl, fun j hj hj' => ?_⟩
  have : j = 0 ∨ j = 1 := by simp at hj; omega
  rcases this with rfl | rfl
  · exact TC_of_CR h
  · exact TC_of_CR (.bool b)

theorem run_zero {t : TypeId} {i : TypeInfo} {v : Value} (hi : P.info? t = some i) (hv : i.zero = some v) (w' : World) : (zeroValue t).run P w' = .ok v w' := by
  simp [zeroValue, typeInfo, hi, hv]

theorem runs_tassert {x : Operand} {xt t : TypeId} {ok : Bool} (ho : o.op = .typeAssert x xt t ok) {kd : Nat} (hk : tkind P t = some kd) (h5 : kd ≠ 5) {z : AV} (hz : tzero P t = some z) {p : Nat → Pos} {vx r : AV}
    (hx : TR w G p vx (a.eval x)) (hr : taV t z ok vx = some r) : ∃ v, (∀ q, TR w G q r v) ∧ ∀ w', Runs P o a w' v w' := by
  obtain ⟨i, zv, hi, hiz, hof⟩ := tzero_inv hz
  have hzC := ofConst_CR (w := w) (Fr := G.Fr) hof
  have : ∃ d', P.underlying t = some d' ∧ ∀ ms, d' ≠ .interface ms := by
    cases hu : P.underlying t with
    | none => simp [tkind, hu] at hk
    | some d' => exact ⟨d', rfl, fun ms e => by subst e; simp [tkind, hu] at hk; exact h5 hk.symm⟩
  obtain ⟨d', hd', hne⟩ := this
  unfold taV at hr
  split at hr
  · rename_i u v
    obtain ⟨vv, hv, hC⟩ := TR_iface hx
    split at hr
    · rename_i hut
      subst hut
      injection hr with hr; subst hr
      cases ok with
      | true =>
        refine ⟨_, fun q => TR_pair hC, fun w' => ?_⟩
        have : (Instr.typeAssert (.iface u vv) xt u true).run P w' = .ok (.tuple #[vv, .bool true]) w' := by
          unfold Instr.typeAssert
          rw [Sem.run_bind, run_underlying hd', Result.andThen_ok]
          cases d' <;> first | (simp; done) | exact absurd rfl (hne _)
        simp [Runs, execOp, ho, hv, this]
      | false =>
        refine ⟨vv, fun q => TR_of_CR hC, fun w' => ?_⟩
        have : (Instr.typeAssert (.iface u vv) xt u false).run P w' = .ok vv w' := by
          unfold Instr.typeAssert
          rw [Sem.run_bind, run_underlying hd', Result.andThen_ok]
          cases d' <;> first | (simp; done) | exact absurd rfl (hne _)
        simp [Runs, execOp, ho, hv, this]
    · rename_i hut
      split at hr
      · rename_i hok
        subst hok
        injection hr with hr; subst hr
        refine ⟨_, fun q => TR_pair hzC, fun w' => ?_⟩
        have : (Instr.typeAssert (.iface u vv) xt t true).run P w' = .ok (.tuple #[zv, .bool false]) w' := by
          unfold Instr.typeAssert
          rw [Sem.run_bind, run_underlying hd', Result.andThen_ok]
          cases d' <;> first | (simp [hut, run_zero hi hiz]; done) | exact absurd rfl (hne _)
        simp [Runs, execOp, ho, hv, this]
      · cases hr
  · split at hr
    · rename_i hok
      subst hok
      injection hr with hr; subst hr
      refine ⟨_, fun q => TR_pair hzC, fun w' => ?_⟩
      have : (Instr.typeAssert .nilIface xt t true).run P w' = .ok (.tuple #[zv, .bool false]) w' := by
        unfold Instr.typeAssert
        rw [Sem.run_bind, run_underlying hd', Result.andThen_ok]
        cases d' <;> first | (simp [run_zero hi hiz]; done) | exact absurd rfl (hne _)
      simp [Runs, execOp, ho, TR_nilI hx, this]
    · cases hr
  · cases hr

theorem tmeths_inv {t : TypeId} {ms : Array (String × TypeId)} (h : tmeths P t = some ms) : P.underlying t = some (.interface ms) := by
  unfold tmeths at h; split at h
  · injection h with h; subst h; assumption
  · cases h

theorem least_none : ∀ {l : List String}, Instr.least l = none ↔ l = []
  | [] => by simp [Instr.least]
  | _ :: _ => by simp [Instr.least]
theorem missing_none {want : Array (String × TypeId)} {got : Array Method} : Instr.missingMethod want got = none ↔ hasAll want got = true := by
  unfold Instr.missingMethod hasAll
  rw [List.all_eq_true]
  generalize hm : (want.toList.filter fun (q : String × TypeId) => match q with | (name, sig) => !got.any fun m => m.name == name && m.sig == sig) = l
  have hl : l = [] ↔ ∀ q ∈ want.toList, (got.any fun m => m.name == q.1 && m.sig == q.2) = true := by
    rw [← hm, List.filter_eq_nil_iff]
    constructor
    · intro h q hq; have := h q hq; simpa using this
    · intro h q hq; have := h q hq; simpa using this
  rw [← hl]
  cases l with
  | nil => simp [Instr.least]
  | cons q l =>
    simp only [List.map_cons, reduceCtorEq, iff_false]
    intro h
    simp only [List.partition_eq_filter_filter] at h
    generalize hns : (q.1 :: l.map (·.1)) = ns at h
    have hne : ns ≠ [] := by rw [← hns]; simp
    generalize hp : (fun (s : String) => s.contains '.') = pr at h
    have h1 : ns.filter (not ∘ pr) = [] := by
      cases hl1 : Instr.least (ns.filter (not ∘ pr)) with
      | none => exact least_none.1 hl1
      | some m => rw [hl1] at h; simp at h
    rw [h1] at h
    have h2 : ns.filter pr = [] := by
      have h3 : Instr.least ((ns.filter pr).map fun id => (id.splitOn ".").getLastD id) = none := h
      simpa using least_none.1 h3
    apply hne
    cases ns with
    | nil => rfl
    | cons m ns =>
      rw [List.filter_eq_nil_iff] at h1 h2
      have a1 := h1 m List.mem_cons_self
      have a2 := h2 m List.mem_cons_self
      simp at a1 a2
      rw [a1] at a2; cases a2

theorem implBy_inv {want : Array (String × TypeId)} {u : TypeId} (h : (implBy P want).contains u = true) : ∃ i, P.info? u = some i ∧ hasAll want i.methods = true := by
  have := List.mem_filter.1 (List.contains_iff_mem.1 h)
  cases hi : P.info? u with
  | none => simp [hi] at this
  | some i => exact ⟨i, rfl, by simpa [hi] using this.2⟩
theorem implNot_inv {want : Array (String × TypeId)} {u : TypeId} (h : (implNot P want).contains u = true) : ∃ i, P.info? u = some i ∧ hasAll want i.methods = false := by
  have := List.mem_filter.1 (List.contains_iff_mem.1 h)
  cases hi : P.info? u with
  | none => simp [hi] at this
  | some i =>
    have := this.2
    simp only [hi, Bool.and_eq_true, Bool.not_eq_true'] at this
    exact ⟨i, rfl, this.2⟩

theorem run_tinfo {t : TypeId} {i : TypeInfo} (h : P.info? t = some i) (w' : World) : (typeInfo t).run P w' = .ok i w' := by simp [typeInfo, h]

theorem runs_tassertI {x : Operand} {xt t : TypeId} {ok : Bool} (ho : o.op = .typeAssert x xt t ok) {ms : Array (String × TypeId)} (hm : tmeths P t = some ms) {z : AV} (hz : tzero P t = some z) {p : Nat → Pos} {vx r : AV}
    (hx : TR w G p vx (a.eval x)) (hr : tiV z ok (implBy P ms) (implNot P ms) vx = some r) : ∃ v, (∀ q, TR w G q r v) ∧ ∀ w', Runs P o a w' v w' := by
  obtain ⟨i, zv, hi, hiz, hof⟩ := tzero_inv hz
  have hzC := ofConst_CR (w := w) (Fr := G.Fr) hof
  have hu := tmeths_inv hm
  unfold tiV at hr
  split at hr
  · rename_i u v
    obtain ⟨vv, hv, hC⟩ := TR_iface hx
    split at hr
    · rename_i hyes
      obtain ⟨j, hj, hall⟩ := implBy_inv hyes
      have hmn := missing_none.2 hall
      injection hr with hr; subst hr
      cases ok with
      | true => exact ⟨_, fun q => TR_pair (.iface u _ _ hC), fun w' => by simp [Runs, execOp, ho, hv, Instr.typeAssert, run_underlying hu, run_tinfo hj, hmn]⟩
      | false => exact ⟨_, fun q => TR_of_CR (.iface u _ _ hC), fun w' => by simp [Runs, execOp, ho, hv, Instr.typeAssert, run_underlying hu, run_tinfo hj, hmn]⟩
    · split at hr
      · rename_i hno
        simp only [Bool.and_eq_true] at hno
        obtain ⟨rfl, hno⟩ := hno
        obtain ⟨j, hj, hall⟩ := implNot_inv hno
        injection hr with hr; subst hr
        cases hmn : Instr.missingMethod ms j.methods with
        | none => rw [missing_none.1 hmn] at hall; cases hall
        | some m => exact ⟨_, fun q => TR_pair hzC, fun w' => by simp [Runs, execOp, ho, hv, Instr.typeAssert, run_underlying hu, run_tinfo hj, hmn, run_zero hi hiz]⟩
      · cases hr
  · split at hr
    · rename_i hok
      subst hok
      injection hr with hr; subst hr
      exact ⟨_, fun q => TR_pair hzC, fun w' => by simp [Runs, execOp, ho, TR_nilI hx, Instr.typeAssert, run_underlying hu, run_zero hi hiz]⟩
    · cases hr
  · cases hr

theorem runs_minmax {args : Array Operand} {ats : Array TypeId} {x y : Operand} {mx : Bool} (ho : o.op = .call ⟨.builtin (if mx then .max else .min), args, ats⟩) (h1 : args.toList = [x, y])
    {p q : Nat → Pos} {vx vy r : AV} (hx : TR w G p vx (a.eval x)) (hy : TR w G q vy (a.eval y)) (hr : mmV mx vx vy = some r) : ∃ v, CR w G.Fr r v ∧ ∀ w', Runs P o a w' v w' := by
  obtain rfl := arr2 h1
  unfold mmV at hr
  split at hr
  · split at hr
    · rename_i hk
      subst hk
      injection hr with hr; subst hr
      refine ⟨_, .int _ _, fun w' => ?_⟩
      cases mx with
      | true =>
        simp [Runs, execOp, ho, resolve, invoke, builtin, Builtin.max_, Builtin.max2, TR_int hx, TR_int hy]
      | false =>
        simp [Runs, execOp, ho, resolve, invoke, builtin, Builtin.min_, Builtin.min2, TR_int hx, TR_int hy]
    · cases hr
  · cases hr

theorem TR_flt {k : FloatKind} {n : Nat} {p : Nat → Pos} {v : Value} (h : TR w G p (.flt k n) v) : v = .float k n := by cases CR_of_TC (TC_of_TR h rfl) rfl; rfl
theorem fb_rows : (Extern.allGenericRows.lookup "math.Float64bits").isNone = true ∧ (Extern.allGenericRows.lookup "math.Float64frombits").isNone = true ∧ (Extern.allGenericRows.lookup "math.Float32bits").isNone = true ∧ (Extern.allGenericRows.lookup "math.Float32frombits").isNone = true := by decide +kernel
theorem fb_rows2 : (Extern.allTypedRows.lookup "math.Float64bits").isNone = true ∧ (Extern.allTypedRows.lookup "math.Float64frombits").isNone = true ∧ (Extern.allTypedRows.lookup "math.Float32bits").isNone = true ∧ (Extern.allTypedRows.lookup "math.Float32frombits").isNone = true := by decide +kernel
theorem fb_rows3 : (Extern.allNextRows.lookup "math.Float64bits").isNone = true ∧ (Extern.allNextRows.lookup "math.Float64frombits").isNone = true ∧ (Extern.allNextRows.lookup "math.Float32bits").isNone = true ∧ (Extern.allNextRows.lookup "math.Float32frombits").isNone = true ∧ (Extern.allNextRows.lookup "").isNone = true := by decide +kernel
theorem fb_row0 : Extern.allRows.lookup "math.Float64bits" = some Extern.MathFloatBits.float64bits := by kernel_rfl
theorem fb_row1 : Extern.allRows.lookup "math.Float64frombits" = some Extern.MathFloatBits.float64frombits := by kernel_rfl
theorem fb_row2 : Extern.allRows.lookup "math.Float32bits" = some Extern.MathFloatBits.float32bits := by kernel_rfl
theorem fb_row3 : Extern.allRows.lookup "math.Float32frombits" = some Extern.MathFloatBits.float32frombits := by kernel_rfl

theorem find_of {fn : Func} {n : String} (hn : fn.name = n) (h1 : (Extern.allGenericRows.lookup n).isNone = true) (h2 : (Extern.allTypedRows.lookup n).isNone = true) {e : Array Value → Sem Value} (h3 : Extern.allRows.lookup n = some e) : Extern.find fn = some e := by
  subst hn
  unfold Extern.find
  simp only [Option.isNone_iff_eq_none] at h1 h2
  simp only [h1, h2, h3, Option.map_none]
  rfl
theorem findNext_of {fn : Func} {n : String} (hn : fn.name = n) (ho : fn.origin = "") (h1 : (Extern.allNextRows.lookup n).isNone = true) : Extern.findNext fn = none := by
  subst hn
  unfold Extern.findNext
  have h2 := fb_rows3.2.2.2.2
  simp only [Option.isNone_iff_eq_none] at h1 h2
  simp only [h1, ho, h2, Option.map_none]
  rfl
theorem run_ext {f : FuncId} {fn : Func} (hf : P.funcs[f]? = some fn) (hb : fn.body.isNone = true) (hg : (fn.name == "runtime.NumGoroutine") = false) (hn : Extern.findNext fn = none) {e : Array Value → Sem Value} (he : Extern.find fn = some e)
    {args : Array Value} {v : Value} {w' : World} (hr : (e args).run P w' = .ok v w') : (callFunc f args).run P w' = .ok (.value v) w' := by
  have hg' : ¬ fn.name = "runtime.NumGoroutine" := by simpa using hg
  have hb' : fn.body = none := by simpa using hb
  unfold callFunc
  simp [hf, hb', hg', hn, he, hr]
theorem fbV_0 {x r : AV} (h : fbV 0 x = some r) : ∃ b : Nat, x = .flt .f64 b ∧ r = .int .u64 (b : Int) := by
  cases x with
  | flt k b => cases k <;> simp [fbV] at h <;> exact ⟨b, rfl, h.symm⟩
  | _ => simp [fbV] at h
theorem fbV_1 {x r : AV} (h : fbV 1 x = some r) : ∃ b : Int, x = .int .u64 b ∧ r = .flt .f64 b.toNat := by
  cases x with
  | int k b => cases k <;> simp [fbV] at h <;> exact ⟨b, rfl, h.symm⟩
  | _ => simp [fbV] at h
theorem fbV_2 {x r : AV} (h : fbV 2 x = some r) : ∃ b : Nat, x = .flt .f32 b ∧ r = .int .u32 (b : Int) := by
  cases x with
  | flt k b => cases k <;> simp [fbV] at h <;> exact ⟨b, rfl, h.symm⟩
  | _ => simp [fbV] at h
theorem fbV_3 {x r : AV} (h : fbV 3 x = some r) : ∃ b : Int, x = .int .u32 b ∧ r = .flt .f32 b.toNat := by
  cases x with
  | int k b => cases k <;> simp [fbV] at h <;> exact ⟨b, rfl, h.symm⟩
  | _ => simp [fbV] at h
theorem runs_fb {f : FuncId} {args : Array Operand} {ats : Array TypeId} {x : Operand} {fn : Func} (ho : o.op = .call ⟨.value (.func f), args, ats⟩) (h1 : args.toList = [x]) (hf : P.funcs[f]? = some fn) {k : Nat} (hk : extOf fn = some k)
    {p : Nat → Pos} {vx r : AV} (hx : TR w G p vx (a.eval x)) (hr : fbV k vx = some r) : ∃ v, CR w G.Fr r v ∧ ∀ w', Runs P o a w' v w' := by
  have hrun : ∀ w', (execOp a.eval o).run P w' = (callFunc f (args.map a.eval)).run P w' := fun w' => by
    simp [execOp, ho, resolve, Act.eval, invoke, Deferred.ofValue]
  obtain rfl := arr1 h1
  have go : ∀ {n : String} {e : Array Value → Sem Value} {v : Value}, fn.name = n → fn.body.isNone = true → fn.origin = "" → (Extern.allGenericRows.lookup n).isNone = true → (Extern.allTypedRows.lookup n).isNone = true → (Extern.allNextRows.lookup n).isNone = true → (n == "runtime.NumGoroutine") = false →
      Extern.allRows.lookup n = some e → (∀ w', (e #[a.eval x]).run P w' = .ok v w') → ∀ w', Runs P o a w' v w' := by
    intro n e v hn hb hor g1 g2 g3 g4 g5 g6 w'
    have := run_ext (P := P) hf hb (by rw [hn]; exact g4) (findNext_of hn hor g3) (find_of hn g1 g2 g5) (g6 w')
    show (execOp a.eval o).run P w' = _
    rw [hrun]
    simpa using this
  unfold extOf at hk
  split at hk
  · rename_i hb
    simp only [Bool.and_eq_true, beq_iff_eq] at hb
    obtain ⟨hb, hor⟩ := hb
    split at hk
    · rename_i hn
      injection hk with hk; subst hk
      obtain ⟨b, rfl, rfl⟩ := fbV_0 hr
      exact ⟨_, .int _ _, go (by simpa using hn) hb hor fb_rows.1 fb_rows2.1 fb_rows3.1 (by decide) fb_row0 (fun w' => by rw [TR_flt hx]; rfl)⟩
    · split at hk
      · rename_i hn
        injection hk with hk; subst hk
        obtain ⟨b, rfl, rfl⟩ := fbV_1 hr
        exact ⟨_, .flt _ _, go (by simpa using hn) hb hor fb_rows.2.1 fb_rows2.2.1 fb_rows3.2.1 (by decide) fb_row1 (fun w' => by rw [TR_int hx]; rfl)⟩
      · split at hk
        · rename_i hn
          injection hk with hk; subst hk
          obtain ⟨b, rfl, rfl⟩ := fbV_2 hr
          exact ⟨_, .int _ _, go (by simpa using hn) hb hor fb_rows.2.2.1 fb_rows2.2.2.1 fb_rows3.2.2.1 (by decide) fb_row2 (fun w' => by rw [TR_flt hx]; rfl)⟩
        · split at hk
          · rename_i hn
            injection hk with hk; subst hk
            obtain ⟨b, rfl, rfl⟩ := fbV_3 hr
            exact ⟨_, .flt _ _, go (by simpa using hn) hb hor fb_rows.2.2.2 fb_rows2.2.2.2 fb_rows3.2.2.2.1 (by decide) fb_row3 (fun w' => by rw [TR_int hx]; rfl)⟩
          · split at hk
            · injection hk with hk; subst hk
              simp [fbV] at hr
            · cases hk
  · cases hk

theorem idx_row : (Extern.allGenericRows.lookup "internal/bytealg.IndexByte").isNone = true ∧ (Extern.allTypedRows.lookup "internal/bytealg.IndexByte").isNone = true ∧ (Extern.allNextRows.lookup "internal/bytealg.IndexByte").isNone = true := by decide +kernel
theorem idx_row0 : Extern.allRows.lookup "internal/bytealg.IndexByte" = some Extern.BytealgIndexByte.indexByte := by kernel_rfl
theorem run_indexByteAt {P : Program} (w : World) (a : Addr) (n c : Nat) (xs : List Int) (hx : xs.length = n) (hc : ∀ j x, xs[j]? = some x → w.cell? (a.add j) = some (.int .u8 x)) (cv : Int) :
    (Extern.BytealgIndexByte.indexByte #[.slice (some a) n c, .int .u8 cv]).run P w = .ok (.int .i64 (Go.Lib.indexByte (Go.Lib.bytesOf xs) cv.toNat.toUInt8)) w := by
  have hl := Go.Lib.run_loadBytesX (P := P) w xs a .empty hc
  rw [hx] at hl
  have hs := Go.Lib.run_indexByteString (P := P) ⟨(Go.Lib.bytesOf xs).toArray⟩ cv w
  have he : (⟨ByteArray.empty.data ++ (Go.Lib.bytesOf xs).toArray⟩ : ByteArray) = ⟨(Go.Lib.bytesOf xs).toArray⟩ := by
    apply ByteArray.ext
    show (#[] : Array UInt8) ++ (Go.Lib.bytesOf xs).toArray = (Go.Lib.bytesOf xs).toArray
    simp
  rw [he] at hl
  change Sem.run P (do
    let b ← Extern.Bytes.bytesOf (.slice (some a) n c)
    let c ← Extern.Bytes.asByte (.int .u8 cv)
    match (List.range b.size).find? fun i => b[i]! == c with
    | some i => pure (goInt i)
    | none => pure (goInt (-1))) w = _
  change Sem.run P (do
    let b ← Extern.Bytes.bytesOf (.string ⟨(Go.Lib.bytesOf xs).toArray⟩)
    let c ← Extern.Bytes.asByte (.int .u8 cv)
    match (List.range b.size).find? fun i => b[i]! == c with
    | some i => pure (goInt i)
    | none => pure (goInt (-1))) w = _ at hs
  simp only [Extern.Bytes.bytesOf, Sem.run_bind, Sem.run_pure, hl, Result.andThen] at hs ⊢
  exact hs
theorem run_ibV {p q : Nat → Pos} {vx vy r : AV} {x y : Value} {st : St} (hx : TR w G p vx x) (hy : TR w G q vy y) (hh : HR w G st.h) (hr : ibV st.h vx vy = some r) :
    ∃ v, CR w G.Fr r v ∧ ∀ w', Pres st.at G w w' → (Extern.BytealgIndexByte.indexByte #[x, y]).run P w' = .ok v w' := by
  unfold ibV at hr
  split at hr
  rotate_left
  · cases hr
  rename_i cb
  split at hr
  · cases hr
  rename_i hown0
  have hown : vx.isOwn = false := by simpa using hown0
  clear hown0
  split at hr
  rotate_left
  · cases hr
  rename_i l hl
  injection hr with hr; subst hr
  refine ⟨_, .int _ _, fun w' hw' => ?_⟩
  rw [TR_int hy]
  unfold cvBS at hl
  split at hl
  · rename_i c e' xs
    split at hl
    · cases hl
    · rename_i hc
      rw [Option.map_eq_some_iff] at hl
      obtain ⟨l', hl', hll⟩ := hl
      injection hll with hll; subst hll
      obtain ⟨ns, rfl, rfl⟩ := bytesOf_int hl'
      have hC := CR_of_TC (TC_of_TR hx rfl) hown
      obtain ⟨oo, n, cap, hv, hn, _⟩ := TR_slice hx
      rw [hv] at hC ⊢
      cases c with
      | nil =>
        have hns : ns = [] := by
          generalize hys : ns.map (AV.int .u8) = ys at hC
          cases hC; simpa using hys
        subst hns
        generalize hys : ([] : List Int).map (AV.int .u8) = ys at hC
        cases hC
        exact Go.Lib.run_indexByteNil w' _ _ _
      | own f => simp [AV.isOwn] at hown
      | hdr => exact absurd rfl hc
      | frz =>
        generalize hys : ns.map (AV.int .u8) = ys at hC
        cases hC with
        | frz _ _ _ _ ad _ vs hsp hz hlen hcap hp hcell hone hcr =>
        subst hys
        have hlen' : ns.length = n := by simpa using hlen
        refine run_indexByteAt w' ad n cap ns hlen' (fun j v hj => ?_) cb
        have hj' : j < ns.length := (List.getElem?_eq_some_iff.1 hj).1
        have h1 := hw'.cell _ _ _ (hp j (by simpa using hj')) (hcell j (by simpa using hj'))
        have h2 := hcr j (by simpa using hj')
        rw [add_off ad (hsp (by simp; omega)), h1]
        have h3 : (ns.map (AV.int .u8))[j]'(by simpa using hj') = .int .u8 ns[j] := by simp
        rw [h3] at h2
        have h4 : vs j = .int .u8 ns[j] := TR_int (p := p) (TR_of_CR h2)
        rw [h4]
        rw [List.getElem?_eq_getElem hj'] at hj
        injection hj with hj; rw [hj]
  · rename_i i' k' e' n'
    simp only [Option.bind_eq_some_iff, Option.map_eq_some_iff] at hl
    obtain ⟨xs, hxs, l', hl', hll⟩ := hl
    injection hll with hll; subst hll
    obtain ⟨ns, rfl, rfl⟩ := bytesOf_int hl'
    obtain ⟨ad, cap, vs, hv, _, _, hlen, hsp, hcell, _, hcr⟩ := hcells_sound hh hx (by rw [Nat.mul_one]; exact hxs)
    have hlen' : ns.length = n' := by simpa using hlen
    rw [hv]
    refine run_indexByteAt w' ad n' cap ns hlen' (fun j v hj => ?_) cb
    have hj' : j < ns.length := (List.getElem?_eq_some_iff.1 hj).1
    have h1 := hcell j (by simpa using hj') w' hw'
    have h2 := hcr j (by simpa using hj')
    rw [add_off ad (hsp (by simp; omega)), h1]
    have h3 : (ns.map (AV.int .u8))[j]'(by simpa using hj') = .int .u8 ns[j] := by simp
    rw [h3] at h2
    have h4 : vs j = .int .u8 ns[j] := TR_int (p := p) (TR_of_CR h2)
    rw [h4]
    rw [List.getElem?_eq_getElem hj'] at hj
    injection hj with hj; rw [hj]
  · cases hl
theorem runs_idxB {f : FuncId} {args : Array Operand} {ats : Array TypeId} {x y : Operand} {fn : Func} (ho : o.op = .call ⟨.value (.func f), args, ats⟩) (h1 : args.toList = [x, y]) (hf : P.funcs[f]? = some fn) (hk : extOf fn = some 4)
    {p q : Nat → Pos} {vx vy r : AV} (hx : TR w G p vx (a.eval x)) (hy : TR w G q vy (a.eval y)) {st : St} (hh : HR w G st.h) (hr : ibV st.h vx vy = some r) : ∃ v, CR w G.Fr r v ∧ ∀ w', Pres st.at G w w' → Runs P o a w' v w' := by
  have hrun : ∀ w', (execOp a.eval o).run P w' = (callFunc f (args.map a.eval)).run P w' := fun w' => by
    simp [execOp, ho, resolve, Act.eval, invoke, Deferred.ofValue]
  obtain rfl := arr2 h1
  obtain ⟨v, hv, hR⟩ := run_ibV (P := P) hx hy hh hr
  refine ⟨v, hv, fun w' hw' => ?_⟩
  unfold extOf at hk
  split at hk
  · rename_i hb
    simp only [Bool.and_eq_true, beq_iff_eq] at hb
    obtain ⟨hb, hor⟩ := hb
    split at hk
    · cases hk
    split at hk
    · cases hk
    split at hk
    · cases hk
    split at hk
    · cases hk
    split at hk
    · rename_i hn
      have hn : fn.name = "internal/bytealg.IndexByte" := by simpa using hn
      have := run_ext (P := P) hf hb (by rw [hn]; decide) (findNext_of hn hor idx_row.2.2) (find_of hn idx_row.1 idx_row.2.1 idx_row0) (hR w' hw')
      show (execOp a.eval o).run P w' = _
      rw [hrun]
      simpa using this
    · cases hk
  · cases hk

theorem intsOf_eq {k : IntKind} : ∀ {xs : List AV} {l : List Int}, intsOf k xs = some l → xs = l.map (AV.int k)
  | [], l, h => by simp [intsOf] at h; subst h; rfl
  | x :: xs, l, h => by
    unfold intsOf at h
    split at h
    · rename_i heq; cases heq
    · rename_i k' n r heq
      injection heq with h1 h2; subst h1; subst h2
      split at h
      · rename_i hk; subst hk
        simp only [Option.map_eq_some_iff] at h
        obtain ⟨l', h3, rfl⟩ := h
        rw [intsOf_eq h3]; rfl
      · cases h
    · cases h
theorem run_eqItems_int (d : Nat) {e : TypeId} {k : IntKind} (hu : P.underlying e = some (.int k)) {N : Nat} {xs ys : Array Value} {f g : Nat → Int} (hx : ∀ i, i < N → xs[i]? = some (.int k (f i))) (hy : ∀ i, i < N → ys[i]? = some (.int k (g i))) (w' : World) :
    ∀ is : List Nat, (∀ i ∈ is, i < N) → (Op.eqItems (d + 1) e 1 xs ys is).run P w' = .ok (is.all fun i => f i == g i) w'
  | [], _ => by simp [Op.eqItems]
  | i :: is, h => by
    have he : P.plainKey e = true := by simp [Program.plainKey, hu]
    have hi := h i List.mem_cons_self
    simp only [Op.eqItems, Nat.mul_one, Sem.run_bind, run_part_plain w' he (hx i hi), run_part_plain w' he (hy i hi), run_equalIn_int w' d e k k _ _ hu, Result.andThen_ok, List.all_cons]
    by_cases hfg : f i = g i
    · have ih := run_eqItems_int d hu hx hy w' is (fun j hj => h j (List.mem_cons_of_mem _ hj))
      simp [hfg, ih]
    · simp [hfg]
theorem runs_eqArr {op : BinOp} {t e yt : TypeId} {x y : Operand} {neg : Bool} (ho : o.op = .binOp op t x y yt) (hop : op = if neg then .neq else .eql) {n sz : Nat} (ht : tarr P t = some (n, e, sz)) {k : IntKind} (hk : tint P e = some k) (hsz : sz = 1) (hg : P.eqGuardType P.depth t = false)
    {p q : Nat → Pos} {vx vy r : AV} (hx : TR w G p vx (a.eval x)) (hy : TR w G q vy (a.eval y)) (hr : eqaV neg n k vx vy = some r) : ∃ v, CR w G.Fr r v ∧ ∀ w', Runs P o a w' v w' := by
  obtain ⟨hu, hs⟩ := tarr_inv ht
  have hui := tint_inv hk
  unfold eqaV at hr
  split at hr
  · rename_i xs ys
    split at hr
    · rename_i hl
      simp only [Option.bind_eq_some_iff, Option.map_eq_some_iff] at hr
      obtain ⟨la, ha, lb, hb, rfl⟩ := hr
      have ea := intsOf_eq ha
      have eb := intsOf_eq hb
      obtain ⟨vs, hvx, hcx⟩ := TR_agg hx
      obtain ⟨us, hvy, hcy⟩ := TR_agg hy
      have cell : ∀ {l : List Int} {zs : List AV} {ws : Array Value}, zs = l.map (AV.int k) → CR w G.Fr (.agg zs) (.agg ws) → ws.size = zs.length ∧ ∀ i, i < zs.length → ws[i]? = some (.int k (l.getD i 0)) := by
        intro l zs ws hz hc
        cases hc with
        | agg _ _ hl hone hrr =>
          refine ⟨hl, fun i hi => ?_⟩
          have h1 := hrr i hi (by omega)
          subst hz
          have hi' : i < l.length := by simpa using hi
          simp only [List.getElem_map] at h1
          generalize hv : ws[i]'(by omega) = v at h1
          cases h1
          rw [Array.getElem?_eq_getElem (by omega), hv]
          simp [List.getD, hi']
      obtain ⟨c1, c2⟩ := cell ea hcx
      obtain ⟨d1, d2⟩ := cell eb hcy
      have lena : la.length = n := by rw [← hl.1, ea]; simp
      have lenb : lb.length = n := by rw [← hl.2, eb]; simp
      have hinfo : ∃ i, P.info? e = some i ∧ i.size = 1 := by obtain ⟨i, h1, h2⟩ := tsize_inv hs; exact ⟨i, h1, by rw [h2, hsz]⟩
      obtain ⟨ii, hii, hi1⟩ := hinfo
      have hco : P.cellsOf e = 1 := by simp [Program.cellsOf, hii, hi1]
      have hall : ((List.range n).all fun i => la.getD i 0 == lb.getD i 0) = (la == lb) := by
        rw [Bool.eq_iff_iff, List.all_eq_true, beq_iff_eq]
        constructor
        · intro h
          refine List.ext_getElem (by omega) fun i h1 h2 => ?_
          have := h i (by simp; omega)
          simpa [List.getD, h1, h2] using this
        · intro h i _; rw [h]; simp
      have heq : ∀ w', (Op.equal t (.agg vs) (.agg us)).run P w' = .ok (la == lb) w' := by
        intro w'
        unfold Op.equal
        have e1 := run_equalIn_array (P := P) w' 9999 vs us hu hii
        have e2 := run_eqItems_int (P := P) 9998 hui (N := n) (xs := vs) (ys := us) (f := fun i => la.getD i 0) (g := fun i => lb.getD i 0) (fun i hi => c2 i (by omega)) (fun i hi => d2 i (by omega)) w' (List.range n) (fun i hi => by simpa using hi)
        rw [hco] at e1
        show (Op.equalIn (9999 + 1) t (.agg vs) (.agg us)).run P w' = _
        rw [e1, e2, hall]
      have hguard : ∀ op w', (eqGuard op t x y (.agg vs) (.agg us)).run P w' = .ok () w' := by
        intro op w'
        unfold eqGuard
        cases op <;> simp [hg]
      refine ⟨_, .bool _, fun w' => ?_⟩
      cases neg with
      | false =>
        simp only [Bool.false_eq_true, if_false] at hop ⊢
        subst hop
        simp only [Runs, execOp, ho, hvx, hvy, Sem.run_bind, hguard, Result.andThen_ok, binOp]
        simp [heq]
      | true =>
        simp only [if_true] at hop ⊢
        subst hop
        simp only [Runs, execOp, ho, hvx, hvy, Sem.run_bind, hguard, Result.andThen_ok, binOp]
        simp [heq]
    · cases hr
  · cases hr
end Go.Proofs.YtjlioidknhdceaaDoor.Abs
