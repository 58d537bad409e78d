/- X2, S2 -/
import Derived.Test.YtdnfnobgeddbfaaGreatDoorA19
import Derived.Test.YtdnfnobgeddbfaaGreatDoorX1
/- More operations, in a walk. -/
namespace Go.Proofs.YtdnfnobgeddbfaaGreatDoor.Abs
set_option linter.all false
set_option linter.unusedVariables false

variable {P : Program} {sg : FuncId → Nat → Nat} {hs : Nat → Nat} {w w' : World} {G G' : Gh} {a : Act} {o : Oper}
variable {w0 : World} {F0 : FT} {A : Nat → Prop} {n : Nat} {st : St} {β : Type}
variable {cl : FuncId → List AV → H → T (AV × H)}

theorem SR.retell (h : SR w0 F0 A n st a w G) {s : K} {ob ob' : Obj} (hs : st.at s = some ob) (hnew : ∀ t, G.at s = some t → ObjR w G s t ob → ObjR w G s t ob') : SR w0 F0 A n (st.setAt s ob') a w G := by
  obtain ⟨t, h1, h2, h3, h4⟩ := h.at hs
  exact h.setBox hs (Ext.refl _ _) rfl rfl (fun p _ _ b hb _ => ⟨rfl, rfl, hb⟩) ⟨t, h1, h2, h3, hnew t h1 h4⟩ h.kept h.mine h.same h.fresh

theorem runs_cap {args : Array Operand} {ats : Array TypeId} {x : Operand} {t : TypeId} (ho : o.op = .call ⟨.builtin .cap, args, ats⟩) (h1 : args.toList = [x]) (h2 : ats.toList = [t]) (hk : tkind P t = some 3)
    {b : Option Addr} {m c : Nat} (hx : a.eval x = .slice b m c) : Runs P o a w (.int .i64 c) w := by
  obtain rfl := arr1 h1
  obtain rfl := arr1 h2
  obtain ⟨e, hu⟩ := tkind_3 hk
  simp [Runs, execOp, ho, resolve, invoke, builtin, Builtin.cap_, hx, run_underlying hu, goInt]

theorem cap_sound (h : SR w0 F0 A n st a w G) {args : Array Operand} {ats : Array TypeId} {x : Operand} {t : TypeId} (ho : o.op = .call ⟨.builtin .cap, args, ats⟩) (h1 : args.toList = [x]) (h2 : ats.toList = [t]) (hk : tkind P t = some 3)
    {p : Nat → Pos} {xv : AV} (hp : TR w G p xv (a.eval x)) {R : AV × St → Prop} (hr : (capV xv st).All R) :
    ∃ v v' st', R (v, st') ∧ SR w0 F0 A n st' a w G ∧ CR w G.Fr v v' ∧ Runs P o a w v' w := by
  unfold capV at hr
  split at hr
  · obtain ⟨_, m, c, hv, hm, hn, _⟩ := TR_slice hp
    obtain ⟨hv', _⟩ := hn rfl
    rw [hv'] at hv
    exact ⟨_, _, st, hr, h, .int _ _, runs_cap (c := 0) ho h1 h2 hk hv'⟩
  · rename_i i k e sz m
    obtain ⟨cap, ad, th, hat, hv, hz, hmc, ha⟩ := TR_hsl hp
    split at hr
    · rename_i e' sz' N xs hg
      split at hr
      · rename_i hc
        obtain ⟨t1, k1, k2, k3, k4⟩ := h.heap.box _ _ hg
        rw [hat] at k1; injection k1 with k1; subst k1
        obtain ⟨_, j2, _, _, ⟨_, j5⟩, _⟩ := k4
        have hN := (ha hc.2).2 j2
        rw [j5 _ rfl] at hN
        have : (N - k) / sz = cap := by rw [← hN, Nat.add_sub_cancel_left, Nat.mul_div_cancel _ hz]
        rw [this] at hr
        exact ⟨_, _, st, hr, h, .int _ _, runs_cap ho h1 h2 hk hv⟩
      · exact hr.elim
    · rename_i e' sz' xs hg
      split at hr
      · rename_i hc
        obtain ⟨t1, k1, k2, k3, k4⟩ := h.heap.box _ _ hg
        rw [hat] at k1; injection k1 with k1; subst k1
        have k4' := k4
        obtain ⟨_, j2, _, hz', ⟨⟨c0, hc0, hc1⟩, _⟩, _⟩ := k4
        have hN := (ha hc.2).2 j2
        obtain ⟨rfl, _⟩ := hc
        have hcap : cap ≤ maxLen := by
          have : cap * sz' ≤ c0 * sz' := by omega
          exact Nat.le_trans (Nat.le_of_mul_le_mul_right this hz) hc1
        have := hr (cap - m) (by omega)
        dsimp only at this
        rw [show m + (cap - m) = cap by omega] at this
        refine ⟨_, _, _, this, ?_, .int _ _, runs_cap ho h1 h2 hk hv⟩
        have hset : (⟨st.s, st.b, st.h.set i (.row e' sz' (some (k + cap * sz')) xs)⟩ : St) = st.setAt (.obj i) (.row e' sz' (some (k + cap * sz')) xs) := rfl
        rw [hset]
        have hs : st.at (.obj i) = some (.row e' sz' none xs) := hg
        refine h.retell hs (fun t hat2 ht => ?_)
        rw [hat] at hat2; injection hat2 with hat2; subst hat2
        obtain ⟨q1, q2, q3, q4, ⟨q5, _⟩, q6⟩ := ht
        refine ⟨q1, q2, q3, q4, ⟨q5, fun N hN' => ?_⟩, q6⟩
        injection hN' with hN'
        rw [← hN', hN]
      · exact hr.elim
    · exact hr.elim
  · exact hr.elim

theorem runs_buildArr {t e : TypeId} {k sz : Nat} {parts : Array (Nat × Operand)} (ho : o.op = .build t parts) (ht : tarr P t = some (k, e, sz)) {i : TypeInfo} {v : Value} (hi : P.info? t = some i) (hv : i.zero = some v)
    {vs' : Array Value} (hf : Instr.fill (fun i => some (i * sz, sz)) v.cells (parts.toList.map fun (i, x) => (i, a.eval x)) = some vs') (w : World) :
    Runs P o a w (.agg vs') w := by
  obtain ⟨hu, hsz⟩ := tarr_inv ht
  have hparts : (parts.map fun (i, x) => (i, a.eval x)).toList = parts.toList.map fun (i, x) => (i, a.eval x) := by simp
  simp only [Runs, execOp, ho, Instr.build, Sem.run_bind, run_zero hi hv, Result.andThen_ok, run_underlying hu, run_sizeOf' hsz, hparts, hf, Sem.run_pure]

/-! ### Runes -/
theorem runesFrom_ints (s : ByteArray) : ∀ (b i : Nat) (acc : Array Value), (∀ v ∈ acc.toList, ∃ n, v = .int .i32 n) → ∀ v ∈ (Conv.runesFrom s b i acc).toList, ∃ n, v = .int .i32 n
  | 0, i, acc, h => by simpa [Conv.runesFrom] using h
  | b + 1, i, acc, h => by
    unfold Conv.runesFrom
    split
    · refine runesFrom_ints s b _ _ fun v hv => ?_
      rw [Array.toList_push] at hv
      rcases List.mem_append.1 hv with hv | hv
      · exact h v hv
      · rw [List.mem_singleton] at hv; exact ⟨_, hv⟩
    · exact h
theorem runesL_get (t : ByteArray) (i : Nat) (h : i < (Conv.runesFrom t t.size 0 #[]).size) : ∃ h' : i < (runesL t.data.toList).length, (Conv.runesFrom t t.size 0 #[])[i] = .int .i32 (runesL t.data.toList)[i] := by
  have e : (⟨t.data.toList.toArray⟩ : ByteArray) = t := by cases t; simp
  have el : t.data.toList.length = t.size := by simp
  have hl : runesL t.data.toList = (Conv.runesFrom t t.size 0 #[]).toList.map runeN := by unfold runesL; rw [e, el]
  have hlen : (runesL t.data.toList).length = (Conv.runesFrom t t.size 0 #[]).size := by rw [hl]; simp
  obtain ⟨n, hn⟩ := runesFrom_ints t t.size 0 #[] (fun v hv => by simp at hv) _ (Array.getElem_mem_toList (xs := Conv.runesFrom t t.size 0 #[]) h)
  refine ⟨by omega, ?_⟩
  simp only [hl, List.getElem_map]
  rw [Array.getElem_toList]
  rw [hn]; rfl
theorem runesL_length (t : ByteArray) : (runesL t.data.toList).length = (Conv.runesFrom t t.size 0 #[]).size := by
  have e : (⟨t.data.toList.toArray⟩ : ByteArray) = t := by cases t; simp
  have el : t.data.toList.length = t.size := by simp
  unfold runesL; rw [e, el]; simp
theorem SR.rowNew (h : SR w0 F0 A n st a w G) (cs : Array Value) (e : TypeId) (m : Nat) :
    ∃ G', SR w0 F0 A n st a (w.drew.alloc (.cells cs e)) G' ∧ G'.Fr w.heap.size = m ∧ G'.β = G.β ∧ Ext w G.Fr (w.drew.alloc (.cells cs e)) G'.Fr ∧ (∀ b, b < w.heap.size → (w.drew.alloc (.cells cs e)).heap[b]? = w.heap[b]?) ∧ (w.drew.alloc (.cells cs e)).heap[w.heap.size]? = some (.cells cs e) := by
  have hold : ∀ b, b < w.heap.size → (w.drew.alloc (.cells cs e)).heap[b]? = w.heap[b]? := fun b hb => heap_old w.drew _ b hb
  have hsz : (w.drew.alloc (.cells cs e)).heap.size = w.heap.size + 1 := by
    have : (w.alloc (.cells cs e)).heap.size = w.heap.size + 1 := by simp
    exact this
  have hk : Kp w (fun _ => False) (w.drew.alloc (.cells cs e)) := ⟨rfl, rfl, rfl, by omega, fun b hb _ => hold b hb⟩
  have hx : Ext w G.Fr (w.drew.alloc (.cells cs e)) (G.Fr.put w.heap.size m) :=
    ⟨fun b => by simp only [FT.put, upd]; split; { rw [h.fresh b (by omega)]; omega }; { exact Nat.le_refl _ }, fun b o v ho hv => by
      have hlt : b < w.heap.size := by
        rcases Nat.lt_or_ge b w.heap.size with h' | h'
        · exact h'
        · rw [h.fresh b h'] at ho; omega
      rw [← hv]; exact World.cell?_of_block (a := ⟨b, o, none⟩) (hold b hlt), fun _ _ h => h, fun b cs' e' h1 h2 => ⟨cs', by rw [hold b (Array.getElem?_eq_some_iff.1 h2).1]; exact h2⟩⟩
  exact ⟨⟨G.Fr.put w.heap.size m, G.β, G.ω⟩, h.world (fun _ => False) (fun _ h => h.elim) hk hx (fun b hb _ => FT.put_ne _ _ _ _ (by omega)) (fun b hb => by
    rw [hsz] at hb; rw [FT.put_ne _ _ _ _ (by omega)]; exact h.fresh b (by omega)) h.heap.ids, FT.put_same _ _ _, rfl, hx, hold, heap_alloc_new w.drew _⟩
theorem SR.runes (h : SR w0 F0 A n st a w G) (e : TypeId) (t : ByteArray) (q : Nat) :
    ∃ G', SR w0 F0 A n st a (w.drew.alloc (.cells (Conv.runesFrom t t.size 0 #[] ++ Array.replicate q (.int .i32 0)) e)) G' ∧
      (∀ cap, (Conv.runesFrom t t.size 0 #[]).size ≤ cap → CR (w.drew.alloc (.cells (Conv.runesFrom t t.size 0 #[] ++ Array.replicate q (.int .i32 0)) e)) G'.Fr (.slice .frz e 1 ((runesL t.data.toList).map (AV.int .i32))) (.slice (some ⟨w.heap.size, 0, none⟩) (Conv.runesFrom t t.size 0 #[]).size cap)) ∧
      G'.β = G.β ∧ Ext w G.Fr (w.drew.alloc (.cells (Conv.runesFrom t t.size 0 #[] ++ Array.replicate q (.int .i32 0)) e)) G'.Fr ∧ (∀ b, b < w.heap.size → (w.drew.alloc (.cells (Conv.runesFrom t t.size 0 #[] ++ Array.replicate q (.int .i32 0)) e)).heap[b]? = w.heap[b]?) := by
  obtain ⟨G', k1, k2, k3, k4, k5, k6⟩ := h.rowNew (Conv.runesFrom t t.size 0 #[] ++ Array.replicate q (.int .i32 0)) e (Conv.runesFrom t t.size 0 #[]).size
  refine ⟨G', k1, fun cap hcap => ?_, k3, k4, k5⟩
  have hl := runesL_length t
  have hl2 : ((runesL t.data.toList).map (AV.int .i32)).length = (Conv.runesFrom t t.size 0 #[]).size := by rw [List.length_map, hl]
  refine .frz e 1 _ cap ⟨w.heap.size, 0, none⟩ _ (fun i => .int .i32 ((runesL t.data.toList).getD i 0)) (fun _ => rfl) (by omega) (by rw [hl2]; omega) hcap (fun i hi => ?_) (fun i hi => ?_) (fun i hi => rfl) (fun i hi => ?_)
  · rw [hl2] at hi; simp only [Nat.zero_add]; rw [k2]; exact hi
  · rw [hl2] at hi
    obtain ⟨h', he⟩ := runesL_get t i hi
    simp only [World.cell?, k6, Nat.zero_add, Option.isSome_none, Bool.false_eq_true, if_false]
    rw [Array.getElem?_append_left hi, Array.getElem?_eq_getElem hi, he]
    simp [List.getD, List.getElem?_eq_getElem h']
  · rw [hl2] at hi
    obtain ⟨h', he⟩ := runesL_get t i hi
    rw [List.getElem_map]
    simp only [List.getD, List.getElem?_eq_getElem h', Option.getD_some]
    exact .int _ _
theorem intsOf_get {k : IntKind} : ∀ {xs : List AV} {ns : List Int}, intsOf k xs = some ns → ns.length = xs.length ∧ ∀ i (h : i < xs.length) (h' : i < ns.length), xs[i] = .int k ns[i]
  | [], ns, h => by simp only [intsOf, Option.some.injEq] at h; subst h; exact ⟨rfl, fun i h => absurd h (by simp)⟩
  | x :: xs, ns, h => by
    cases x with
    | int k' m =>
      simp only [intsOf] at h
      split at h
      · rename_i hk; subst hk
        simp only [Option.map_eq_some_iff] at h
        obtain ⟨ms, hms, rfl⟩ := h
        obtain ⟨h1, h2⟩ := intsOf_get hms
        refine ⟨by simp [h1], fun i h h' => ?_⟩
        cases i with
        | zero => rfl
        | succ i => simpa using h2 i (by simpa using h) (by simpa using h')
      · cases h
    | _ => simp [intsOf] at h
theorem runs_rStr {s d e : TypeId} {sz by' : Nat} {y : Operand} (ho : o.op = .convert s d y) (hs : telem P s = some (e, sz, by')) (he : tint P e = some .i32) (hd : tkind P d = some 2) {p : Nat → Pos} {x r : AV} (hx : TR w G p x (a.eval y)) (hr : rsV x = some r) {bx : K → Option Obj} :
    ∃ v, CR w G.Fr r v ∧ ∀ w', Pres bx G w w' → Runs P o a w' v w' := by
  unfold rsV at hr
  split at hr
  · rename_i e0 xs
    simp only [Option.map_eq_some_iff] at hr
    obtain ⟨ns, hns, rfl⟩ := hr
    obtain ⟨n1, n2⟩ := intsOf_get hns
    have hC : CR w G.Fr (.slice .frz e0 1 xs) (a.eval y) := hx
    generalize hv : a.eval y = vv at hC
    cases hC with
    | frz _ _ m cap ad _ vs hsp hz hl hc hp hcell hone hcr =>
    refine ⟨.string (runesBytes ns), .str _ _ rfl, fun w' hw' => ?_⟩
    have hm : m = ns.length := by omega
    have := run_convert_runes (P := P) w' s d e ad m cap ns (by omega) (telem_inv hs).1 (tint_inv he) (tkind_2 hd) (fun j hj => by
      have hjx : j < xs.length := by omega
      rw [add_off ad (hsp (by omega))]
      have h1 := hw'.cell _ _ _ (hp j hjx) (hcell j hjx)
      have h2 := hcr j hjx
      rw [n2 j hjx hj] at h2
      rw [h1]
      generalize hvj : vs j = vj at h2
      cases h2
      simp [List.getD, List.getElem?_eq_getElem hj])
    rw [hm, List.take_length] at this
    subst hm
    simp only [Runs, execOp, ho, hv, Sem.run_bind, this, Result.andThen_ok, Sem.run_pure]
  · cases hr

theorem early_sound1 {x : AOp} (hx : pOp1 P hs o = some x) (he : x.early = true) (h : SR w0 F0 A n st a w G) {k : AV → St → T β} {R : β → Prop} (hr : (opK cl x st k).All R) :
    ∃ v' v st' G', (k v st').All R ∧ SR w0 F0 A n st' a w G' ∧ (∀ d, o.dst = some d → TR w G' (.slot d) v v') ∧ Stab st.at G w st'.at G' w ∧ ∀ w', ((x.pure = true ∧ Pres (fun _ => none) G' w w') ∨ Pres st'.at G' w w') → Runs P o a w' v' w' := by
  have fin : ∀ {v : AV}, (k v st).All R → (∃ v', (∀ q, TR w G q v v') ∧ ∀ w', Runs P o a w' v' w') →
      ∃ v' v st' G', (k v st').All R ∧ SR w0 F0 A n st' a w G' ∧ (∀ d, o.dst = some d → TR w G' (.slot d) v v') ∧ Stab st.at G w st'.at G' w ∧ ∀ w', ((x.pure = true ∧ Pres (fun _ => none) G' w w') ∨ Pres st'.at G' w w') → Runs P o a w' v' w' :=
    fun hk ⟨v', h1, h2⟩ => ⟨v', _, st, G, hk, h, fun d _ => h1 _, Stab.less (Ext.refl _ _) rfl (Less.refl _), fun w' _ => h2 w'⟩
  have fin' : ∀ {v : AV}, (k v st).All R → (∃ v', CR w G.Fr v v' ∧ ∀ w', Runs P o a w' v' w') →
      ∃ v' v st' G', (k v st').All R ∧ SR w0 F0 A n st' a w G' ∧ (∀ d, o.dst = some d → TR w G' (.slot d) v v') ∧ Stab st.at G w st'.at G' w ∧ ∀ w', ((x.pure = true ∧ Pres (fun _ => none) G' w w') ∨ Pres st'.at G' w w') → Runs P o a w' v' w' :=
    fun hk ⟨v', h1, h2⟩ => fin hk ⟨v', fun q => TR_of_CR h1, h2⟩
  unfold pOp1 at hx
  split at hx
  case h_1 t y i hop =>
    simp only [Option.bind_eq_some_iff, Option.map_eq_some_iff] at hx
    obtain ⟨⟨m, e, sz⟩, hta, ay, hy, ai, hi, rfl⟩ := hx
    simp only [opK, T.All_on, List.map_cons, List.map_nil, xV] at hr
    obtain ⟨v, hv, hr⟩ := hr
    obtain ⟨p, hp⟩ := h.peekX hy
    obtain ⟨q, hq⟩ := h.peekX hi
    exact fin hr (runs_ixArr h hop hta hp hq hv)
  case h_2 t y lo hi hop =>
    simp only [Option.bind_eq_some_iff] at hx
    obtain ⟨⟨m, e, sz⟩, hta, hx⟩ := hx
    split at hx
    · cases hx
    · rename_i hz
      simp only [Option.bind_eq_some_iff, Option.map_eq_some_iff] at hx
      obtain ⟨ay, hy, alo, hlo, ahi, hhi, rfl⟩ := hx
      simp only [opK, T.All_on, List.map_cons, List.map_nil, xV] at hr
      obtain ⟨v, hv, hr⟩ := hr
      obtain ⟨p, hp⟩ := h.peekX hy
      exact fin' hr (runs_slArr h hop hta (Nat.pos_of_ne_zero hz) hlo hhi hp hv)
  case h_3 t y i hop =>
    simp only [Option.bind_eq_some_iff, Option.map_eq_some_iff] at hx
    obtain ⟨⟨m, e, sz⟩, hta, ag, hag, ay, hy, ai, hi, rfl⟩ := hx
    simp only [opK, T.All_on, List.map_cons, List.map_nil, xV] at hr
    obtain ⟨v, hv, hr⟩ := hr
    obtain ⟨p, hp⟩ := h.peekX hy
    obtain ⟨q, hq⟩ := h.peekX hi
    exact fin' hr (runs_ixAgg hop hta hag hp hq hv)
  case h_4 y xt t ok hop =>
    simp only [Option.bind_eq_some_iff] at hx
    obtain ⟨kd, hkd, z, hz, ay, hy, hx⟩ := hx
    obtain ⟨p, hp⟩ := h.peekX hy
    split at hx
    · simp only [Option.map_eq_some_iff] at hx
      obtain ⟨ms, hm, rfl⟩ := hx
      simp only [opK, T.All_on, List.map_cons, List.map_nil, xV] at hr
      obtain ⟨v, hv, hr⟩ := hr
      exact fin hr (runs_tassertI hop hm hz hp hv)
    · rename_i h5
      injection hx with hx; subst hx
      simp only [opK, T.All_on, List.map_cons, List.map_nil, xV] at hr
      obtain ⟨v, hv, hr⟩ := hr
      exact fin hr (runs_tassert hop hkd h5 hz hp hv)
  case h_5 args ats hop =>
    split at hx
    · rename_i y z t u ha hta
      split at hx
      · simp only [Option.bind_eq_some_iff, Option.map_eq_some_iff] at hx
        obtain ⟨ay, hy, az, hz, rfl⟩ := hx
        simp only [opK, T.All_on, List.map_cons, List.map_nil, xV] at hr
        obtain ⟨v, hv, hr⟩ := hr
        obtain ⟨p, hp⟩ := h.peekX hy
        obtain ⟨q, hq⟩ := h.peekX hz
        exact fin' hr (runs_minmax (mx := false) hop ha hp hq hv)
      · cases hx
    · cases hx
  case h_6 args ats hop =>
    split at hx
    · rename_i y z t u ha hta
      split at hx
      · simp only [Option.bind_eq_some_iff, Option.map_eq_some_iff] at hx
        obtain ⟨ay, hy, az, hz, rfl⟩ := hx
        simp only [opK, T.All_on, List.map_cons, List.map_nil, xV] at hr
        obtain ⟨v, hv, hr⟩ := hr
        obtain ⟨p, hp⟩ := h.peekX hy
        obtain ⟨q, hq⟩ := h.peekX hz
        exact fin' hr (runs_minmax (mx := true) hop ha hp hq hv)
      · cases hx
    · cases hx
  case h_7 => simp only [Option.bind_eq_some_iff, Option.map_eq_some_iff] at hx; obtain ⟨_, _, _, _, _, _, rfl⟩ := hx; simp [AOp.early] at he
  case h_8 =>
    split at hx
    · split at hx
      · simp only [Option.map_eq_some_iff] at hx; obtain ⟨_, _, rfl⟩ := hx; simp [AOp.early] at he
      · cases hx
    · cases hx
  case h_9 => simp only [Option.map_eq_some_iff] at hx; obtain ⟨_, _, rfl⟩ := hx; simp [AOp.early] at he
  case h_10 f args ats hop =>
    simp only [Option.bind_eq_some_iff] at hx
    obtain ⟨fn, hf, kk, hk, hx⟩ := hx
    split at hx
    · rename_i y ha
      simp only [Option.map_eq_some_iff] at hx
      obtain ⟨ay, hy, rfl⟩ := hx
      simp only [opK, T.All_on, List.map_cons, List.map_nil, xV] at hr
      obtain ⟨v, hv, hr⟩ := hr
      obtain ⟨p, hp⟩ := h.peekX hy
      exact fin' hr (runs_fb hop ha hf hk hp hv)
    · rename_i y z ha
      split at hx
      · rename_i h4
        subst h4
        simp only [Option.bind_eq_some_iff, Option.map_eq_some_iff] at hx
        obtain ⟨ay, hy, az, hz, rfl⟩ := hx
        simp only [opK, T.All_on, List.map_cons, List.map_nil, xV] at hr
        obtain ⟨v, hv, hr⟩ := hr
        obtain ⟨p, hp⟩ := h.peekX hy
        obtain ⟨q, hq⟩ := h.peekX hz
        obtain ⟨v', h1, h2⟩ := runs_idxB hop ha hf hk hp hq h.heap hv
        exact ⟨v', _, st, G, hr, h, fun d _ => TR_of_CR h1, Stab.less (Ext.refl _ _) rfl (Less.refl _), fun w' hw' => h2 w' (hw'.resolve_left (by simp [AOp.pure]))⟩
      · cases hx
    · cases hx
  case h_11 op t y z yt hop =>
    simp only [Option.bind_eq_some_iff] at hx
    obtain ⟨⟨m, e, sz⟩, hta, kk, hk, hx⟩ := hx
    split at hx
    · rename_i hcond
      split at hx
      · simp only [Option.bind_eq_some_iff, Option.map_eq_some_iff] at hx
        obtain ⟨ay, hy, az, hz, rfl⟩ := hx
        simp only [opK, T.All_on, List.map_cons, List.map_nil, xV] at hr
        obtain ⟨v, hv, hr⟩ := hr
        obtain ⟨p, hp⟩ := h.peekX hy
        obtain ⟨q, hq⟩ := h.peekX hz
        exact fin' hr (runs_eqArr (neg := false) hop rfl hta hk hcond.1 hcond.2 hp hq hv)
      · simp only [Option.bind_eq_some_iff, Option.map_eq_some_iff] at hx
        obtain ⟨ay, hy, az, hz, rfl⟩ := hx
        simp only [opK, T.All_on, List.map_cons, List.map_nil, xV] at hr
        obtain ⟨v, hv, hr⟩ := hr
        obtain ⟨p, hp⟩ := h.peekX hy
        obtain ⟨q, hq⟩ := h.peekX hz
        exact fin' hr (runs_eqArr (neg := true) hop rfl hta hk hcond.1 hcond.2 hp hq hv)
      · cases hx
    · cases hx
  case h_12 s d y hop =>
    split at hx
    · rename_i hs hd
      simp only [Option.bind_eq_some_iff] at hx
      obtain ⟨⟨e, sz, by'⟩, hte, hx⟩ := hx
      split at hx
      · rename_i hc
        simp only [Option.map_eq_some_iff] at hx
        obtain ⟨ay, hy, rfl⟩ := hx
        simp only [opK, T.All_on, List.map_cons, List.map_nil, xV] at hr
        obtain ⟨v, hv, hr⟩ := hr
        obtain ⟨p, hp⟩ := h.peekX hy
        obtain ⟨v', h1, h2⟩ := runs_rStr hop hte hc.2 hd hp hv (bx := st.at)
        exact ⟨v', _, st, G, hr, h, fun d _ => TR_of_CR h1, Stab.less (Ext.refl _ _) rfl (Less.refl _), fun w' hw' => h2 w' (hw'.resolve_left (by simp [AOp.pure]))⟩
      · cases hx
    · rename_i hs hd
      simp only [Option.bind_eq_some_iff] at hx
      obtain ⟨⟨e, sz, by'⟩, hte, hx⟩ := hx
      split at hx
      · simp only [Option.map_eq_some_iff] at hx
        obtain ⟨_, _, rfl⟩ := hx; simp [AOp.early] at he
      · cases hx
    · cases hx
  case h_13 => cases hx

theorem late_sound1 (hcl : CallOk P cl) {x : AOp} (hx : pOp1 P hs o = some x) (he : x.early = false) (h : SR w0 F0 A n st a w G) {k : AV → St → T β} {R : β → Prop} (hr : (opK cl x st k).All R)
    {next : Act → World → Prop} {Q : Exit → Act → World → Prop} (hn : ∀ v' w', Done w0 F0 A n k R a o.dst st G w (x.calm = true) v' w' → next (a.put o.dst v') w') : o.wp P a w next Q := by
  unfold pOp1 at hx
  split at hx
  case h_1 => simp only [Option.bind_eq_some_iff, Option.map_eq_some_iff] at hx; obtain ⟨⟨_, _, _⟩, _, _, _, _, _, rfl⟩ := hx; simp [AOp.early] at he
  case h_2 =>
    simp only [Option.bind_eq_some_iff] at hx; obtain ⟨⟨_, _, _⟩, _, hx⟩ := hx
    split at hx
    · cases hx
    · simp only [Option.bind_eq_some_iff, Option.map_eq_some_iff] at hx; obtain ⟨_, _, _, _, _, _, rfl⟩ := hx; simp [AOp.early] at he
  case h_3 => simp only [Option.bind_eq_some_iff, Option.map_eq_some_iff] at hx; obtain ⟨⟨_, _, _⟩, _, _, _, _, _, _, _, rfl⟩ := hx; simp [AOp.early] at he
  case h_4 =>
    simp only [Option.bind_eq_some_iff] at hx; obtain ⟨_, _, _, _, _, _, hx⟩ := hx
    split at hx
    · simp only [Option.map_eq_some_iff] at hx; obtain ⟨_, _, rfl⟩ := hx; simp [AOp.early] at he
    · injection hx with hx; subst hx; simp [AOp.early] at he
  case h_5 =>
    split at hx
    · split at hx
      · simp only [Option.bind_eq_some_iff, Option.map_eq_some_iff] at hx; obtain ⟨_, _, _, _, rfl⟩ := hx; simp [AOp.early] at he
      · cases hx
    · cases hx
  case h_6 =>
    split at hx
    · split at hx
      · simp only [Option.bind_eq_some_iff, Option.map_eq_some_iff] at hx; obtain ⟨_, _, _, _, rfl⟩ := hx; simp [AOp.early] at he
      · cases hx
    · cases hx
  case h_10 =>
    simp only [Option.bind_eq_some_iff] at hx
    obtain ⟨fn, hf, kk, hk, hx⟩ := hx
    split at hx
    · simp only [Option.map_eq_some_iff] at hx; obtain ⟨_, _, rfl⟩ := hx; simp [AOp.early] at he
    · split at hx
      · simp only [Option.bind_eq_some_iff, Option.map_eq_some_iff] at hx; obtain ⟨_, _, _, _, rfl⟩ := hx; simp [AOp.early] at he
      · cases hx
    · cases hx
  case h_11 =>
    simp only [Option.bind_eq_some_iff] at hx
    obtain ⟨⟨m, e, sz⟩, hta, kk, hk, hx⟩ := hx
    split at hx
    · split at hx
      · simp only [Option.bind_eq_some_iff, Option.map_eq_some_iff] at hx; obtain ⟨_, _, _, _, rfl⟩ := hx; simp [AOp.early] at he
      · simp only [Option.bind_eq_some_iff, Option.map_eq_some_iff] at hx; obtain ⟨_, _, _, _, rfl⟩ := hx; simp [AOp.early] at he
      · cases hx
    · cases hx
  case h_12 s d y hop =>
    split at hx
    · simp only [Option.bind_eq_some_iff] at hx
      obtain ⟨⟨e, sz, by'⟩, hte, hx⟩ := hx
      split at hx
      · simp only [Option.map_eq_some_iff] at hx
        obtain ⟨_, _, rfl⟩ := hx; simp [AOp.early] at he
      · cases hx
    · rename_i hs hd
      simp only [Option.bind_eq_some_iff] at hx
      obtain ⟨⟨e, sz, by'⟩, hte, hx⟩ := hx
      split at hx
      · rename_i hc
        simp only [Option.map_eq_some_iff] at hx
        obtain ⟨ay, hy, rfl⟩ := hx
        simp only [opK, T.All_on] at hr
        obtain ⟨v, hv, hr⟩ := hr
        obtain ⟨p, hp⟩ := h.peekX hy
        unfold cvSR at hv
        split at hv
        · rename_i l hl
          rw [hl] at hp
          obtain ⟨t, ht, htl⟩ := TR_str hp
          split at hv
          · rename_i hle
            injection hv with hv; subst hv
            have hsz := size_runesFrom t t.size 0 #[]
            have htz : t.size = l.length := by rw [← htl]; simp
            have hrun := run_runes_of_string (P := P) w s d e t (tkind_2 hs) (telem_inv hte).1 (tint_inv hc.2) (by simp at hsz; omega)
            obtain ⟨G', k1, k2, k3, k4, k5⟩ := h.runes e t (grownCap w (Conv.runesFrom t t.size 0 #[]).size 0 e - (Conv.runesFrom t t.size 0 #[]).size)
            have k2' := k2 (grownCap w (Conv.runesFrom t t.size 0 #[]).size 0 e) (by have := grownCap_ge w (Conv.runesFrom t t.size 0 #[]).size 0 e; omega)
            rw [htl] at k2'
            have hR : Runs P o a w (.slice (some ⟨w.heap.size, 0, none⟩) (Conv.runesFrom t t.size 0 #[]).size (grownCap w (Conv.runesFrom t t.size 0 #[]).size 0 e)) (w.drew.alloc (.cells (Conv.runesFrom t t.size 0 #[] ++ Array.replicate (grownCap w (Conv.runesFrom t t.size 0 #[]).size 0 e - (Conv.runesFrom t t.size 0 #[]).size) (.int .i32 0)) e)) := by
              simp only [Runs, execOp, hop, ht, Sem.run_bind, hrun, Result.andThen_ok, Sem.run_pure]
            refine hR.wp (hn _ _ ⟨_, _, G', hr, k1, fun d _ => TR_of_CR k2', fun _ => ⟨k4, fun s t ht => by rw [k3]; exact ht, fun _ h => h, fun s ob t' hs hg => ?_⟩⟩)
            obtain ⟨g', j1, j2, j3, j4⟩ := h.at hs
            rw [hg] at j1; injection j1 with j1; subst j1
            exact k5 t'.b j3
          · cases hv
        · cases hv
      · cases hx
    · cases hx
  case h_13 => cases hx
  case h_7 t parts hop =>
    simp only [Option.bind_eq_some_iff, Option.map_eq_some_iff] at hx
    obtain ⟨⟨m, e, sz⟩, hta, z, hz, ps, hps, rfl⟩ := hx
    obtain ⟨i, v, hi, hiz, hof⟩ := tzero_inv hz
    have hrow := cells_RowR (ofConst_CR (w := w) (Fr := G.Fr) hof)
    simp only [opK] at hr
    obtain ⟨cs', vs', st', G', e1, e2, e3, e4, e6, e7, e8, e5⟩ := fill_sound hps hr h hrow
    exact (runs_buildArr hop hta hi hiz e5 w).wp (hn _ _ ⟨_, _, G', e1, e2, fun d _ => TR_of_CR (.agg _ _ e3.1 (fun i hi => (e3.2 i (by rw [← e3.1]; exact hi) hi).1) (fun i hi hi' => (e3.2 i hi hi').2)), fun _ => Stab.less e7 e6 e8⟩)
  case h_8 args ats hop =>
    split at hx
    · rename_i y t ha hta
      split at hx
      · rename_i hk
        simp only [Option.map_eq_some_iff] at hx
        obtain ⟨ay, hy, rfl⟩ := hx
        simp only [opK, T.All_bind] at hr
        obtain ⟨G1, g1, c1, b1, e1, t1⟩ := h.giveX hy
        have hsev : (give st ay).1.several = false := by
          cases hg : (give st ay).1 with
          | tup xs => rw [hg] at hr; exact hr.elim
          | _ => rfl
        obtain ⟨v, v', st', h1, h2, h3, h4⟩ := cap_sound g1 hop ha hta hk (t1 hsev (fun _ => .mid)) hr
        exact h4.wp (hn _ _ ⟨v, st', G1, h1, h2, fun d _ => TR_of_CR h3, fun hc => by simp [AOp.calm] at hc⟩)
      · cases hx
    · cases hx
  case h_9 f args ats hop =>
    simp only [Option.map_eq_some_iff] at hx
    obtain ⟨ps, hps, rfl⟩ := hx
    simp only [opK] at hr
    obtain ⟨vs, st', G1, e1, e2, e3, e4, e5, e6, e7, e8, e9⟩ := args_sound hps hr h
    simp only [T.All_on] at e1
    obtain ⟨⟨g, vs2⟩, hd, e1⟩ := e1
    obtain ⟨pf, hpf⟩ := h.peekX (x := .tmp f) (ax := .p f) (own := false) rfl
    unfold dTarget at hd
    split at hd
    · rename_i hpk
      injection hd with hd; injection hd with hd1 hd2; subst hd2
      rw [hpk] at hpf
      have hfe := TR_fn hpf
      rw [hd1] at hfe
      have hrun : (execOp a.eval o).run P w = (callFunc g (args.map a.eval)).run P w := by
        simp only [execOp, hop, resolve, hfe]
        simp [invoke, Deferred.ofValue]
      cases hh3 : (hsOf hs o.dst == 3) with
      | true =>
        rw [hh3] at e1
        simp only [T.All_bind] at e1
        have main : ∀ {v : AV × H} {e : Ending} {w'' : World}, (k v.1 ⟨st'.s, st'.b, v.2⟩).All R → CallPost w G1.Fr (outOwn G1.ω) v e w'' → ∃ v', e = .returned v' ∧ next (a.put o.dst v') w'' := by
          intro v e w'' hk hp
          obtain ⟨v', G', he', hS, hT⟩ := e2.called hp o.dst
          subst he'
          exact ⟨v', rfl, hn _ _ ⟨v.1, _, G', hk, hS, fun d hd => by rw [← slotAt_eq hd]; exact hT, fun hc => by simp [AOp.calm] at hc⟩⟩
        unfold Oper.wp
        rw [hrun]
        rcases hcl g vs st'.h _ e1 w G1 (args.map a.eval) (by simp [e3]) (fun i hi hi' => by
          have := e4 i hi (by rw [← e3]; exact hi)
          simpa using this) e2.heap (fun b hb => (e2.mine b (fun e => by unfold outOwn at hb; rw [e] at hb; cases hb)).1) e2.fresh with ⟨v1, w1, r0, r1, hk, r2⟩ | ⟨g', r1, r2⟩
        · rw [r1]
          obtain ⟨v', e', hh⟩ := main hk r2
          injection e' with e'; subst e'
          exact hh
        · rw [r1, Oper.upon_enter]
          refine Calls.mono r2 (fun e w'' ⟨r0, hk, hp⟩ => ?_)
          obtain ⟨v', he', hh⟩ := main hk hp
          subst he'; exact hh
      | false =>
        rw [hh3] at e1
        simp only [T.All_bind, T.All_on] at e1
        have main : ∀ {r0 : AV × H} {e : Ending} {w'' : World}, (∃ v, noHeap st'.h.n r0 = some v ∧ (k v st').All R) → CallPost w G1.Fr (outOwn G1.bare.ω) r0 e w'' → ∃ v', e = .returned v' ∧ next (a.put o.dst v') w'' := by
          intro r0 e w'' ⟨v, hnh, hk⟩ hp
          obtain ⟨v', G', he', hS, hT, hSt⟩ := e2.calledP hnh hp o.dst
          subst he'
          exact ⟨v', rfl, hn _ _ ⟨v, st', G', hk, hS, fun d hd => by rw [← slotAt_eq hd]; exact hT, fun hc => by simp [AOp.calm] at hc⟩⟩
        unfold Oper.wp
        rw [hrun]
        rcases hcl g vs st'.h.mask _ e1 w G1.bare (args.map a.eval) (by simp [e3]) (fun i hi hi' => by
          have := e4 i hi (by rw [← e3]; exact hi)
          simp only [Nat.zero_add] at this
          exact ⟨by simpa using this.1.bare, this.2⟩) e2.heap.mask (fun b hb => by
            obtain ⟨i, hi⟩ := Gh.bare_out.1 hb
            exact (e2.mine b (by rw [hi]; simp)).1) e2.fresh with ⟨v1, w1, r0, r1, hk, r2⟩ | ⟨g', r1, r2⟩
        · rw [r1]
          obtain ⟨v', e', hh⟩ := main hk r2
          injection e' with e'; subst e'
          exact hh
        · rw [r1, Oper.upon_enter]
          refine Calls.mono r2 (fun e w'' ⟨r0, hk, hp⟩ => ?_)
          obtain ⟨v', he', hh⟩ := main hk hp
          subst he'; exact hh
    · rename_i hnn _; cases hnn
    · cases hd

theorem early_soundA (all : List Oper) {x : AOp} (hx : pOpA P sg hs all o = some x) (he : x.early = true) (h : SR w0 F0 A n st a w G) {k : AV → St → T β} {R : β → Prop} (hr : (opK cl x st k).All R) :
    ∃ v' v st' G', (k v st').All R ∧ SR w0 F0 A n st' a w G' ∧ (∀ d, o.dst = some d → TR w G' (.slot d) v v') ∧ Stab st.at G w st'.at G' w ∧ ∀ w', ((x.pure = true ∧ Pres (fun _ => none) G' w w') ∨ Pres st'.at G' w w') → Runs P o a w' v' w' := by
  unfold pOpA at hx
  split at hx
  · rename_i y hy
    injection hx with hx; subst hx
    exact early_sound1 hy he h hr
  · exact early_sound cl all hx he h hr

theorem late_soundA (hcl : CallOk P cl) (all : List Oper) {x : AOp} (hx : pOpA P sg hs all o = some x) (he : x.early = false) (h : SR w0 F0 A n st a w G) {k : AV → St → T β} {R : β → Prop} (hr : (opK cl x st k).All R)
    {next : Act → World → Prop} {Q : Exit → Act → World → Prop} (hn : ∀ v' w', Done w0 F0 A n k R a o.dst st G w (x.calm = true) v' w' → next (a.put o.dst v') w') : o.wp P a w next Q := by
  unfold pOpA at hx
  split at hx
  · rename_i y hy
    injection hx with hx; subst hx
    exact late_sound1 hcl hy he h hr hn
  · exact late_sound hcl all hx he h hr hn

theorem op_soundA (hcl : CallOk P cl) (all : List Oper) {x : AOp} (hx : pOpA P sg hs all o = some x) (h : SR w0 F0 A n st a w G) {k : AV → St → T β} {R : β → Prop} (hr : (opK cl x st k).All R)
    {next : Act → World → Prop} {Q : Exit → Act → World → Prop} (hn : ∀ v' w', Done w0 F0 A n k R a o.dst st G w (x.early = true ∨ x.calm = true) v' w' → next (a.put o.dst v') w') : o.wp P a w next Q := by
  cases he : x.early with
  | true =>
    obtain ⟨v', v, st', G', h1, h2, h3, h4, hR⟩ := early_soundA all hx he h hr
    exact (hR w (.inr (Pres.refl _ _ _))).wp (hn _ _ ⟨v, st', G', h1, h2, h3, fun _ => h4⟩)
  | false =>
    refine late_soundA hcl all hx he h hr fun v' w' ⟨v, st', G', h1, h2, h3, h4⟩ => hn _ _ ⟨v, st', G', h1, h2, h3, fun hc => h4 ?_⟩
    rcases hc with hc | hc
    · rw [he] at hc; cases hc
    · exact hc

end Go.Proofs.YtdnfnobgeddbfaaGreatDoor.Abs

/- Operations that touch no box: what they read and write are their slots. -/
namespace Go.Proofs.YtdnfnobgeddbfaaGreatDoor.Abs
set_option linter.all false

structure Fram (L : List Nat) (st st' st2 st2' : St) : Prop where
  b1 : st'.b = st.b
  b2 : st2'.b = st2.b
  o1 : ∀ m, m ∉ L → st'.s m = st.s m
  o2 : ∀ m, m ∉ L → st2'.s m = st2.s m
  ag : ∀ m, m ∈ L → st2'.s m = st'.s m
  h1 : st'.h = st.h
  h2 : st2'.h = st2.h

theorem Fram.refl {L : List Nat} {st st2 : St} (h : ∀ m, m ∈ L → st2.s m = st.s m) : Fram L st st st2 st2 := ⟨rfl, rfl, fun _ _ => rfl, fun _ _ => rfl, h, rfl, rfl⟩
theorem Fram.trans {L : List Nat} {a b c a2 b2 c2 : St} (h : Fram L a b a2 b2) (k : Fram L b c b2 c2) : Fram L a c a2 c2 :=
  ⟨k.b1.trans h.b1, k.b2.trans h.b2, fun m hm => (k.o1 m hm).trans (h.o1 m hm), fun m hm => (k.o2 m hm).trans (h.o2 m hm), k.ag, k.h1.trans h.h1, k.h2.trans h.h2⟩
theorem Fram.set {L : List Nat} {st st2 : St} {n : Nat} (hn : n ∈ L) (h : ∀ m, m ∈ L → st2.s m = st.s m) (v : AV) : Fram L st (st.set n v) st2 (st2.set n v) := by
  refine ⟨rfl, rfl, fun m hm => ?_, fun m hm => ?_, fun m hm => ?_, rfl, rfl⟩
  · exact upd_ne _ _ _ _ (fun e => hm (e ▸ hn))
  · exact upd_ne _ _ _ _ (fun e => hm (e ▸ hn))
  · simp only [St.set, upd]; split; { rfl }; { exact h m hm }

section
variable {L : List Nat} {st st2 : St} {x : AX}

theorem peek_fram (hx : ∀ n ∈ x.slots, n ∈ L) (h : ∀ m, m ∈ L → st2.s m = st.s m) : peek st2 x = peek st x := by
  cases x with
  | t n => simp only [peek]; rw [h n (hx n (by simp [AX.slots]))]
  | m n => simp only [peek]; rw [h n (hx n (by simp [AX.slots]))]
  | u n => simp only [peek]; rw [h n (hx n (by simp [AX.slots]))]
  | f n => simp only [peek]; rw [h n (hx n (by simp [AX.slots]))]
  | p n => simp only [peek]; rw [h n (hx n (by simp [AX.slots]))]
  | c v => rfl

theorem give_fram (hw : x.still = true) (hx : ∀ n ∈ x.slots, n ∈ L) (h : ∀ m, m ∈ L → st2.s m = st.s m) : (give st2 x).1 = (give st x).1 ∧ Fram L st (give st x).2 st2 (give st2 x).2 := by
  cases x with
  | t n =>
    have e := h n (hx n (by simp [AX.slots]))
    simp only [give]; rw [e]
    exact ⟨rfl, Fram.set (hx n (by simp [AX.slots])) h _⟩
  | p n => simp only [give]; rw [h n (hx n (by simp [AX.slots]))]; exact ⟨rfl, Fram.refl h⟩
  | c v => exact ⟨rfl, Fram.refl h⟩
  | m n => cases hw
  | u n => cases hw
  | f n => cases hw

theorem take_fram (hw : x.still = true) (hx : ∀ n ∈ x.slots, n ∈ L) (h : ∀ m, m ∈ L → st2.s m = st.s m) : (take st2 x).1 = (take st x).1 ∧ Fram L st (take st x).2 st2 (take st2 x).2 := by
  cases x with
  | t n =>
    have e := h n (hx n (by simp [AX.slots]))
    simp only [take]; rw [e]
    exact ⟨rfl, Fram.set (hx n (by simp [AX.slots])) h _⟩
  | p n => simp only [take]; rw [h n (hx n (by simp [AX.slots]))]; exact ⟨rfl, Fram.refl h⟩
  | c v => exact ⟨rfl, Fram.refl h⟩
  | m n => cases hw
  | u n => cases hw
  | f n => cases hw

theorem copy_fram (m : Mode) (hw : x.still = true) (hx : ∀ n ∈ x.slots, n ∈ L) (h : ∀ m, m ∈ L → st2.s m = st.s m) : (copy m st2 x).1 = (copy m st x).1 ∧ Fram L st (copy m st x).2 st2 (copy m st2 x).2 := by
  cases x with
  | t n =>
    have e := h n (hx n (by simp [AX.slots]))
    simp only [copy]; rw [e]
    exact ⟨rfl, Fram.set (hx n (by simp [AX.slots])) h _⟩
  | p n => simp only [copy]; rw [h n (hx n (by simp [AX.slots]))]; exact ⟨rfl, Fram.refl h⟩
  | c v => exact ⟨rfl, Fram.refl h⟩
  | m n => cases hw
  | u n => cases hw
  | f n => cases hw
end

theorem fillK_fram {L : List Nat} : ∀ {l : List (Nat × Nat × AX)} {cs : List AV} {st : St}, (∀ q ∈ l, q.2.2.still = true ∧ ∀ n ∈ q.2.2.slots, n ∈ L) →
    ∃ o st', (∀ {γ : Type} (k' : List AV → St → T γ), fillK l cs st k' = T.on o fun cs' => k' cs' st') ∧
      ∀ st2 : St, (∀ m, m ∈ L → st2.s m = st.s m) → ∃ st2', Fram L st st' st2 st2' ∧ ∀ {γ : Type} (k' : List AV → St → T γ), fillK l cs st2 k' = T.on o fun cs' => k' cs' st2'
  | [], cs, st, _ => ⟨some cs, st, fun _ => rfl, fun st2 h => ⟨st2, Fram.refl h, fun _ => rfl⟩⟩
  | (off, n, x) :: l, cs, st, hl => by
    have f0 : ∀ {st2 : St}, (∀ m, m ∈ L → st2.s m = st.s m) → _ := fun {st2} h => give_fram (st2 := st2) (hl _ List.mem_cons_self).1 (hl _ List.mem_cons_self).2 h
    cases h1 : fillV cs off n (give st x).1 with
    | none => exact ⟨none, st, fun k' => by simp only [fillK, h1, T.on], fun st2 h => ⟨st2, Fram.refl h, fun k' => by simp only [fillK, (f0 h).1, h1, T.on]⟩⟩
    | some cs1 =>
      obtain ⟨o, st', g3, g4⟩ := fillK_fram (cs := cs1) (st := (give st x).2) (fun q hq => hl q (List.mem_cons_of_mem _ hq))
      refine ⟨o, st', fun k' => by simp only [fillK, h1]; exact g3 k', fun st2 h => ?_⟩
      obtain ⟨e1, f1⟩ := f0 h
      obtain ⟨st2', g5, g6⟩ := g4 _ f1.ag
      exact ⟨st2', f1.trans g5, fun k' => by simp only [fillK, e1, h1]; exact g6 k'⟩

theorem argsK_fram {L : List Nat} : ∀ {l : List (AX × Bool)} {st : St}, (∀ q ∈ l, q.1.still = true ∧ ∀ n ∈ q.1.slots, n ∈ L) →
    ∃ o st', (∀ {γ : Type} (k' : List AV → St → T γ), argsK l st k' = T.on o fun vs => k' vs st') ∧
      ∀ st2 : St, (∀ m, m ∈ L → st2.s m = st.s m) → ∃ st2', Fram L st st' st2 st2' ∧ ∀ {γ : Type} (k' : List AV → St → T γ), argsK l st2 k' = T.on o fun vs => k' vs st2'
  | [], st, _ => ⟨some [], st, fun _ => rfl, fun st2 h => ⟨st2, Fram.refl h, fun _ => rfl⟩⟩
  | (x, true) :: l, st, hl => by
    have f0 : ∀ {st2 : St}, (∀ m, m ∈ L → st2.s m = st.s m) → _ := fun {st2} h => take_fram (st2 := st2) (hl _ List.mem_cons_self).1 (hl _ List.mem_cons_self).2 h
    cases h1 : pln (take st x).1 with
    | none => exact ⟨none, st, fun k' => by simp only [argsK, h1, T.on], fun st2 h => ⟨st2, Fram.refl h, fun k' => by simp only [argsK, (f0 h).1, h1, T.on]⟩⟩
    | some u =>
      obtain ⟨o, st', g3, g4⟩ := argsK_fram (st := (take st x).2) (fun q hq => hl q (List.mem_cons_of_mem _ hq))
      refine ⟨o.map fun vs => (take st x).1 :: vs, st', fun k' => ?_, fun st2 h => ?_⟩
      · simp only [argsK, h1]; rw [T.on, g3]; cases o <;> rfl
      · obtain ⟨e1, f1⟩ := f0 h
        obtain ⟨st2', g5, g6⟩ := g4 _ f1.ag
        refine ⟨st2', f1.trans g5, fun k' => ?_⟩
        simp only [argsK, e1, h1]; rw [T.on, g6]; cases o <;> rfl
  | (x, false) :: l, st, hl => by
    have f0 : ∀ {st2 : St}, (∀ m, m ∈ L → st2.s m = st.s m) → _ := fun {st2} h => give_fram (st2 := st2) (hl _ List.mem_cons_self).1 (hl _ List.mem_cons_self).2 h
    cases h1 : pln (give st x).1 with
    | none => exact ⟨none, st, fun k' => by simp only [argsK, h1, T.on], fun st2 h => ⟨st2, Fram.refl h, fun k' => by simp only [argsK, (f0 h).1, h1, T.on]⟩⟩
    | some u =>
      obtain ⟨o, st', g3, g4⟩ := argsK_fram (st := (give st x).2) (fun q hq => hl q (List.mem_cons_of_mem _ hq))
      refine ⟨o.map fun vs => (give st x).1 :: vs, st', fun k' => ?_, fun st2 h => ?_⟩
      · simp only [argsK, h1]; rw [T.on, g3]; cases o <;> rfl
      · obtain ⟨e1, f1⟩ := f0 h
        obtain ⟨st2', g5, g6⟩ := g4 _ f1.ag
        refine ⟨st2', f1.trans g5, fun k' => ?_⟩
        simp only [argsK, e1, h1]; rw [T.on, g6]; cases o <;> rfl

theorem on_bind {α β : Type} (o : Option α) (f : α → T β) : T.on o f = (T.ofO o).bind f := by cases o <;> rfl
theorem bind_bind {α β γ : Type} (f : α → T β) (g : β → T γ) : ∀ x : T α, (x.bind f).bind g = x.bind fun a => (f a).bind g
  | .ret _ => rfl
  | .fail => rfl
  | .pick n k => by simp only [T.bind]; congr 1; funext d; exact bind_bind f g (k d)
theorem on_bind2 {α β γ : Type} (o : Option α) (f : α → T β) (g : β → T γ) : (T.on o f).bind g = T.on o fun a => (f a).bind g := by cases o <;> rfl

theorem opK_fram {cl : FuncId → List AV → H → T (AV × H)} {L F : List Nat} {x : AOp} (hw : x.still = true) (hf : x.foot = some F) (hL : ∀ n ∈ F, n ∈ L) (st : St) :
    ∃ (t : T AV) (st' : St), (∀ {γ : Type} (k' : AV → St → T γ), opK cl x st k' = t.bind fun v => k' v st') ∧
      ∀ st2 : St, (∀ m, m ∈ L → st2.s m = st.s m) → st2.h = st.h → ∃ st2', Fram L st st' st2 st2' ∧ ∀ {γ : Type} (k' : AV → St → T γ), opK cl x st2 k' = t.bind fun v => k' v st2' := by
  by_cases hpx : ∃ o args, x = .px o args
  · obtain ⟨o, args, rfl⟩ := hpx
    have hfo : F = args.flatMap AX.slots := by
      cases o <;> simp [AOp.foot] at hf <;> exact hf.symm
    subst hfo
    refine ⟨_, _, fun k' => by simp only [opK]; rw [on_bind], fun st2 h hh => ?_⟩
    have e1 : args.map (peek st2) = args.map (peek st) := List.map_congr_left fun y hy => peek_fram (fun n hn => hL n (List.mem_flatMap.2 ⟨y, hy, hn⟩)) h
    exact ⟨_, Fram.refl h, fun k' => by simp only [opK, e1, hh]; rw [on_bind]⟩
  by_cases hmk : ∃ o e sz b z y1 y2, x = AOp.mkSl o e sz b z y1 y2
  · obtain ⟨obj, e, sz, by', z, x, y, rfl⟩ := hmk
    clear hpx
    cases obj with
    | true => simp [AOp.foot] at hf
    | false =>
      simp only [AOp.foot, Option.some.injEq] at hf; subst hf
      have em : ∀ s : St, mkV false e sz by' z (peek s x) (peek s y) s = ((mkN by' (peek s x) (peek s y)).map fun q => AV.slice (.own true) e sz (repCells q.1 z)).map fun v => (v, s) := fun s => by
        unfold mkV; cases mkN by' (peek s x) (peek s y) <;> rfl
      have eo : ∀ {γ : Type} (s : St) (k' : AV → St → T γ), opK cl (.mkSl false e sz by' z x y) s k' = (T.ofO ((mkN by' (peek s x) (peek s y)).map fun q => AV.slice (.own true) e sz (repCells q.1 z))).bind fun v => k' v s := fun s k' => by
        simp only [opK]; rw [em]; cases mkN by' (peek s x) (peek s y) <;> rfl
      refine ⟨_, _, fun k' => eo st k', fun st2 h hh => ?_⟩
      have e1 := peek_fram (x := x) (fun n hn => hL n (List.mem_append_left _ hn)) h
      have e2 := peek_fram (x := y) (fun n hn => hL n (List.mem_append_right _ hn)) h
      exact ⟨_, Fram.refl h, fun k' => by rw [eo, e1, e2]⟩
  cases x <;> (try exact absurd ⟨_, _, rfl⟩ hpx) <;> (try exact absurd ⟨_, _, _, _, _, _, _, rfl⟩ hmk) <;> simp only [AOp.foot, Option.some.injEq, reduceCtorEq] at hf <;> subst hf
  case move m x =>
    refine ⟨.ret _, _, fun _ => rfl, fun st2 h hh => ?_⟩
    obtain ⟨e1, f1⟩ := copy_fram m hw hL h
    exact ⟨_, f1, fun k' => by simp only [opK, e1]; rfl⟩
  case assign x =>
    refine ⟨.ret _, _, fun _ => rfl, fun st2 h hh => ?_⟩
    obtain ⟨e1, f1⟩ := take_fram hw hL h
    exact ⟨_, f1, fun k' => by simp only [opK, e1]; rfl⟩
  case build z parts =>
    obtain ⟨o, st', g3, g4⟩ := fillK_fram (L := L) (cs := z) (st := st) (fun q hq => ⟨List.all_eq_true.1 hw q hq, fun n hn => hL n (List.mem_flatMap.2 ⟨q, hq, hn⟩)⟩)
    refine ⟨T.on o fun cs => .ret (.agg cs), st', fun k' => ?_, fun st2 h hh => ?_⟩
    · simp only [opK]; rw [g3, on_bind2]; rfl
    · obtain ⟨st2', g5, g6⟩ := g4 st2 h
      exact ⟨st2', g5, fun k' => by simp only [opK]; rw [g6, on_bind2]; rfl⟩
  case buildSl e sz z parts =>
    obtain ⟨o, st', g3, g4⟩ := fillK_fram (L := L) (cs := z) (st := st) (fun q hq => ⟨List.all_eq_true.1 hw q hq, fun n hn => hL n (List.mem_flatMap.2 ⟨q, hq, hn⟩)⟩)
    refine ⟨T.on o fun cs => .ret (.slice (.own true) e sz cs), st', fun k' => ?_, fun st2 h hh => ?_⟩
    · simp only [opK]; rw [g3, on_bind2]; rfl
    · obtain ⟨st2', g5, g6⟩ := g4 st2 h
      exact ⟨st2', g5, fun k' => by simp only [opK]; rw [g6, on_bind2]; rfl⟩
  case call f args =>
    obtain ⟨o, st', g3, g4⟩ := argsK_fram (L := L) (st := st) (fun q hq => ⟨List.all_eq_true.1 hw q hq, fun n hn => hL n (List.mem_flatMap.2 ⟨q, hq, hn⟩)⟩)
    refine ⟨T.on o fun vs => (cl f vs st'.h.mask).bind fun q => T.on (noHeap st'.h.n q) .ret, st', fun k' => ?_, fun st2 h hh => ?_⟩
    · simp only [opK]; rw [g3, on_bind2]; congr 1; funext vs; rw [bind_bind]; congr 1; funext q; rw [on_bind2]; rfl
    · obtain ⟨st2', g5, g6⟩ := g4 st2 h
      have e : st2'.h = st'.h := by rw [g5.h1, g5.h2, hh]
      refine ⟨st2', g5, fun k' => ?_⟩
      simp only [opK]; rw [g6, on_bind2, e]; congr 1; funext vs; rw [bind_bind]; congr 1; funext q; rw [on_bind2]; rfl
  case convBS x =>
    refine ⟨_, _, fun k' => by simp only [opK]; rw [on_bind], fun st2 h hh => ?_⟩
    obtain ⟨e1, f1⟩ := give_fram hw hL h
    have e : (give st2 x).2.h = (give st x).2.h := by rw [f1.h1, f1.h2, hh]
    exact ⟨_, f1, fun k' => by simp only [opK, e, e1]; rw [on_bind]⟩
  case mkIface t x =>
    refine ⟨_, _, fun k' => by simp only [opK]; rw [on_bind], fun st2 h hh => ?_⟩
    obtain ⟨e1, f1⟩ := give_fram hw hL h
    exact ⟨_, f1, fun k' => by simp only [opK, e1]; rw [on_bind]⟩
  case append e sz by' str x y =>
    have hLx : ∀ n ∈ x.slots, n ∈ L := fun n hn => hL n (List.mem_append_left _ hn)
    have hLy : ∀ n ∈ y.slots, n ∈ L := fun n hn => hL n (List.mem_append_right _ hn)
    refine ⟨_, _, fun k' => by simp only [opK]; rw [on_bind], fun st2 h hh => ?_⟩
    obtain ⟨e1, f1⟩ := take_fram hw hLx h
    have e2 := peek_fram hLy h
    have e : (take st2 x).2.h = (take st x).2.h := by rw [f1.h1, f1.h2, hh]
    exact ⟨_, f1, fun k' => by simp only [opK, e, e1, e2]; rw [on_bind]⟩
  case bin op kd lit x y =>
    refine ⟨_, _, fun k' => by simp only [opK]; rw [on_bind], fun st2 h hh => ?_⟩
    have e1 := peek_fram (x := x) (fun n hn => hL n (List.mem_append_left _ hn)) h
    have e2 := peek_fram (x := y) (fun n hn => hL n (List.mem_append_right _ hn)) h
    exact ⟨_, Fram.refl h, fun k' => by simp only [opK, e1, e2]; rw [on_bind]⟩
  case extract t i =>
    refine ⟨T.ofO ((exV (st.s t) i).map (·.1)), (match exV (st.s t) i with | some q => st.set t q.2 | none => st), fun k' => ?_, fun st2 h hh => ?_⟩
    · simp only [opK]; cases exV (st.s t) i <;> rfl
    · have e := h t (hL t (by simp))
      cases hq : exV (st.s t) i with
      | none => exact ⟨st2, Fram.refl h, fun k' => by simp only [opK, e, hq]; rfl⟩
      | some q => exact ⟨st2.set t q.2, Fram.set (hL t (by simp)) h _, fun k' => by simp only [opK, e, hq]; rfl⟩
  case indexStr x y =>
    refine ⟨_, _, fun k' => by simp only [opK]; rw [on_bind], fun st2 h hh => ?_⟩
    have e1 := peek_fram (x := x) (fun n hn => hL n (List.mem_append_left _ hn)) h
    have e2 := peek_fram (x := y) (fun n hn => hL n (List.mem_append_right _ hn)) h
    exact ⟨_, Fram.refl h, fun k' => by simp only [opK, e1, e2]; rw [on_bind]⟩
  all_goals
    rename_i x
    refine ⟨_, _, fun k' => by simp only [opK]; rw [on_bind], fun st2 h hh => ?_⟩
    have e1 := peek_fram (x := x) hL h
    exact ⟨_, Fram.refl h, fun k' => by simp only [opK, e1]; rw [on_bind]⟩

theorem All_forall {α : Type} {n : Nat} {P : Nat → α → Prop} : ∀ {t : T α}, (∀ d, d ≤ n → t.All (P d)) → t.All fun a => ∀ d, d ≤ n → P d a
  | .ret _, h => h
  | .fail, h => h 0 (Nat.zero_le _)
  | .pick _ k, h => fun e he => All_forall fun d hd => h d hd e he
theorem All_swap {α β : Type} {P : α → β → Prop} {ty : T β} : ∀ {tx : T α}, (tx.All fun v => ty.All fun u => P v u) → ty.All fun u => tx.All fun v => P v u
  | .ret _, h => h
  | .fail, h => h.elim
  | .pick _ k, h => All_forall fun d hd => All_swap (h d hd)

theorem swap_box {β : Type} {cl : FuncId → List AV → H → T (AV × H)} {x y : AOper} (h : boxOk x y = true) {l : List AOper} {st : St} {k : St → T β} {R : β → Prop}
    (hr : (opsK cl (x :: y :: l) st k).All R) : (opsK cl (y :: x :: l) st k).All R := by
  obtain ⟨xop, xd, xg⟩ := x
  obtain ⟨yop, yd, yg⟩ := y
  unfold boxOk at h
  split at h
  · rename_i d cs d' dx fx h1 h2 h3 h4 h5 h6
    simp only at h1 h2 h3 h4 h5 h6
    subst h1; subst h2; subst h3; subst h4; subst h5
    simp only [Bool.and_eq_true, beq_iff_eq, Bool.not_eq_true', beq_eq_false_iff_ne, ne_eq] at h
    obtain ⟨⟨⟨rfl, wx⟩, hdx⟩, hd⟩ := h
    have hd : d' ∉ fx := by
      intro hm
      have : fx.contains d' = true := List.contains_iff_mem.2 hm
      rw [this] at hd; cases hd
    simp only [opsK] at hr ⊢
    obtain ⟨tx, st1, ex, fx'⟩ := opK_fram (cl := cl) (L := fx) wx h6 (fun _ h => h) st
    obtain ⟨st1z, f1, _⟩ := fx' st (fun _ _ => rfl) rfl
    rw [ex, T.All_bind] at hr
    have hbd : st.b d' = none := by
      obtain ⟨v, hv⟩ := hr.ex
      simp only [opK] at hv
      have e : (st1.put (some dx) v).b = st.b := f1.b1
      rw [e] at hv
      cases hb : st.b d' with
      | none => rfl
      | some o => rw [hb] at hv; exact hv.elim
    have hN : ∀ (s : St) (k' : AV → St → T β), s.b d' = none → opK cl (.newbox1 d' cs) s k' = k' (.ptr (.loc d') 0) ⟨s.s, upd s.b d' (some (.cells cs)), s.h⟩ := fun s k' hs => by simp only [opK, hs]
    rw [hN st _ hbd]
    obtain ⟨st2', f2, ex2⟩ := fx' ((⟨st.s, upd st.b d' (some (.cells cs)), st.h⟩ : St).put (some d') (.ptr (.loc d') 0)) (fun m hm => by
      have hne : m ≠ d' := fun e => hd (e ▸ hm)
      simp only [St.put, St.set]; rw [upd_ne _ _ _ _ hne]) rfl
    rw [ex2, T.All_bind]
    refine T.All.mono (fun v hv => ?_) hr
    simp only [opK] at hv
    have e : (st1.put (some dx) v).b = st.b := f1.b1
    rw [e, hbd] at hv
    have key : st2'.put (some dx) v = (⟨(st1.put (some dx) v).s, upd st.b d' (some (.cells cs)), (st1.put (some dx) v).h⟩ : St).put (some d') (.ptr (.loc d') 0) := by
      have hs : (st2'.put (some dx) v).s = ((⟨(st1.put (some dx) v).s, upd st.b d' (some (.cells cs)), (st1.put (some dx) v).h⟩ : St).put (some d') (.ptr (.loc d') 0)).s := by
        funext m
        simp only [St.put, St.set, upd]
        by_cases m1 : m = dx
        · have : m ≠ d' := fun e => hdx (m1 ▸ e)
          rw [if_pos m1, if_neg this, if_pos m1]
        · rw [if_neg m1]
          by_cases m2 : m = d'
          · rw [if_pos m2, f2.o2 m (fun hm => hd (m2 ▸ hm))]
            simp only [St.put, St.set, upd]; rw [if_pos m2]
          · rw [if_neg m2, if_neg m1]
            by_cases m3 : m ∈ fx
            · exact f2.ag m m3
            · rw [f2.o2 m m3, f1.o1 m m3]
              simp only [St.put, St.set, upd]; rw [if_neg m2]
      have hb : (st2'.put (some dx) v).b = upd st.b d' (some (.cells cs)) := f2.b2
      have hh : (st2'.put (some dx) v).h = st1.h := by
        show st2'.h = st1.h
        rw [f2.h2, f1.h1]; rfl
      have : ∀ a b : St, a.s = b.s → a.b = b.b → a.h = b.h → a = b := fun a b h1 h2 h3 => by cases a; cases b; simp_all
      exact this _ _ hs hb hh
    rw [key]
    exact hv
  · cases h

theorem swap_ops {β : Type} {cl : FuncId → List AV → H → T (AV × H)} {x y : AOper} (h : swapOk x y = true) {l : List AOper} {st : St} {k : St → T β} {R : β → Prop}
    (hr : (opsK cl (x :: y :: l) st k).All R) : (opsK cl (y :: x :: l) st k).All R := by
  obtain ⟨xop, xd, xg⟩ := x
  obtain ⟨yop, yd, yg⟩ := y
  unfold swapOk at h
  split at h
  · rename_i dx dy fx fy h1 h2 h3 h4 h5 h6
    simp only at h1 h2 h3 h4 h5 h6
    subst h1; subst h2; subst h3; subst h4
    simp only [Bool.and_eq_true] at h
    obtain ⟨⟨wx, wy⟩, h⟩ := h
    have hne : ∀ m, m ∈ dx :: fx → m ∉ dy :: fy := fun m hm hm' => by
      have := List.all_eq_true.1 h m hm
      simp only [Bool.not_eq_true', ← Bool.not_eq_true, List.contains_iff_mem] at this
      exact this hm'
    simp only [opsK] at hr ⊢
    -- x from st, y from st
    obtain ⟨tx, st1, ex, fx'⟩ := opK_fram (cl := cl) (L := fx) wx h5 (fun _ h => h) st
    obtain ⟨ty, st2', ey, fy'⟩ := opK_fram (cl := cl) (L := fy) wy h6 (fun _ h => h) st
    obtain ⟨st1z, f1, _⟩ := fx' st (fun _ _ => rfl) rfl
    obtain ⟨st2z, f2z, _⟩ := fy' st (fun _ _ => rfl) rfl
    rw [ex, T.All_bind] at hr
    rw [ey, T.All_bind]
    simp only [St.put] at hr ⊢
    have keyA : ∀ v, ∃ stb : St, Fram fy st st2' (st1.set dx v) stb ∧ ∀ {γ : Type} (k' : AV → St → T γ), opK cl yop (st1.set dx v) k' = ty.bind fun u => k' u stb := by
      intro v
      have hag : ∀ m, m ∈ fy → (st1.set dx v).s m = st.s m := fun m hm => by
        have h1 : m ≠ dx := fun e => hne m (by rw [e]; exact List.mem_cons_self) (List.mem_cons_of_mem _ hm)
        have h2 : m ∉ fx := fun hf => hne m (List.mem_cons_of_mem _ hf) (List.mem_cons_of_mem _ hm)
        simp only [St.set]; rw [upd_ne _ _ _ _ h1, f1.o1 m h2]
      exact fy' (st1.set dx v) hag (by show st1.h = st.h; exact f1.h1)
    have keyB : ∀ u, ∃ sta : St, Fram fx st st1 (st2'.set dy u) sta ∧ ∀ {γ : Type} (k' : AV → St → T γ), opK cl xop (st2'.set dy u) k' = tx.bind fun v => k' v sta := by
      intro u
      have hag2 : ∀ m, m ∈ fx → (st2'.set dy u).s m = st.s m := fun m hm => by
        have h1 : m ≠ dy := fun e => hne m (List.mem_cons_of_mem _ hm) (by rw [e]; exact List.mem_cons_self)
        have h2 : m ∉ fy := fun hf => hne m (List.mem_cons_of_mem _ hm) (List.mem_cons_of_mem _ hf)
        simp only [St.set]; rw [upd_ne _ _ _ _ h1, f2z.o1 m h2]
      exact fx' (st2'.set dy u) hag2 (by show st2'.h = st.h; exact f2z.h1)
    have keyC : ∀ v u (st2 st1'' : St), Fram fy st st2' (st1.set dx v) st2 → Fram fx st st1 (st2'.set dy u) st1'' → st1''.set dx v = st2.set dy u := by
      intro v u st2 st1'' f2 f3
      have hst : (st1''.set dx v).s = (st2.set dy u).s ∧ (st1''.set dx v).b = (st2.set dy u).b ∧ (st1''.set dx v).h = (st2.set dy u).h := by
        refine ⟨funext fun m => ?_, ?_, ?_⟩
        · simp only [St.set, upd]
          by_cases h1 : m = dx
          · have h2 : m ≠ dy := fun e => hne m (by rw [h1]; exact List.mem_cons_self) (by rw [e]; exact List.mem_cons_self)
            have h3 : m ∉ fy := fun hf => hne m (by rw [h1]; exact List.mem_cons_self) (List.mem_cons_of_mem _ hf)
            rw [if_pos h1, if_neg h2, f2.o2 m h3]; simp only [St.set, upd]; rw [if_pos h1]
          · rw [if_neg h1]
            by_cases h2 : m = dy
            · have h3 : m ∉ fx := fun hf => hne m (List.mem_cons_of_mem _ hf) (by rw [h2]; exact List.mem_cons_self)
              rw [if_pos h2, f3.o2 m h3]; simp only [St.set, upd]; rw [if_pos h2]
            · rw [if_neg h2]
              by_cases h3 : m ∈ fx
              · have h4 : m ∉ fy := fun hf => hne m (List.mem_cons_of_mem _ h3) (List.mem_cons_of_mem _ hf)
                rw [f3.ag m h3, f2.o2 m h4]; simp only [St.set, upd]; rw [if_neg h1]
              · rw [f3.o2 m h3]; simp only [St.set, upd]; rw [if_neg h2]
                by_cases h4 : m ∈ fy
                · rw [f2.ag m h4]
                · rw [f2.o2 m h4, f2z.o1 m h4]; simp only [St.set, upd]; rw [if_neg h1, f1.o1 m h3]
        · show st1''.b = st2.b
          rw [f3.b2, f2.b2]; show st2'.b = st1.b
          rw [f2z.b1, f1.b1]
        · show st1''.h = st2.h
          rw [f3.h2, f2.h2]; show st2'.h = st1.h
          rw [f2z.h1, f1.h1]
      have : ∀ a b : St, a.s = b.s → a.b = b.b → a.h = b.h → a = b := fun a b h1 h2 h3 => by cases a; cases b; simp_all
      exact this _ _ hst.1 hst.2.1 hst.2.2
    have hr2 : tx.All fun v => ty.All fun u => (opsK cl l ((keyA v).choose.set dy u) k).All R := by
      refine T.All.mono (fun v hv => ?_) hr
      rw [(keyA v).choose_spec.2, T.All_bind] at hv
      exact hv
    refine T.All.mono (fun u hu => ?_) (All_swap hr2)
    rw [(keyB u).choose_spec.2, T.All_bind]
    refine T.All.mono (fun v hv => ?_) hu
    rw [keyC v u _ _ (keyA v).choose_spec.1 (keyB u).choose_spec.1]
    exact hv
  · cases h

end Go.Proofs.YtdnfnobgeddbfaaGreatDoor.Abs
