/- More operations, in a walk. -/
import Derived.Test.YtjlioidknhdceaaDoorA19
import Derived.Test.YtjlioidknhdceaaDoorX1
namespace Go.Proofs.YtjlioidknhdceaaDoor.Abs
set_option linter.all false
set_option linter.unusedVariables false

variable {P : Program} {sg : FuncId → Nat → Nat} {hs : Nat → Nat} {w w' : World} {G G' : Gh} {a : Act} {o : Oper}
variable {w0 : World} {F0 : FT} {A : Nat → Prop} {n : Nat} {st : St} {β : Type}
variable {cl : FuncId → List AV → H → T (AV × H)}

theorem SR.retell (h : SR w0 F0 A n st a w G) {s : K} {ob ob' : Obj} (hs : st.at s = some ob) (hnew : ∀ t, G.at s = some t → ObjR w G s t ob → ObjR w G s t ob') : SR w0 F0 A n (st.setAt s ob') a w G := by
  obtain ⟨t, h1, h2, h3, h4⟩ := h.at hs
  exact h.setBox hs (Ext.refl _ _) rfl rfl (fun p _ _ b hb _ => ⟨rfl, rfl, hb⟩) ⟨t, h1, h2, h3, hnew t h1 h4⟩ h.kept h.mine h.same h.fresh

theorem runs_cap {args : Array Operand} {ats : Array TypeId} {x : Operand} {t : TypeId} (ho : o.op = .call ⟨.builtin .cap, args, ats⟩) (h1 : args.toList = [x]) (h2 : ats.toList = [t]) (hk : tkind P t = some 3)
    {b : Option Addr} {m c : Nat} (hx : a.eval x = .slice b m c) : Runs P o a w (.int .i64 c) w := by
  obtain rfl := arr1 h1
  obtain rfl := arr1 h2
  obtain ⟨e, hu⟩ := tkind_3 hk
  simp [Runs, execOp, ho, resolve, invoke, builtin, Builtin.cap_, hx, run_underlying hu, goInt]

theorem cap_sound (h : SR w0 F0 A n st a w G) {args : Array Operand} {ats : Array TypeId} {x : Operand} {t : TypeId} (ho : o.op = .call ⟨.builtin .cap, args, ats⟩) (h1 : args.toList = [x]) (h2 : ats.toList = [t]) (hk : tkind P t = some 3)
    {p : Nat → Pos} {xv : AV} (hp : TR w G p xv (a.eval x)) {R : AV × St → Prop} (hr : (capV xv st).All R) :
    ∃ v v' st', R (v, st') ∧ SR w0 F0 A n st' a w G ∧ CR w G.Fr v v' ∧ Runs P o a w v' w := by
  unfold capV at hr
  split at hr
  · obtain ⟨_, m, c, hv, hm, hn, _⟩ := TR_slice hp
    obtain ⟨hv', _⟩ := hn rfl
    rw [hv'] at hv
    exact ⟨_, _, st, hr, h, .int _ _, runs_cap (c := 0) ho h1 h2 hk hv'⟩
  · rename_i i k e sz m
    obtain ⟨cap, ad, th, hat, hv, hz, hmc, ha⟩ := TR_hsl hp
    split at hr
    · rename_i e' sz' N xs hg
      split at hr
      · rename_i hc
        obtain ⟨t1, k1, k2, k3, k4⟩ := h.heap.box _ _ hg
        rw [hat] at k1; injection k1 with k1; subst k1
        obtain ⟨_, j2, _, _, ⟨_, j5⟩, _⟩ := k4
        have hN := (ha hc.2).2 j2
        rw [j5 _ rfl] at hN
        have : (N - k) / sz = cap := by rw [← hN, Nat.add_sub_cancel_left, Nat.mul_div_cancel _ hz]
        rw [this] at hr
        exact ⟨_, _, st, hr, h, .int _ _, runs_cap ho h1 h2 hk hv⟩
      · exact hr.elim
    · rename_i e' sz' xs hg
      split at hr
      · rename_i hc
        obtain ⟨t1, k1, k2, k3, k4⟩ := h.heap.box _ _ hg
        rw [hat] at k1; injection k1 with k1; subst k1
        have k4' := k4
        obtain ⟨_, j2, _, hz', ⟨⟨c0, hc0, hc1⟩, _⟩, _⟩ := k4
        have hN := (ha hc.2).2 j2
        obtain ⟨rfl, _⟩ := hc
        have hcap : cap ≤ maxLen := by
          have : cap * sz' ≤ c0 * sz' := by omega
          exact Nat.le_trans (Nat.le_of_mul_le_mul_right this hz) hc1
        have := hr (cap - m) (by omega)
        dsimp only at this
        rw [show m + (cap - m) = cap by omega] at this
        refine ⟨_, _, _, this, ?_, .int _ _, runs_cap ho h1 h2 hk hv⟩
        have hset : (⟨st.s, st.b, st.h.set i (.row e' sz' (some (k + cap * sz')) xs)⟩ : St) = st.setAt (.obj i) (.row e' sz' (some (k + cap * sz')) xs) := rfl
        rw [hset]
        have hs : st.at (.obj i) = some (.row e' sz' none xs) := hg
        refine h.retell hs (fun t hat2 ht => ?_)
        rw [hat] at hat2; injection hat2 with hat2; subst hat2
        obtain ⟨q1, q2, q3, q4, ⟨q5, _⟩, q6⟩ := ht
        refine ⟨q1, q2, q3, q4, ⟨q5, fun N hN' => ?_⟩, q6⟩
        injection hN' with hN'
        rw [← hN', hN]
      · exact hr.elim
    · exact hr.elim
  · exact hr.elim

theorem runs_buildArr {t e : TypeId} {k sz : Nat} {parts : Array (Nat × Operand)} (ho : o.op = .build t parts) (ht : tarr P t = some (k, e, sz)) {i : TypeInfo} {v : Value} (hi : P.info? t = some i) (hv : i.zero = some v)
    {vs' : Array Value} (hf : Instr.fill (fun i => some (i * sz, sz)) v.cells (parts.toList.map fun (i, x) => (i, a.eval x)) = some vs') (w : World) :
    Runs P o a w (.agg vs') w := by
  obtain ⟨hu, hsz⟩ := tarr_inv ht
  have hparts : (parts.map fun (i, x) => (i, a.eval x)).toList = parts.toList.map fun (i, x) => (i, a.eval x) := by simp
  simp only [Runs, execOp, ho, Instr.build, Sem.run_bind, run_zero hi hv, Result.andThen_ok, run_underlying hu, run_sizeOf' hsz, hparts, hf, Sem.run_pure]

/-! ### Runes -/
theorem runesFrom_ints (s : ByteArray) : ∀ (b i : Nat) (acc : Array Value), (∀ v ∈ acc.toList, ∃ n, v = .int .i32 n) → ∀ v ∈ (Conv.runesFrom s b i acc).toList, ∃ n, v = .int .i32 n
  | 0, i, acc, h => by simpa [Conv.runesFrom] using h
  | b + 1, i, acc, h => by
    unfold Conv.runesFrom
    split
    · refine runesFrom_ints s b _ _ fun v hv => ?_
      rw [Array.toList_push] at hv
      rcases List.mem_append.1 hv with hv | hv
      · exact h v hv
      · rw [List.mem_singleton] at hv; exact ⟨_, hv⟩
    · exact h
theorem runesL_get (t : ByteArray) (i : Nat) (h : i < (Conv.runesFrom t t.size 0 #[]).size) : ∃ h' : i < (runesL t.data.toList).length, (Conv.runesFrom t t.size 0 #[])[i] = .int .i32 (runesL t.data.toList)[i] := by
  have e : (⟨t.data.toList.toArray⟩ : ByteArray) = t := by cases t; simp
  have el : t.data.toList.length = t.size := by simp
  have hl : runesL t.data.toList = (Conv.runesFrom t t.size 0 #[]).toList.map runeN := by unfold runesL; rw [e, el]
  have hlen : (runesL t.data.toList).length = (Conv.runesFrom t t.size 0 #[]).size := by rw [hl]; simp
  obtain ⟨n, hn⟩ := runesFrom_ints t t.size 0 #[] (fun v hv => by simp at hv) _ (Array.getElem_mem_toList (xs := Conv.runesFrom t t.size 0 #[]) h)
  refine ⟨by omega, ?_⟩
  simp only [hl, List.getElem_map]
  rw [Array.getElem_toList]
  rw [hn]; rfl
theorem runesL_length (t : ByteArray) : (runesL t.data.toList).length = (Conv.runesFrom t t.size 0 #[]).size := by
  have e : (⟨t.data.toList.toArray⟩ : ByteArray) = t := by cases t; simp
  have el : t.data.toList.length = t.size := by simp
  unfold runesL; rw [e, el]; simp
theorem SR.rowNew (h : SR w0 F0 A n st a w G) (cs : Array Value) (e : TypeId) (m : Nat) :
    ∃ G', SR w0 F0 A n st a (w.drew.alloc (.cells cs e)) G' ∧ G'.Fr w.heap.size = m ∧ G'.β = G.β ∧ Ext w G.Fr (w.drew.alloc (.cells cs e)) G'.Fr ∧ (∀ b, b < w.heap.size → (w.drew.alloc (.cells cs e)).heap[b]? = w.heap[b]?) ∧ (w.drew.alloc (.cells cs e)).heap[w.heap.size]? = some (.cells cs e) := by
  have hold : ∀ b, b < w.heap.size → (w.drew.alloc (.cells cs e)).heap[b]? = w.heap[b]? := fun b hb => heap_old w.drew _ b hb
  have hsz : (w.drew.alloc (.cells cs e)).heap.size = w.heap.size + 1 := by
    have : (w.alloc (.cells cs e)).heap.size = w.heap.size + 1 := by simp
    exact this
  have hk : Kp w (fun _ => False) (w.drew.alloc (.cells cs e)) := ⟨rfl, rfl, rfl, by omega, fun b hb _ => hold b hb⟩
  have hx : Ext w G.Fr (w.drew.alloc (.cells cs e)) (G.Fr.put w.heap.size m) :=
    ⟨fun b => by simp only [FT.put, upd]; split; { rw [h.fresh b (by omega)]; omega }; { exact Nat.le_refl _ }, fun b o v ho hv => by
      have hlt : b < w.heap.size := by
        rcases Nat.lt_or_ge b w.heap.size with h' | h'
        · exact h'
        · rw [h.fresh b h'] at ho; omega
      rw [← hv]; exact World.cell?_of_block (a := ⟨b, o, none⟩) (hold b hlt), fun _ _ h => h, fun b cs' e' h1 h2 => ⟨cs', by rw [hold b (Array.getElem?_eq_some_iff.1 h2).1]; exact h2⟩⟩
  exact ⟨⟨G.Fr.put w.heap.size m, G.β, G.ω⟩, h.world (fun _ => False) (fun _ h => h.elim) hk hx (fun b hb _ => FT.put_ne _ _ _ _ (by omega)) (fun b hb => by
    rw [hsz] at hb; rw [FT.put_ne _ _ _ _ (by omega)]; exact h.fresh b (by omega)) h.heap.ids, FT.put_same _ _ _, rfl, hx, hold, heap_alloc_new w.drew _⟩
theorem SR.runes (h : SR w0 F0 A n st a w G) (e : TypeId) (t : ByteArray) (q : Nat) :
    ∃ G', SR w0 F0 A n st a (w.drew.alloc (.cells (Conv.runesFrom t t.size 0 #[] ++ Array.replicate q (.int .i32 0)) e)) G' ∧
      (∀ cap, (Conv.runesFrom t t.size 0 #[]).size ≤ cap → CR (w.drew.alloc (.cells (Conv.runesFrom t t.size 0 #[] ++ Array.replicate q (.int .i32 0)) e)) G'.Fr (.slice .frz e 1 ((runesL t.data.toList).map (AV.int .i32))) (.slice (some ⟨w.heap.size, 0, none⟩) (Conv.runesFrom t t.size 0 #[]).size cap)) ∧
      G'.β = G.β ∧ Ext w G.Fr (w.drew.alloc (.cells (Conv.runesFrom t t.size 0 #[] ++ Array.replicate q (.int .i32 0)) e)) G'.Fr ∧ (∀ b, b < w.heap.size → (w.drew.alloc (.cells (Conv.runesFrom t t.size 0 #[] ++ Array.replicate q (.int .i32 0)) e)).heap[b]? = w.heap[b]?) := by
  obtain ⟨G', k1, k2, k3, k4, k5, k6⟩ := h.rowNew (Conv.runesFrom t t.size 0 #[] ++ Array.replicate q (.int .i32 0)) e (Conv.runesFrom t t.size 0 #[]).size
  refine ⟨G', k1, fun cap hcap => ?_, k3, k4, k5⟩
  have hl := runesL_length t
  have hl2 : ((runesL t.data.toList).map (AV.int .i32)).length = (Conv.runesFrom t t.size 0 #[]).size := by rw [List.length_map, hl]
  refine .frz e 1 _ cap ⟨w.heap.size, 0, none⟩ _ (fun i => .int .i32 ((runesL t.data.toList).getD i 0)) (fun _ => rfl) (by omega) (by rw [hl2]; omega) hcap (fun i hi => ?_) (fun i hi => ?_) (fun i hi => rfl) (fun i hi => ?_)
  · rw [hl2] at hi; simp only [Nat.zero_add]; rw [k2]; exact hi
  · rw [hl2] at hi
    obtain ⟨h', he⟩ := runesL_get t i hi
    simp only [World.cell?, k6, Nat.zero_add, Option.isSome_none, Bool.false_eq_true, if_false]
    rw [Array.getElem?_append_left hi, Array.getElem?_eq_getElem hi, he]
    simp [List.getD, List.getElem?_eq_getElem h']
  · rw [hl2] at hi
    obtain ⟨h', he⟩ := runesL_get t i hi
    rw [List.getElem_map]
    simp only [List.getD, List.getElem?_eq_getElem h', Option.getD_some]
    exact .int _ _
theorem intsOf_get {k : IntKind} : ∀ {xs : List AV} {ns : List Int}, intsOf k xs = some ns → ns.length = xs.length ∧ ∀ i (h : i < xs.length) (h' : i < ns.length), xs[i] = .int k ns[i]
  | [], ns, h => by simp only [intsOf, Option.some.injEq] at h; subst h; exact ⟨rfl, fun i h => absurd h (by simp)⟩
  | x :: xs, ns, h => by
    cases x with
    | int k' m =>
      simp only [intsOf] at h
      split at h
      · rename_i hk; subst hk
        simp only [Option.map_eq_some_iff] at h
        obtain ⟨ms, hms, rfl⟩ := h
        obtain ⟨h1, h2⟩ := intsOf_get hms
        refine ⟨by simp [h1], fun i h h' => ?_⟩
        cases i with
        | zero => rfl
        | succ i => simpa using h2 i (by simpa using h) (by simpa using h')
      · cases h
    | _ => simp [intsOf] at h
theorem runs_rStr {s d e : TypeId} {sz by' : Nat} {y : Operand} (ho : o.op = .convert s d y) (hs : telem P s = some (e, sz, by')) (he : tint P e = some .i32) (hd : tkind P d = some 2) {p : Nat → Pos} {x r : AV} (hx : TR w G p x (a.eval y)) (hr : rsV x = some r) {bx : K → Option Obj} :
    ∃ v, CR w G.Fr r v ∧ ∀ w', Pres bx G w w' → Runs P o a w' v w' := by
  unfold rsV at hr
  split at hr
  · rename_i e0 xs
    simp only [Option.map_eq_some_iff] at hr
    obtain ⟨ns, hns, rfl⟩ := hr
    obtain ⟨n1, n2⟩ := intsOf_get hns
    have hC : CR w G.Fr (.slice .frz e0 1 xs) (a.eval y) := hx
    generalize hv : a.eval y = vv at hC
    cases hC with
    | frz _ _ m cap ad _ vs hsp hz hl hc hp hcell hone hcr =>
    refine ⟨.string (runesBytes ns), .str _ _ rfl, fun w' hw' => ?_⟩
    have hm : m = ns.length := by omega
    have := run_convert_runes (P := P) w' s d e ad m cap ns (by omega) (telem_inv hs).1 (tint_inv he) (tkind_2 hd) (fun j hj => by
      have hjx : j < xs.length := by omega
      rw [add_off ad (hsp (by omega))]
      have h1 := hw'.cell _ _ _ (hp j hjx) (hcell j hjx)
      have h2 := hcr j hjx
      rw [n2 j hjx hj] at h2
      rw [h1]
      generalize hvj : vs j = vj at h2
      cases h2
      simp [List.getD, List.getElem?_eq_getElem hj])
    rw [hm, List.take_length] at this
    subst hm
    simp only [Runs, execOp, ho, hv, Sem.run_bind, this, Result.andThen_ok, Sem.run_pure]
  · cases hr

theorem early_sound1 {x : AOp} (hx : pOp1 P hs o = some x) (he : x.early = true) (h : SR w0 F0 A n st a w G) {k : AV → St → T β} {R : β → Prop} (hr : (opK cl x st k).All R) :
    ∃ v' v st' G', (k v st').All R ∧ SR w0 F0 A n st' a w G' ∧ (∀ d, o.dst = some d → TR w G' (.slot d) v v') ∧ Stab st.at G w st'.at G' w ∧ ∀ w', ((x.pure = true ∧ Pres (fun _ => none) G' w w') ∨ Pres st'.at G' w w') → Runs P o a w' v' w' := by
  have fin : ∀ {v : AV}, (k v st).All R → (∃ v', (∀ q, TR w G q v v') ∧ ∀ w', Runs P o a w' v' w') →
      ∃ v' v st' G', (k v st').All R ∧ SR w0 F0 A n st' a w G' ∧ (∀ d, o.dst = some d → TR w G' (.slot d) v v') ∧ Stab st.at G w st'.at G' w ∧ ∀ w', ((x.pure = true ∧ Pres (fun _ => none) G' w w') ∨ Pres st'.at G' w w') → Runs P o a w' v' w' :=
    fun hk ⟨v', h1, h2⟩ => ⟨v', _, st, G, hk, h, fun d _ => h1 _, Stab.less (Ext.refl _ _) rfl (Less.refl _), fun w' _ => h2 w'⟩
  have fin' : ∀ {v : AV}, (k v st).All R → (∃ v', CR w G.Fr v v' ∧ ∀ w', Runs P o a w' v' w') →
      ∃ v' v st' G', (k v st').All R ∧ SR w0 F0 A n st' a w G' ∧ (∀ d, o.dst = some d → TR w G' (.slot d) v v') ∧ Stab st.at G w st'.at G' w ∧ ∀ w', ((x.pure = true ∧ Pres (fun _ => none) G' w w') ∨ Pres st'.at G' w w') → Runs P o a w' v' w' :=
    fun hk ⟨v', h1, h2⟩ => fin hk ⟨v', fun q => TR_of_CR h1, h2⟩
  unfold pOp1 at hx
  split at hx
  case h_1 t y i hop =>
    simp only [Option.bind_eq_some_iff, Option.map_eq_some_iff] at hx
    obtain ⟨⟨m, e, sz⟩, hta, ay, hy, ai, hi, rfl⟩ := hx
    simp only [opK, T.All_on, List.map_cons, List.map_nil, xV] at hr
    obtain ⟨v, hv, hr⟩ := hr
    obtain ⟨p, hp⟩ := h.peekX hy
    obtain ⟨q, hq⟩ := h.peekX hi
    exact fin hr (runs_ixArr h hop hta hp hq hv)
  case h_2 t y lo hi hop =>
    simp only [Option.bind_eq_some_iff] at hx
    obtain ⟨⟨m, e, sz⟩, hta, hx⟩ := hx
    split at hx
    · cases hx
    · rename_i hz
      simp only [Option.bind_eq_some_iff, Option.map_eq_some_iff] at hx
      obtain ⟨ay, hy, alo, hlo, ahi, hhi, rfl⟩ := hx
      simp only [opK, T.All_on, List.map_cons, List.map_nil, xV] at hr
      obtain ⟨v, hv, hr⟩ := hr
      obtain ⟨p, hp⟩ := h.peekX hy
      exact fin' hr (runs_slArr h hop hta (Nat.pos_of_ne_zero hz) hlo hhi hp hv)
  case h_3 t y i hop =>
    simp only [Option.bind_eq_some_iff, Option.map_eq_some_iff] at hx
    obtain ⟨⟨m, e, sz⟩, hta, ag, hag, ay, hy, ai, hi, rfl⟩ := hx
    simp only [opK, T.All_on, List.map_cons, List.map_nil, xV] at hr
    obtain ⟨v, hv, hr⟩ := hr
    obtain ⟨p, hp⟩ := h.peekX hy
    obtain ⟨q, hq⟩ := h.peekX hi
    exact fin' hr (runs_ixAgg hop hta hag hp hq hv)
  case h_4 y xt t ok hop =>
    simp only [Option.bind_eq_some_iff] at hx
    obtain ⟨kd, hkd, z, hz, ay, hy, hx⟩ := hx
    obtain ⟨p, hp⟩ := h.peekX hy
    split at hx
    · simp only [Option.map_eq_some_iff] at hx
      obtain ⟨ms, hm, rfl⟩ := hx
      simp only [opK, T.All_on, List.map_cons, List.map_nil, xV] at hr
      obtain ⟨v, hv, hr⟩ := hr
      exact fin hr (runs_tassertI hop hm hz hp hv)
    · rename_i h5
      injection hx with hx; subst hx
      simp only [opK, T.All_on, List.map_cons, List.map_nil, xV] at hr
      obtain ⟨v, hv, hr⟩ := hr
      exact fin hr (runs_tassert hop hkd h5 hz hp hv)
  case h_5 args ats hop =>
    split at hx
    · rename_i y z t u ha hta
      split at hx
      · simp only [Option.bind_eq_some_iff, Option.map_eq_some_iff] at hx
        obtain ⟨ay, hy, az, hz, rfl⟩ := hx
        simp only [opK, T.All_on, List.map_cons, List.map_nil, xV] at hr
        obtain ⟨v, hv, hr⟩ := hr
        obtain ⟨p, hp⟩ := h.peekX hy
        obtain ⟨q, hq⟩ := h.peekX hz
        exact fin' hr (runs_minmax (mx := false) hop ha hp hq hv)
      · cases hx
    · cases hx
  case h_6 args ats hop =>
    split at hx
    · rename_i y z t u ha hta
      split at hx
      · simp only [Option.bind_eq_some_iff, Option.map_eq_some_iff] at hx
        obtain ⟨ay, hy, az, hz, rfl⟩ := hx
        simp only [opK, T.All_on, List.map_cons, List.map_nil, xV] at hr
        obtain ⟨v, hv, hr⟩ := hr
        obtain ⟨p, hp⟩ := h.peekX hy
        obtain ⟨q, hq⟩ := h.peekX hz
        exact fin' hr (runs_minmax (mx := true) hop ha hp hq hv)
      · cases hx
    · cases hx
  case h_7 => simp only [Option.bind_eq_some_iff, Option.map_eq_some_iff] at hx; obtain ⟨_, _, _, _, _, _, rfl⟩ := hx; simp [AOp.early] at he
  case h_8 =>
    split at hx
    · split at hx
      · simp only [Option.map_eq_some_iff] at hx; obtain ⟨_, _, rfl⟩ := hx; simp [AOp.early] at he
      · cases hx
    · cases hx
  case h_9 => simp only [Option.map_eq_some_iff] at hx; obtain ⟨_, _, rfl⟩ := hx; simp [AOp.early] at he
  case h_10 f args ats hop =>
    simp only [Option.bind_eq_some_iff] at hx
    obtain ⟨fn, hf, kk, hk, hx⟩ := hx
    split at hx
    · rename_i y ha
      simp only [Option.map_eq_some_iff] at hx
      obtain ⟨ay, hy, rfl⟩ := hx
      simp only [opK, T.All_on, List.map_cons, List.map_nil, xV] at hr
      obtain ⟨v, hv, hr⟩ := hr
      obtain ⟨p, hp⟩ := h.peekX hy
      exact fin' hr (runs_fb hop ha hf hk hp hv)
    · rename_i y z ha
      split at hx
      · rename_i h4
        subst h4
        simp only [Option.bind_eq_some_iff, Option.map_eq_some_iff] at hx
        obtain ⟨ay, hy, az, hz, rfl⟩ := hx
        simp only [opK, T.All_on, List.map_cons, List.map_nil, xV] at hr
        obtain ⟨v, hv, hr⟩ := hr
        obtain ⟨p, hp⟩ := h.peekX hy
        obtain ⟨q, hq⟩ := h.peekX hz
        obtain ⟨v', h1, h2⟩ := runs_idxB hop ha hf hk hp hq h.heap hv
        exact ⟨v', _, st, G, hr, h, fun d _ => TR_of_CR h1, Stab.less (Ext.refl _ _) rfl (Less.refl _), fun w' hw' => h2 w' (hw'.resolve_left (by simp [AOp.pure]))⟩
      · cases hx
    · cases hx
  case h_11 op t y z yt hop =>
    simp only [Option.bind_eq_some_iff] at hx
    obtain ⟨⟨m, e, sz⟩, hta, kk, hk, hx⟩ := hx
    split at hx
    · rename_i hcond
      split at hx
      · simp only [Option.bind_eq_some_iff, Option.map_eq_some_iff] at hx
        obtain ⟨ay, hy, az, hz, rfl⟩ := hx
        simp only [opK, T.All_on, List.map_cons, List.map_nil, xV] at hr
        obtain ⟨v, hv, hr⟩ := hr
        obtain ⟨p, hp⟩ := h.peekX hy
        obtain ⟨q, hq⟩ := h.peekX hz
        exact fin' hr (runs_eqArr (neg := false) hop rfl hta hk hcond.1 hcond.2 hp hq hv)
      · simp only [Option.bind_eq_some_iff, Option.map_eq_some_iff] at hx
        obtain ⟨ay, hy, az, hz, rfl⟩ := hx
        simp only [opK, T.All_on, List.map_cons, List.map_nil, xV] at hr
        obtain ⟨v, hv, hr⟩ := hr
        obtain ⟨p, hp⟩ := h.peekX hy
        obtain ⟨q, hq⟩ := h.peekX hz
        exact fin' hr (runs_eqArr (neg := true) hop rfl hta hk hcond.1 hcond.2 hp hq hv)
      · cases hx
    · cases hx
  case h_12 s d y hop =>
    split at hx
    · rename_i hs hd
      simp only [Option.bind_eq_some_iff] at hx
      obtain ⟨⟨e, sz, by'⟩, hte, hx⟩ := hx
      split at hx
      · rename_i hc
        simp only [Option.map_eq_some_iff] at hx
        obtain ⟨ay, hy, rfl⟩ := hx
        simp only [opK, T.All_on, List.map_cons, List.map_nil, xV] at hr
        obtain ⟨v, hv, hr⟩ := hr
        obtain ⟨p, hp⟩ := h.peekX hy
        obtain ⟨v', h1, h2⟩ := runs_rStr hop hte hc.2 hd hp hv (bx := st.at)
        exact ⟨v', _, st, G, hr, h, fun d _ => TR_of_CR h1, Stab.less (Ext.refl _ _) rfl (Less.refl _), fun w' hw' => h2 w' (hw'.resolve_left (by simp [AOp.pure]))⟩
      · cases hx
    · rename_i hs hd
      simp only [Option.bind_eq_some_iff] at hx
      obtain ⟨⟨e, sz, by'⟩, hte, hx⟩ := hx
      split at hx
      · simp only [Option.map_eq_some_iff] at hx
        obtain ⟨_, _, rfl⟩ := hx; simp [AOp.early] at he
      · cases hx
    · cases hx
  case h_13 => cases hx

theorem late_sound1 (hcl : CallOk P cl) {x : AOp} (hx : pOp1 P hs o = some x) (he : x.early = false) (h : SR w0 F0 A n st a w G) {k : AV → St → T β} {R : β → Prop} (hr : (opK cl x st k).All R)
    {next : Act → World → Prop} {Q : Exit → Act → World → Prop} (hn : ∀ v' w', Done w0 F0 A n k R a o.dst st G w (x.calm = true) v' w' → next (a.put o.dst v') w') : o.wp P a w next Q := by
  unfold pOp1 at hx
  split at hx
  case h_1 => simp only [Option.bind_eq_some_iff, Option.map_eq_some_iff] at hx; obtain ⟨⟨_, _, _⟩, _, _, _, _, _, rfl⟩ := hx; simp [AOp.early] at he
  case h_2 =>
    simp only [Option.bind_eq_some_iff] at hx; obtain ⟨⟨_, _, _⟩, _, hx⟩ := hx
    split at hx
    · cases hx
    · simp only [Option.bind_eq_some_iff, Option.map_eq_some_iff] at hx; obtain ⟨_, _, _, _, _, _, rfl⟩ := hx; simp [AOp.early] at he
  case h_3 => simp only [Option.bind_eq_some_iff, Option.map_eq_some_iff] at hx; obtain ⟨⟨_, _, _⟩, _, _, _, _, _, _, _, rfl⟩ := hx; simp [AOp.early] at he
  case h_4 =>
    simp only [Option.bind_eq_some_iff] at hx; obtain ⟨_, _, _, _, _, _, hx⟩ := hx
    split at hx
    · simp only [Option.map_eq_some_iff] at hx; obtain ⟨_, _, rfl⟩ := hx; simp [AOp.early] at he
    · injection hx with hx; subst hx; simp [AOp.early] at he
  case h_5 =>
    split at hx
    · split at hx
      · simp only [Option.bind_eq_some_iff, Option.map_eq_some_iff] at hx; obtain ⟨_, _, _, _, rfl⟩ := hx; simp [AOp.early] at he
      · cases hx
    · cases hx
  case h_6 =>
    split at hx
    · split at hx
      · simp only [Option.bind_eq_some_iff, Option.map_eq_some_iff] at hx; obtain ⟨_, _, _, _, rfl⟩ := hx; simp [AOp.early] at he
      · cases hx
    · cases hx
  case h_10 =>
    simp only [Option.bind_eq_some_iff] at hx
    obtain ⟨fn, hf, kk, hk, hx⟩ := hx
    split at hx
    · simp only [Option.map_eq_some_iff] at hx; obtain ⟨_, _, rfl⟩ := hx; simp [AOp.early] at he
    · split at hx
      · simp only [Option.bind_eq_some_iff, Option.map_eq_some_iff] at hx; obtain ⟨_, _, _, _, rfl⟩ := hx; simp [AOp.early] at he
      · cases hx
    · cases hx
  case h_11 =>
    simp only [Option.bind_eq_some_iff] at hx
    obtain ⟨⟨m, e, sz⟩, hta, kk, hk, hx⟩ := hx
    split at hx
    · split at hx
      · simp only [Option.bind_eq_some_iff, Option.map_eq_some_iff] at hx; obtain ⟨_, _, _, _, rfl⟩ := hx; simp [AOp.early] at he
      · simp only [Option.bind_eq_some_iff, Option.map_eq_some_iff] at hx; obtain ⟨_, _, _, _, rfl⟩ := hx; simp [AOp.early] at he
      · cases hx
    · cases hx
  case h_12 s d y hop =>
    split at hx
    · simp only [Option.bind_eq_some_iff] at hx
      obtain ⟨⟨e, sz, by'⟩, hte, hx⟩ := hx
      split at hx
      · simp only [Option.map_eq_some_iff] at hx
        obtain ⟨_, _, rfl⟩ := hx; simp [AOp.early] at he
      · cases hx
    · rename_i hs hd
      simp only [Option.bind_eq_some_iff] at hx
      obtain ⟨⟨e, sz, by'⟩, hte, hx⟩ := hx
      split at hx
      · rename_i hc
        simp only [Option.map_eq_some_iff] at hx
        obtain ⟨ay, hy, rfl⟩ := hx
        simp only [opK, T.All_on] at hr
        obtain ⟨v, hv, hr⟩ := hr
        obtain ⟨p, hp⟩ := h.peekX hy
        unfold cvSR at hv
        split at hv
        · rename_i l hl
          rw [hl] at hp
          obtain ⟨t, ht, htl⟩ := TR_str hp
          split at hv
          · rename_i hle
            injection hv with hv; subst hv
            have hsz := size_runesFrom t t.size 0 #[]
            have htz : t.size = l.length := by rw [← htl]; simp
            have hrun := run_runes_of_string (P := P) w s d e t (tkind_2 hs) (telem_inv hte).1 (tint_inv hc.2) (by simp at hsz; omega)
            obtain ⟨G', k1, k2, k3, k4, k5⟩ := h.runes e t (grownCap w (Conv.runesFrom t t.size 0 #[]).size 0 e - (Conv.runesFrom t t.size 0 #[]).size)
            have k2' := k2 (grownCap w (Conv.runesFrom t t.size 0 #[]).size 0 e) (by have := grownCap_ge w (Conv.runesFrom t t.size 0 #[]).size 0 e; omega)
            rw [htl] at k2'
            have hR : Runs P o a w (.slice (some ⟨w.heap.size, 0, none⟩) (Conv.runesFrom t t.size 0 #[]).size (grownCap w (Conv.runesFrom t t.size 0 #[]).size 0 e)) (w.drew.alloc (.cells (Conv.runesFrom t t.size 0 #[] ++ Array.replicate (grownCap w (Conv.runesFrom t t.size 0 #[]).size 0 e - (Conv.runesFrom t t.size 0 #[]).size) (.int .i32 0)) e)) := by
              simp only [Runs, execOp, hop, ht, Sem.run_bind, hrun, Result.andThen_ok, Sem.run_pure]
            refine hR.wp (hn _ _ ⟨_, _, G', hr, k1, fun d _ => TR_of_CR k2', fun _ => ⟨k4, fun s t ht => by rw [k3]; exact ht, fun _ h => h, fun s ob t' hs hg => ?_⟩⟩)
            obtain ⟨g', j1, j2, j3, j4⟩ := h.at hs
            rw [hg] at j1; injection j1 with j1; subst j1
            exact k5 t'.b j3
          · cases hv
        · cases hv
      · cases hx
    · cases hx
  case h_13 => cases hx
  case h_7 t parts hop =>
    simp only [Option.bind_eq_some_iff, Option.map_eq_some_iff] at hx
    obtain ⟨⟨m, e, sz⟩, hta, z, hz, ps, hps, rfl⟩ := hx
    obtain ⟨i, v, hi, hiz, hof⟩ := tzero_inv hz
    have hrow := cells_RowR (ofConst_CR (w := w) (Fr := G.Fr) hof)
    simp only [opK] at hr
    obtain ⟨cs', vs', st', G', e1, e2, e3, e4, e6, e7, e8, e5⟩ := fill_sound hps hr h hrow
    exact (runs_buildArr hop hta hi hiz e5 w).wp (hn _ _ ⟨_, _, G', e1, e2, fun d _ => TR_of_CR (.agg _ _ e3.1 (fun i hi => (e3.2 i (by rw [← e3.1]; exact hi) hi).1) (fun i hi hi' => (e3.2 i hi hi').2)), fun _ => Stab.less e7 e6 e8⟩)
  case h_8 args ats hop =>
    split at hx
    · rename_i y t ha hta
      split at hx
      · rename_i hk
        simp only [Option.map_eq_some_iff] at hx
        obtain ⟨ay, hy, rfl⟩ := hx
        simp only [opK, T.All_bind] at hr
        obtain ⟨G1, g1, c1, b1, e1, t1⟩ := h.giveX hy
        have hsev : (give st ay).1.several = false := by
          cases hg : (give st ay).1 with
          | tup xs => rw [hg] at hr; exact hr.elim
          | _ => rfl
        obtain ⟨v, v', st', h1, h2, h3, h4⟩ := cap_sound g1 hop ha hta hk (t1 hsev (fun _ => .mid)) hr
        exact h4.wp (hn _ _ ⟨v, st', G1, h1, h2, fun d _ => TR_of_CR h3, fun hc => by simp [AOp.calm] at hc⟩)
      · cases hx
    · cases hx
  case h_9 f args ats hop =>
    simp only [Option.map_eq_some_iff] at hx
    obtain ⟨ps, hps, rfl⟩ := hx
    simp only [opK] at hr
    obtain ⟨vs, st', G1, e1, e2, e3, e4, e5, e6, e7, e8, e9⟩ := args_sound hps hr h
    simp only [T.All_on] at e1
    obtain ⟨⟨g, vs2⟩, hd, e1⟩ := e1
    obtain ⟨pf, hpf⟩ := h.peekX (x := .tmp f) (ax := .p f) (own := false) rfl
    unfold dTarget at hd
    split at hd
    · rename_i hpk
      injection hd with hd; injection hd with hd1 hd2; subst hd2
      rw [hpk] at hpf
      have hfe := TR_fn hpf
      rw [hd1] at hfe
      have hrun : (execOp a.eval o).run P w = (callFunc g (args.map a.eval)).run P w := by
        simp only [execOp, hop, resolve, hfe]
        simp [invoke, Deferred.ofValue]
      cases hh3 : (hsOf hs o.dst == 3) with
      | true =>
        rw [hh3] at e1
        simp only [T.All_bind] at e1
        have main : ∀ {v : AV × H} {e : Ending} {w'' : World}, (k v.1 ⟨st'.s, st'.b, v.2⟩).All R → CallPost w G1.Fr (outOwn G1.ω) v e w'' → ∃ v', e = .returned v' ∧ next (a.put o.dst v') w'' := by
          intro v e w'' hk hp
          obtain ⟨v', G', he', hS, hT⟩ := e2.called hp o.dst
          subst he'
          exact ⟨v', rfl, hn _ _ ⟨v.1, _, G', hk, hS, fun d hd => by rw [← slotAt_eq hd]; exact hT, fun hc => by simp [AOp.calm] at hc⟩⟩
        unfold Oper.wp
        rw [hrun]
        rcases hcl g vs st'.h _ e1 w G1 (args.map a.eval) (by simp [e3]) (fun i hi hi' => by
          have := e4 i hi (by rw [← e3]; exact hi)
          simpa using this) e2.heap (fun b hb => (e2.mine b (fun e => by unfold outOwn at hb; rw [e] at hb; cases hb)).1) e2.fresh with ⟨v1, w1, r0, r1, hk, r2⟩ | ⟨g', r1, r2⟩
        · rw [r1]
          obtain ⟨v', e', hh⟩ := main hk r2
          injection e' with e'; subst e'
          exact hh
        · rw [r1, Oper.upon_enter]
          refine Calls.mono r2 (fun e w'' ⟨r0, hk, hp⟩ => ?_)
          obtain ⟨v', he', hh⟩ := main hk hp
          subst he'; exact hh
      | false =>
        rw [hh3] at e1
        simp only [T.All_bind, T.All_on] at e1
        have main : ∀ {r0 : AV × H} {e : Ending} {w'' : World}, (∃ v, noHeap st'.h.n r0 = some v ∧ (k v st').All R) → CallPost w G1.Fr (outOwn G1.bare.ω) r0 e w'' → ∃ v', e = .returned v' ∧ next (a.put o.dst v') w'' := by
          intro r0 e w'' ⟨v, hnh, hk⟩ hp
          obtain ⟨v', G', he', hS, hT, hSt⟩ := e2.calledP hnh hp o.dst
          subst he'
          exact ⟨v', rfl, hn _ _ ⟨v, st', G', hk, hS, fun d hd => by rw [← slotAt_eq hd]; exact hT, fun hc => by simp [AOp.calm] at hc⟩⟩
        unfold Oper.wp
        rw [hrun]
        rcases hcl g vs st'.h.mask _ e1 w G1.bare (args.map a.eval) (by simp [e3]) (fun i hi hi' => by
          have := e4 i hi (by rw [← e3]; exact hi)
          simp only [Nat.zero_add] at this
          exact ⟨by simpa using this.1.bare, this.2⟩) e2.heap.mask (fun b hb => by
            obtain ⟨i, hi⟩ := Gh.bare_out.1 hb
            exact (e2.mine b (by rw [hi]; simp)).1) e2.fresh with ⟨v1, w1, r0, r1, hk, r2⟩ | ⟨g', r1, r2⟩
        · rw [r1]
          obtain ⟨v', e', hh⟩ := main hk r2
          injection e' with e'; subst e'
          exact hh
        · rw [r1, Oper.upon_enter]
          refine Calls.mono r2 (fun e w'' ⟨r0, hk, hp⟩ => ?_)
          obtain ⟨v', he', hh⟩ := main hk hp
          subst he'; exact hh
    · rename_i hnn _; cases hnn
    · cases hd

theorem early_soundA (all : List Oper) {x : AOp} (hx : pOpA P sg hs all o = some x) (he : x.early = true) (h : SR w0 F0 A n st a w G) {k : AV → St → T β} {R : β → Prop} (hr : (opK cl x st k).All R) :
    ∃ v' v st' G', (k v st').All R ∧ SR w0 F0 A n st' a w G' ∧ (∀ d, o.dst = some d → TR w G' (.slot d) v v') ∧ Stab st.at G w st'.at G' w ∧ ∀ w', ((x.pure = true ∧ Pres (fun _ => none) G' w w') ∨ Pres st'.at G' w w') → Runs P o a w' v' w' := by
  unfold pOpA at hx
  split at hx
  · rename_i y hy
    injection hx with hx; subst hx
    exact early_sound1 hy he h hr
  · exact early_sound cl all hx he h hr

theorem late_soundA (hcl : CallOk P cl) (all : List Oper) {x : AOp} (hx : pOpA P sg hs all o = some x) (he : x.early = false) (h : SR w0 F0 A n st a w G) {k : AV → St → T β} {R : β → Prop} (hr : (opK cl x st k).All R)
    {next : Act → World → Prop} {Q : Exit → Act → World → Prop} (hn : ∀ v' w', Done w0 F0 A n k R a o.dst st G w (x.calm = true) v' w' → next (a.put o.dst v') w') : o.wp P a w next Q := by
  unfold pOpA at hx
  split at hx
  · rename_i y hy
    injection hx with hx; subst hx
    exact late_sound1 hcl hy he h hr hn
  · exact late_sound hcl all hx he h hr hn

theorem op_soundA (hcl : CallOk P cl) (all : List Oper) {x : AOp} (hx : pOpA P sg hs all o = some x) (h : SR w0 F0 A n st a w G) {k : AV → St → T β} {R : β → Prop} (hr : (opK cl x st k).All R)
    {next : Act → World → Prop} {Q : Exit → Act → World → Prop} (hn : ∀ v' w', Done w0 F0 A n k R a o.dst st G w (x.early = true ∨ x.calm = true) v' w' → next (a.put o.dst v') w') : o.wp P a w next Q := by
  cases he : x.early with
  | true =>
    obtain ⟨v', v, st', G', h1, h2, h3, h4, hR⟩ := early_soundA all hx he h hr
    exact (hR w (.inr (Pres.refl _ _ _))).wp (hn _ _ ⟨v, st', G', h1, h2, h3, fun _ => h4⟩)
  | false =>
    refine late_soundA hcl all hx he h hr fun v' w' ⟨v, st', G', h1, h2, h3, h4⟩ => hn _ _ ⟨v, st', G', h1, h2, h3, fun hc => h4 ?_⟩
    rcases hc with hc | hc
    · rw [he] at hc; cases hc
    · exact hc

end Go.Proofs.YtjlioidknhdceaaDoor.Abs
