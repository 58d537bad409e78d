/- Appends. -/
import Derived.Test.YtjlioidknhdceaaDoorA15
import Derived.Laws.OwnMore
namespace Go.Proofs.YtjlioidknhdceaaDoor.Abs
set_option linter.all false
set_option linter.unusedVariables false

variable {P : Program} {w w' : World} {G G' : Gh} {a : Act} {o : Oper}
variable {w0 : World} {F0 : FT} {A : Nat → Prop} {n : Nat} {st : St} {β : Type} {t u ty : TypeId} {yv : Value}

structure AppR (w : World) (e sz : Nat) (v : Value) (m : Nat) (vs us : List Value) (v' : Value) (w' : World) (k : Nat) : Prop where
  row : w'.ownsRow 0 e sz v' (m + k) (vs ++ us)
  grown : w.grownBy w' v.ownBlock
  block : ∀ b, v'.ownBlock = some b → v.ownBlock = some b ∨ w.heap.size ≤ b
  isnil : v' = .slice none 0 0 ↔ v = .slice none 0 0 ∧ k = 0
  old : ∀ b, v.ownBlock = some b → v'.ownBlock ≠ some b → b < w.heap.size → w'.heap[b]? = w.heap[b]?

theorem ownBlock_of_row {e sz m : Nat} {v : Value} {vs : List Value} (h : w.ownsRow 0 e sz v m vs) (hn : v ≠ .slice none 0 0) : ∃ b, v.ownBlock = some b := by
  rcases h.2 with ⟨rfl, _⟩ | ⟨g, cap, cur, rfl, _⟩
  · exact absurd rfl hn
  · exact ⟨g, rfl⟩

theorem run_app_slice {t e sz by' : Nat} {ty : TypeId} (ht : telem P t = some (e, sz, by')) {v : Value} {m : Nat} {vs : List Value} (hown : w.ownsRow 0 e sz v m vs)
    {ad : Addr} {k c : Nat} {us : List Value} (hl : us.length = k * sz) (hus : ∀ j u, us[j]? = some u → w.cell? (ad.add j) = some u) (h1 : ∀ u ∈ us, u.oneCell' = true)
    (h63 : m + k ≤ maxLen) (hb : (m + k) * by' ≤ 140737488355328) :
    ∃ v' w', (Builtin.append_ #[t, t] ty #[v, .slice (some ad) k c]).run P w = .ok v' w' ∧ AppR w e sz v m vs us v' w' k := by
  obtain ⟨hu, i, z, hi, hz, hs, hby, hzs, hpos⟩ := telem_inv ht
  obtain ⟨v', w', hr, h2, h3, h4⟩ := run_append_own (P := P) w 0 t ty e i z sz by' hu hi hz hs hby hzs hpos v m vs hown ad k c us hl hus h1 h63 hb (Nat.zero_le _)
  suffices hh : (∀ b, v'.ownBlock = some b → v.ownBlock = some b ∨ w.heap.size ≤ b) ∧ (∀ b, v.ownBlock = some b → v'.ownBlock ≠ some b → b < w.heap.size → w'.heap[b]? = w.heap[b]?) from
    ⟨v', w', hr, h2, h3, hh.1, h4, hh.2⟩
  rcases hown.2 with ⟨rfl, rfl⟩ | ⟨g, cap, cur, rfl, hbg, hg, hnc, hcm, hcs, htake⟩
  · refine ⟨fun b hb' => ?_, fun b hb' => by simp [Value.ownBlock] at hb'⟩
    right
    have hvs : vs = [] := List.eq_nil_of_length_eq_zero (by simpa using hown.1)
    subst hvs
    obtain ⟨v2, w2, hr2, k2, _, _⟩ := run_append_own (P := P) w w.heap.size t ty e i z sz by' hu hi hz hs hby hzs hpos (.slice none 0 0) 0 [] (World.ownsRow_nil w _ e sz) ad k c us hl hus h1 (by omega) (by simpa using hb) (Nat.le_refl _)
    rw [hr] at hr2; injection hr2 with e1 e2; subst e1; subst e2
    exact (k2.lt b hb').1
  · by_cases hroom : m + k ≤ cap
    · obtain ⟨w2, hr2, _, _⟩ := run_append_fits (P := P) w 0 t ty e i sz hu hi hs g m cap vs hown ad k c us hl hus h1 hroom
      rw [hr] at hr2; injection hr2 with e1 e2; subst e1
      exact ⟨fun b hb' => .inl (by simpa [Value.ownBlock] using hb'), fun b hb' hn => absurd (by simpa [Value.ownBlock] using hb') hn⟩
    · subst hs; subst hby
      have holds : ∀ j u, vs[j]? = some u → w.cell? ((⟨g, 0, none⟩ : Addr).add j) = some u := hown.cells (g := g) rfl
      have hr2 := run_append_grow (P := P) w t ty e i z hu hi hz ⟨g, 0, none⟩ m cap vs hown.1 holds ad k c us hl hus (by omega) (by simp only [maxLen] at h63; omega) (growslice_fits (by omega) hb)
      rw [hr] at hr2; injection hr2 with e1 e2; subst e1; subst e2
      exact ⟨fun b hb' => .inr (by simp [Value.ownBlock] at hb'; omega), fun b _ _ hlt => heap_old w.drew _ b hlt⟩

theorem zeroByte_inv {e : TypeId} (h : zeroByte P e = true) {i : TypeInfo} (hi : P.info? e = some i) : i.zero = some (.int .u8 0) := by
  unfold zeroByte at h
  split at h
  · rename_i hz
    obtain ⟨i', v, hi', hv, hc⟩ := tzero_inv hz
    rw [hi] at hi'; injection hi' with hi'; subst hi'
    rw [hv]; congr 1
    unfold ofConst at hc
    split at hc
    · simp [Option.map_eq_some_iff] at hc
    · unfold ofCell at hc
      split at hc <;> simp at hc
      obtain ⟨rfl, rfl⟩ := hc; rfl
  · cases h

theorem run_app_str {t u e : Nat} {ty : TypeId} (ht : telem P t = some (e, 1, 1)) (hu : tkind P u = some 2) (hzb : zeroByte P e = true) {v : Value} {m : Nat} {vs : List Value} (hown : w.ownsRow 0 e 1 v m vs)
    {s : ByteArray} (h63 : m + s.size ≤ maxLen) (hb : m + s.size ≤ 140737488355328) :
    ∃ v' w', (Builtin.append_ #[t, u] ty #[v, .string s]).run P w = .ok v' w' ∧ AppR w e 1 v m vs (Lib.strCells s) v' w' s.size := by
  obtain ⟨hut, i, z, hi, hz, hs, hby, hzs, hpos⟩ := telem_inv ht
  have hz0 := zeroByte_inv hzb hi
  obtain ⟨v', w', hr, h2, h3, h4⟩ := Lib.run_append_own_string (P := P) (w := w) 0 t u ty e i hut (tkind_2 hu) hi hz0 hs hby v m vs hown s h63 hb (Nat.zero_le _)
  suffices hh : (∀ b, v'.ownBlock = some b → v.ownBlock = some b ∨ w.heap.size ≤ b) ∧ (∀ b, v.ownBlock = some b → v'.ownBlock ≠ some b → b < w.heap.size → w'.heap[b]? = w.heap[b]?) from
    ⟨v', w', hr, h2, h3, hh.1, h4, hh.2⟩
  rcases hown.2 with ⟨rfl, rfl⟩ | ⟨g, cap, cur, rfl, hbg, hg, hnc, hcm, hcs, htake⟩
  · refine ⟨fun b hb' => ?_, fun b hb' => by simp [Value.ownBlock] at hb'⟩
    right
    have hvs : vs = [] := List.eq_nil_of_length_eq_zero (by simpa using hown.1)
    subst hvs
    obtain ⟨v2, w2, hr2, k2, _, _⟩ := Lib.run_append_own_string (P := P) (w := w) w.heap.size t u ty e i hut (tkind_2 hu) hi hz0 hs hby (.slice none 0 0) 0 [] (World.ownsRow_nil w _ e 1) s (by omega) (by omega) (Nat.le_refl _)
    rw [hr] at hr2; injection hr2 with e1 e2; subst e1; subst e2
    exact (k2.lt b hb').1
  · by_cases hroom : m + s.size ≤ cap
    · have hr2 := Lib.run_append_room_string (P := P) (w := w) t u ty e i hut (tkind_2 hu) hi hs g m cap cur hg s hroom (by omega)
      rw [hr] at hr2; injection hr2 with e1 e2; subst e1
      exact ⟨fun b hb' => .inl (by simpa [Value.ownBlock] using hb'), fun b hb' hn => absurd (by simpa [Value.ownBlock] using hb') hn⟩
    · have holds : ∀ j u, vs[j]? = some u → w.cell? ((⟨g, 0, none⟩ : Addr).add j) = some u := hown.cells (g := g) rfl
      have hr2 := Lib.run_append_grow_string (P := P) (w := w) t u ty e i _ hut (tkind_2 hu) hi hz0 ⟨g, 0, none⟩ m cap vs (by rw [hs]; exact hown.1) holds s (by omega) (by simp only [maxLen] at h63; omega) (growslice_fits (by omega) (by rw [hby]; omega))
      rw [hr] at hr2; injection hr2 with e1 e2; subst e1; subst e2
      exact ⟨fun b hb' => .inr (by simp [Value.ownBlock] at hb'; omega), fun b _ _ hlt => heap_old w.drew _ b hlt⟩

theorem run_app_nil {t e sz by' : Nat} {ty : TypeId} (ht : telem P t = some (e, sz, by')) {v : Value} {m : Nat} {vs : List Value} (hown : w.ownsRow 0 e sz v m vs) :
    ∃ v' w', (Builtin.append_ #[t, t] ty #[v, .slice none 0 0]).run P w = .ok v' w' ∧ AppR w e sz v m vs [] v' w' 0 := by
  obtain ⟨hu, i, z, hi, hz, hs, hby, hzs, hpos⟩ := telem_inv ht
  refine ⟨v, w, run_append_owned_none (P := P) w 0 t ty e i sz hu hi v m vs hown, by simpa using hown, ⟨rfl, rfl, rfl, Nat.le_refl _, fun _ _ _ => rfl⟩, fun b hb => .inl hb, by simp, fun b hb hn => absurd hb hn⟩

theorem runs_append {t u : TypeId} {x y : Operand} {args : Array Operand} {ats : Array TypeId} (ho : o.op = .call ⟨.builtin .append, args, ats⟩) (h1 : args.toList = [x, y]) (h2 : ats.toList = [t, u])
    {v' : Value} (hr : (Builtin.append_ #[t, u] o.type #[a.eval x, a.eval y]).run P w = .ok v' w') : Runs P o a w v' w' := by
  obtain rfl := arr2 h1
  obtain rfl := arr2 h2
  simp [Runs, execOp, ho, resolve, invoke, builtin, hr]

theorem app_sound (h : SR w0 F0 A n st a w G) {bv : AV} {v : Value} (hb : TR w G (fun _ => .mid) bv v) {e sz by' : Nat} (hsz : 0 < sz) {ys : List AV} {us : List Value} {k : Nat} (hyl : ys.length = k * sz) (hul : us.length = ys.length)
    (huc : ∀ c (hc : c < ys.length) (hc' : c < us.length), (us[c]).oneCell' = true ∧ CR w G.Fr ys[c] us[c]) {r : AV}
    (hrun : ∀ m vs, w.ownsRow 0 e sz v m vs → m + k ≤ maxLen → (m + k) * by' ≤ tooLong → ∃ v' w', (Builtin.append_ #[t, u] ty #[v, yv]).run P w = .ok v' w' ∧ AppR w e sz v m vs us v' w' k)
    (hr : (match bv with
      | .slice c e' sz' xs => if ((xs.length + ys.length) / sz) * by' ≤ tooLong ∧ (xs.length + ys.length) ≤ tooLong then
          match c with
          | .nil => if ys.length = 0 then some (.slice .nil 0 1 []) else some (.slice (.own true) e sz ys)
          | .own f => if e' = e ∧ sz' = sz then some (.slice (.own f) e sz (xs ++ ys)) else none
          | _ => none
        else none
      | _ => none) = some r) (q : Nat → Pos) (hq : q 0 ≠ .free) :
    ∃ v' w' G', (Builtin.append_ #[t, u] ty #[v, yv]).run P w = .ok v' w' ∧ SR w0 F0 A n st a w' G' ∧ TR w' G' q r v' ∧ Ext w G.Fr w' G'.Fr ∧ (∀ b, G.ω b ≠ .mid → b < w.heap.size → w'.heap[b]? = w.heap[b]? ∧ G'.ω b = G.ω b) ∧ G'.β = G.β := by
  split at hr
  · rename_i c e' sz' xs
    split at hr
    · rename_i hbound
      split at hr
      · -- nil
        obtain ⟨_, _, _, hv, _, hn, _⟩ := TR_slice hb
        obtain ⟨hv', hxs⟩ := hn rfl
        subst hxs
        rw [hv'] at hrun ⊢
        have hkk : ys.length / sz = k := by rw [hyl, Nat.mul_div_cancel _ hsz]
        simp only [List.length_nil, Nat.zero_add] at hbound
        rw [hkk] at hbound
        have hkl : k ≤ ys.length := by rw [hyl]; exact Nat.le_mul_of_pos_right _ hsz
        obtain ⟨v', w', hr', hA⟩ := hrun 0 [] (World.ownsRow_nil w 0 e sz) (by simp only [maxLen, tooLong] at *; omega) (by rw [Nat.zero_add]; exact hbound.1)
        obtain ⟨hS, hE⟩ := h.grown (v := .slice none 0 0) (fun b hb => by simp [Value.ownBlock] at hb) hA.grown (fun b o u hb => by simp [Value.ownBlock] at hb) (fun b hb => by simp [Value.ownBlock] at hb) (fun b cs e hb => by simp [Value.ownBlock] at hb)
        have hkeep : ∀ b, G.ω b ≠ .mid → b < w.heap.size → w'.heap[b]? = w.heap[b]? := fun b _ hlt => hA.grown.block b hlt (by simp [Value.ownBlock])
        by_cases h0 : ys.length = 0
        · rw [if_pos h0] at hr; injection hr with hr; subst hr
          have hk0 : k = 0 := by rw [hyl] at h0; rcases Nat.mul_eq_zero.1 h0 with h | h; { exact h }; { omega }
          have hvn : v' = .slice none 0 0 := hA.isnil.2 ⟨rfl, hk0⟩
          exact ⟨v', w', G, hr', hS, by rw [hvn]; exact TR_of_CR (.nil _ _), hE, fun b hb hlt => ⟨hkeep b hb hlt, rfl⟩, rfl⟩
        · rw [if_neg h0] at hr; injection hr with hr; subst hr
          have hk0 : k ≠ 0 := fun e => h0 (by rw [hyl, e]; simp)
          have hvn : v' ≠ .slice none 0 0 := fun e => hk0 (hA.isnil.1 e).2
          obtain ⟨b', hb'⟩ := ownBlock_of_row hA.row hvn
          have hnew : w.heap.size ≤ b' := by rcases hA.block b' hb' with h' | h'; { simp [Value.ownBlock] at h' }; { exact h' }
          have hfree := h.new_free hnew
          have hlt := (hA.row.lt b' hb').2
          have hS2 := hS.relabel (b := b') (by rw [hfree]; rfl) hlt (.inr (Nat.le_trans h.kept.size hnew)) (q 0)
          refine ⟨v', w', _, hr', hS2, TR_of_TC ⟨b', by simp [upd], 0 + k, us, by simpa using hA.row, hb', hsz, hul, fun i hi hi' => ⟨(huc i hi hi').1, (huc i hi hi').2.ext hE⟩, ?_, fun _ => h.fresh b' hnew⟩ rfl, hE, fun b hb hlt' => ⟨hkeep b hb hlt', ?_⟩, rfl⟩
          · show G.Fr b' ≤ _
            rw [h.fresh b' hnew]; omega
          · show upd G.ω b' (q 0) b = G.ω b
            rw [upd_ne _ _ _ _ (by omega)]
      · -- own
        rename_i f
        split at hr
        · rename_i hee
          obtain ⟨rfl, rfl⟩ := hee
          injection hr with hr; subst hr
          obtain ⟨b, hbω, hO⟩ := TC_of_TR hb rfl
          have hO' := hO
          obtain ⟨m, vs, ho, hob, hz, hl, hc, hf1, hf2⟩ := hO
          have hm : xs.length = m * sz' := by rw [← hl]; exact ho.1
          have hmk : (xs.length + ys.length) / sz' = m + k := by rw [hm, hyl, ← Nat.add_mul, Nat.mul_div_cancel _ hsz]
          rw [hmk] at hbound
          have hle : m + k ≤ xs.length + ys.length := by rw [hm, hyl, ← Nat.add_mul]; exact Nat.le_mul_of_pos_right _ hsz
          obtain ⟨v', w', hr', hA⟩ := hrun m vs ho (by simp only [maxLen, tooLong] at *; omega) hbound.1
          have hnil : v ≠ .slice none 0 0 := fun e => by rw [e] at hob; simp [Value.ownBlock] at hob
          have hvn : v' ≠ .slice none 0 0 := fun e => hnil (hA.isnil.1 e).1
          obtain ⟨b', hb'⟩ := ownBlock_of_row hA.row hvn
          have hbm := h.mine b (by rw [hbω]; simp)
          have hcell : ∀ b2 o2 u2, v.ownBlock = some b2 → o2 < G.Fr b2 → w.cell? ⟨b2, o2, none⟩ = some u2 → w'.cell? ⟨b2, o2, none⟩ = some u2 := by
            intro b2 o2 u2 hb2 ho2 hu2
            rw [hob] at hb2; injection hb2 with hb2; subst hb2
            have ho2' : o2 < vs.length := by omega
            have e1 := ho.cells hob o2 vs[o2] (List.getElem?_eq_getElem ho2')
            have eadd : (⟨b, 0, none⟩ : Addr).add o2 = ⟨b, o2, none⟩ := by unfold Addr.add; split <;> simp_all
            rw [eadd, hu2] at e1; injection e1 with e1
            rcases hA.block b' hb' with h' | h'
            · rw [hob] at h'; injection h' with h'; subst h'
              have e2 := hA.row.cells hb' o2 vs[o2] (by rw [List.getElem?_append_left ho2']; exact List.getElem?_eq_getElem ho2')
              rw [eadd] at e2; rw [e2, e1]
            · -- grown: the old row stands
              have e2 := hA.old b hob (by rw [hb']; intro e; injection e with e; subst e; omega) hbm.1
              unfold World.cell? at hu2 ⊢
              rw [e2]; exact hu2
          have hshp : ∀ b2 cs2 e2, v.ownBlock = some b2 → w.heap[b2]? = some (.cells cs2 e2 (0, 0)) → ∃ cs', w'.heap[b2]? = some (.cells cs' e2 (0, 0)) := by
            intro b2 cs2 e2 hb2 h2
            rw [hob] at hb2; injection hb2 with hb2; subst hb2
            rcases hA.block b' hb' with h' | h'
            · rw [hob] at h'; injection h' with h'; subst h'
              have ee : e2 = e' := by
                rcases ho.2 with ⟨h0, _⟩ | ⟨g, cap, cur, h0, _, hg, _⟩
                · exact absurd h0 hnil
                · rw [h0] at hob; simp only [Value.ownBlock, Option.some.injEq] at hob; subst hob
                  rw [hg] at h2; injection h2 with h2; injection h2 with _ h2; exact h2.symm
              rcases hA.row.2 with ⟨h0, _⟩ | ⟨g, cap, cur, h0, _, hg, _⟩
              · exact absurd h0 hvn
              · rw [h0] at hb'; simp only [Value.ownBlock, Option.some.injEq] at hb'; subst hb'
                exact ⟨cur, by rw [hg, ee]⟩
            · have e2 := hA.old b hob (by rw [hb']; intro e; injection e with e; subst e; omega) hbm.1
              exact ⟨cs2, by rw [e2]; exact h2⟩
          obtain ⟨hS, hE⟩ := h.grown (v := v) (fun b2 hb2 => by rw [hob] at hb2; injection hb2 with hb2; subst hb2; exact ⟨by rw [hbω]; rfl, hbm.2⟩) hA.grown hcell (fun b2 hb2 => by rw [hob] at hb2; injection hb2 with hb2; subst hb2; exact hbm.1) hshp
          have hloose : (G.ω b').loose = true ∧ (A b' ∨ w0.heap.size ≤ b') ∧ (b' = b ∨ G.Fr b' = 0) := by
            rcases hA.block b' hb' with h' | h'
            · rw [hob] at h'; injection h' with h'; subst h'; exact ⟨by rw [hbω]; rfl, hbm.2, .inl rfl⟩
            · exact ⟨by rw [h.new_free h']; rfl, .inr (Nat.le_trans h.kept.size h'), .inr (h.fresh b' h')⟩
          have hS2 := hS.relabel (b := b') hloose.1 (hA.row.lt b' hb').2 hloose.2.1 (q 0)
          have hml : vs.length / sz' = m := by rw [ho.1, Nat.mul_div_cancel _ hsz]
          have hO2 := own_grown hO' hE (by rw [hml]; exact ho) hl (by rw [hml]; exact hA.row) hul huc hb' hloose.2.2
          refine ⟨v', w', _, hr', hS2, TR_of_TC ⟨b', by simp [upd], hO2⟩ rfl, hE, fun b2 hb2 hlt => ⟨hA.grown.block b2 hlt (fun e => hb2 (by rw [hob] at e; injection e with e; subst e; exact hbω)), ?_⟩, rfl⟩
          show upd G.ω b' (q 0) b2 = G.ω b2
          refine upd_ne _ _ _ _ (fun e => ?_)
          subst e
          rcases hA.block b2 hb' with h' | h'
          · rw [hob] at h'; injection h' with h'; subst h'; exact hb2 hbω
          · omega
        · cases hr
      · cases hr
    · cases hr
  · cases hr

end Go.Proofs.YtjlioidknhdceaaDoor.Abs
