/- The machine's runs of the pure operations: comparisons, conversions, indexes, parts. -/
import Derived.Test.YtjlioidknhdceaaDoorA7
import Derived.WalkSpells
namespace Go.Proofs.YtjlioidknhdceaaDoor.Abs
set_option linter.all false

variable {P : Program} {w : World} {G : Gh} {p q : Nat → Pos} {a : Act} {o : Oper}

theorem tkind_0 {t : TypeId} (h : tkind P t = some 0) : P.underlying t = some .bool := by
  unfold tkind at h; split at h <;> first | assumption | (injection h with h; cases h) | cases h
theorem tkind_2 {t : TypeId} (h : tkind P t = some 2) : P.underlying t = some .string := by
  unfold tkind at h; split at h <;> first | assumption | (injection h with h; cases h) | cases h
theorem tkind_3 {t : TypeId} (h : tkind P t = some 3) : ∃ e, P.underlying t = some (.slice e) := by
  unfold tkind at h; split at h <;> first | exact ⟨_, by assumption⟩ | (injection h with h; cases h) | cases h
theorem tkind_4 {t : TypeId} (h : tkind P t = some 4) : ∃ e, P.underlying t = some (.pointer e) := by
  unfold tkind at h; split at h <;> first | exact ⟨_, by assumption⟩ | (injection h with h; cases h) | cases h
theorem tkind_5 {t : TypeId} (h : tkind P t = some 5) : ∃ e, P.underlying t = some (.interface e) := by
  unfold tkind at h; split at h <;> first | exact ⟨_, by assumption⟩ | (injection h with h; cases h) | cases h
theorem tint_inv {t : TypeId} {k : IntKind} (h : tint P t = some k) : P.underlying t = some (.int k) := by
  unfold tint at h; split at h <;> first | (injection h with h; subst h; assumption) | cases h
theorem tagg_false {t : TypeId} (h : tagg P t = some false) : ∃ d, P.underlying t = some d ∧ (∀ fs, d ≠ .struct fs) ∧ ∀ n e, d ≠ .array n e := by
  unfold tagg at h
  split at h
  · cases h
  · cases h
  · rename_i d h1 h2 hd; exact ⟨d, hd, fun fs e => h1 fs e, fun n e' e => h2 n e' e⟩
  · cases h
theorem tagg_true {t : TypeId} (h : tagg P t = some true) : ∃ d, P.underlying t = some d ∧ d.isRow = true := by
  unfold tagg at h
  split at h
  · exact ⟨_, by assumption, rfl⟩
  · exact ⟨_, by assumption, rfl⟩
  · cases h
  · cases h
theorem run_isAgg_false {t : TypeId} (h : tagg P t = some false) (w : World) : (isAgg t).run P w = .ok false w := by
  obtain ⟨d, hd, h1, h2⟩ := tagg_false h
  unfold isAgg
  rw [Sem.run_bind, run_underlying hd w]
  cases d <;> simp_all
theorem run_isAgg_true {t : TypeId} (h : tagg P t = some true) (w : World) : (isAgg t).run P w = .ok true w := by
  obtain ⟨d, hd, h1⟩ := tagg_true h
  unfold isAgg
  rw [Sem.run_bind, run_underlying hd w]
  cases d <;> simp_all
theorem tsize_inv {t : TypeId} {n : Nat} (h : tsize P t = some n) : ∃ i, P.info? t = some i ∧ i.size = n := by
  unfold tsize at h; rw [Option.map_eq_some_iff] at h; exact h
theorem run_sizeOf' {t : TypeId} {n : Nat} (h : tsize P t = some n) (w : World) : (sizeOf t).run P w = .ok n w := by
  obtain ⟨i, hi, hs⟩ := tsize_inv h
  simp [sizeOf, typeInfo, hi, hs]
theorem telem_inv {t e : TypeId} {sz by' : Nat} (h : telem P t = some (e, sz, by')) :
    P.underlying t = some (.slice e) ∧ ∃ i z, P.info? e = some i ∧ i.zero = some z ∧ i.size = sz ∧ i.bytes = by' ∧ z.cells.size = sz ∧ 0 < sz := by
  unfold telem at h
  split at h
  · rename_i e' hu
    split at h
    · rename_i i hi
      split at h
      · rename_i z hz
        split at h
        · rename_i hc
          injection h with h; injection h with h1 h2; injection h2 with h2 h3
          subst h1; subst h2; subst h3
          exact ⟨hu, i, z, hi, hz, rfl, rfl, hc.1, hc.2⟩
        · cases h
      · cases h
    · cases h
  · cases h
theorem foff_inv {t u : TypeId} {i off : Nat} (h : foff P t i = some (off, u)) : ∃ fs f, P.underlying t = some (.struct fs) ∧ fs[i]? = some f ∧ f.offset = off ∧ f.type = u := by
  unfold foff at h
  split at h
  · rename_i fs hu
    rw [Option.map_eq_some_iff] at h
    obtain ⟨f, hf, he⟩ := h
    injection he with h1 h2
    exact ⟨fs, f, hu, hf, h1, h2⟩
  · cases h

theorem size_list (s : ByteArray) : s.size = s.data.toList.length := by rw [Array.length_toList]; rfl

theorem run_aStr {op : BinOp} {x y : ByteArray} {r : AV} (h : aStr op x.data.toList y.data.toList = some r) : ∃ v, CR w G.Fr r v ∧ ∀ t w', (binOp op t (.string x) (.string y)).run P w' = .ok v w' := by
  have e1 : x.toList = x.data.toList := toList_eq x
  have e2 : y.toList = y.data.toList := toList_eq y
  cases op <;> simp only [aStr] at h <;> first
    | (injection h with h; subst h; exact ⟨_, .bool _, fun t w' => by simp [binOp, Op.stringOp, e1, e2]⟩)
    | (split at h
       · rename_i hl
         injection h with h; subst h
         refine ⟨_, .str (x ++ y) _ (by simp), fun t w' => ?_⟩
         have : ¬ ((x.size + y.size : Nat) : Int) > IntKind.i64.max := by
           have e : IntKind.i64.max = 9223372036854775807 := by decide
           rw [size_list x, size_list y, e]
           simp only [maxLen] at hl; omega
         simp only [binOp, Op.stringOp]
         rw [if_neg this]; rfl
       · cases h)
    | cases h

theorem run_equal {t : TypeId} {kd : Nat} (hk : tkind P t = some kd) {lit : Bool} {x y : AV} {v u : Value} (hx : TR w G p x v) (hy : TR w G q y u) {b : Bool} (h : aEq kd lit x y = some b) :
    ∀ w', (Op.equal t v u).run P w' = .ok b w' := by
  intro w'
  unfold aEq at h
  split at h
  · obtain rfl := TR_bool hx; obtain rfl := TR_bool hy; injection h with h; subst h
    (unfold Op.equal Op.maxDepth; rw [Op.equalIn, Sem.run_bind, run_underlying (tkind_0 hk), Result.andThen_ok]; rfl)
  · obtain ⟨_, _, _, rfl, _, h1, _⟩ := TR_slice hx; obtain ⟨_, _, _, rfl, _, h2, _⟩ := TR_slice hy
    obtain ⟨e1, _⟩ := h1 rfl; obtain ⟨e2, _⟩ := h2 rfl; injection e1 with e1 _ _; injection e2 with e2 _ _; subst e1; subst e2
    obtain ⟨e, he⟩ := tkind_3 hk; injection h with h; subst h
    (unfold Op.equal Op.maxDepth; rw [Op.equalIn, Sem.run_bind, run_underlying he, Result.andThen_ok]; rfl)
  · rename_i c _ _ _ hne
    obtain ⟨_, _, _, rfl, _, h1, _⟩ := TR_slice hx; obtain ⟨o2, _, _, rfl, _, _, h2⟩ := TR_slice hy
    obtain ⟨e1, _⟩ := h1 rfl; injection e1 with e1 _ _; subst e1
    have h3 := (h2 (fun e => hne e)).1
    obtain ⟨e, he⟩ := tkind_3 hk; injection h with h; subst h
    cases o2 with
    | none => simp at h3
    | some a2 => (unfold Op.equal Op.maxDepth; rw [Op.equalIn, Sem.run_bind, run_underlying he, Result.andThen_ok]; rfl)
  · rename_i c _ _ _ _ _ _ hne
    obtain ⟨o1, _, _, rfl, _, _, h1⟩ := TR_slice hx; obtain ⟨_, _, _, rfl, _, h2, _⟩ := TR_slice hy
    obtain ⟨e2, _⟩ := h2 rfl; injection e2 with e2 _ _; subst e2
    obtain ⟨e, he⟩ := tkind_3 hk; injection h with h; subst h
    have h3 : c ≠ .nil := fun e => hne e
    have h4 := (h1 h3).1
    cases o1 with
    | none => simp at h4
    | some a2 => (unfold Op.equal Op.maxDepth; rw [Op.equalIn, Sem.run_bind, run_underlying he, Result.andThen_ok]; rfl)
  · obtain ⟨_, _, _, rfl, _, h1, _⟩ := TR_slice hx; obtain ⟨_, _, _, _, rfl, _⟩ := TR_hsl hy
    obtain ⟨e1, _⟩ := h1 rfl; injection e1 with e1 _ _; subst e1
    obtain ⟨e, he⟩ := tkind_3 hk; injection h with h; subst h
    (unfold Op.equal Op.maxDepth; rw [Op.equalIn, Sem.run_bind, run_underlying he, Result.andThen_ok]; rfl)
  · obtain ⟨_, _, _, _, rfl, _⟩ := TR_hsl hx; obtain ⟨_, _, _, rfl, _, h2, _⟩ := TR_slice hy
    obtain ⟨e2, _⟩ := h2 rfl; injection e2 with e2 _ _; subst e2
    obtain ⟨e, he⟩ := tkind_3 hk; injection h with h; subst h
    (unfold Op.equal Op.maxDepth; rw [Op.equalIn, Sem.run_bind, run_underlying he, Result.andThen_ok]; rfl)
  · obtain rfl := TR_nilptr hx; obtain rfl := TR_nilptr hy; obtain ⟨e, he⟩ := tkind_4 hk; injection h with h; subst h
    (unfold Op.equal Op.maxDepth; rw [Op.equalIn, Sem.run_bind, run_underlying he, Result.andThen_ok]; rfl)
  · obtain rfl := TR_nilptr hx; obtain ⟨b, _, rfl⟩ := TR_ptr hy; obtain ⟨e, he⟩ := tkind_4 hk; injection h with h; subst h
    (unfold Op.equal Op.maxDepth; rw [Op.equalIn, Sem.run_bind, run_underlying he, Result.andThen_ok]; rfl)
  · obtain rfl := TR_nilptr hy; obtain ⟨b, _, rfl⟩ := TR_ptr hx; obtain ⟨e, he⟩ := tkind_4 hk; injection h with h; subst h
    (unfold Op.equal Op.maxDepth; rw [Op.equalIn, Sem.run_bind, run_underlying he, Result.andThen_ok]; rfl)
  · obtain rfl := TR_nilptr hx; obtain ⟨b, rfl, _⟩ := TR_eptr hy; obtain ⟨e, he⟩ := tkind_4 hk; injection h with h; subst h
    (unfold Op.equal Op.maxDepth; rw [Op.equalIn, Sem.run_bind, run_underlying he, Result.andThen_ok]; rfl)
  · obtain rfl := TR_nilptr hy; obtain ⟨b, rfl, _⟩ := TR_eptr hx; obtain ⟨e, he⟩ := tkind_4 hk; injection h with h; subst h
    (unfold Op.equal Op.maxDepth; rw [Op.equalIn, Sem.run_bind, run_underlying he, Result.andThen_ok]; rfl)
  · obtain rfl := TR_nilI hx; obtain ⟨_, rfl, _⟩ := TR_iface hy; obtain ⟨e, he⟩ := tkind_5 hk; injection h with h; subst h
    (unfold Op.equal Op.maxDepth; rw [Op.equalIn, Sem.run_bind, run_underlying he, Result.andThen_ok]; rfl)
  · obtain rfl := TR_nilI hy; obtain ⟨_, rfl, _⟩ := TR_iface hx; obtain ⟨e, he⟩ := tkind_5 hk; injection h with h; subst h
    (unfold Op.equal Op.maxDepth; rw [Op.equalIn, Sem.run_bind, run_underlying he, Result.andThen_ok]; rfl)
  · obtain rfl := TR_nilI hy; obtain rfl := TR_nilI hx; obtain ⟨e, he⟩ := tkind_5 hk
    split at h
    · injection h with h; subst h
      (unfold Op.equal Op.maxDepth; rw [Op.equalIn, Sem.run_bind, run_underlying he, Result.andThen_ok]; rfl)
    · cases h
  · cases h

theorem runs_bin {op : BinOp} {t yt : TypeId} {x y : Operand} (ho : o.op = .binOp op t x y yt) {kd : Nat} (hk : tkind P t = some kd) {vx vy r : AV}
    (hx : TR w G p vx (a.eval x)) (hy : TR w G q vy (a.eval y)) (hr : aBin op kd (isLit x || isLit y) vx vy = some r) : ∃ v, CR w G.Fr r v ∧ ∀ w', Runs P o a w' v w' := by
  have key : ∀ v, (∀ w', (eqGuard op t x y (a.eval x) (a.eval y)).run P w' = .ok () w') → (∀ w', (binOp op t (a.eval x) (a.eval y)).run P w' = .ok v w') → ∀ w', Runs P o a w' v w' := by
    intro v h1 h2 w'
    simp only [Runs, execOp, ho, Sem.run_bind, h1, Result.andThen_ok, h2, Sem.run_pure]
  unfold aBin at hr
  split at hr
  · rename_i k m k' m'
    rw [TR_int hx, TR_int hy] at key
    have hg : ∀ w', (eqGuard op t x y (.int k m) (.int k' m')).run P w' = .ok () w' := by
      intro w'; unfold eqGuard; split <;> rfl
    split at hr
    · obtain ⟨v, h1, h2⟩ := run_aShift (P := P) (w := w) (G := G) (k' := k') hr; exact ⟨v, h1, key v hg (h2 t)⟩
    · obtain ⟨v, h1, h2⟩ := run_aShift (P := P) (w := w) (G := G) (k' := k') hr; exact ⟨v, h1, key v hg (h2 t)⟩
    · rename_i hs1 hs2
      split at hr
      · rename_i hkk; subst hkk
        obtain ⟨v, h1, h2⟩ := run_aInt (P := P) (w := w) (G := G) hr ⟨fun e => hs1 e, fun e => hs2 e⟩; exact ⟨v, h1, key v hg (h2 t)⟩
      · cases hr
  · obtain ⟨s1, e1, rfl⟩ := TR_str hx; obtain ⟨s2, e2, rfl⟩ := TR_str hy
    rw [e1, e2] at key
    have hg : ∀ w', (eqGuard op t x y (.string s1) (.string s2)).run P w' = .ok () w' := by
      intro w'; unfold eqGuard; split <;> rfl
    obtain ⟨v, h1, h2⟩ := run_aStr (P := P) (w := w) (G := G) hr
    exact ⟨v, h1, key v hg (h2 t)⟩
  · have fin : ∀ (b : Bool) (v u : Value), a.eval x = v → a.eval y = u → (∀ w', (Op.equal t v u).run P w' = .ok b w') →
        (∀ op w', (eqGuard op t x y v u).run P w' = .ok () w') →
        (∀ w', (binOp .eql t v u).run P w' = ((Op.equal t v u).run P w').andThen fun b w' => .ok (.bool b) w') →
        (∀ w', (binOp .neq t v u).run P w' = ((Op.equal t v u).run P w').andThen fun b w' => .ok (.bool (!b)) w') →
        (∀ op w', (eqGuard op t x y (a.eval x) (a.eval y)).run P w' = .ok () w') ∧
        (∀ w', (binOp .eql t (a.eval x) (a.eval y)).run P w' = .ok (.bool b) w') ∧ (∀ w', (binOp .neq t (a.eval x) (a.eval y)).run P w' = .ok (.bool (!b)) w') := by
      intro b v u e1 e2 he hg h1 h2
      rw [e1, e2]
      exact ⟨hg, fun w' => by rw [h1, he]; rfl, fun w' => by rw [h2, he]; rfl⟩
    have main : ∀ b, aEq kd (isLit x || isLit y) vx vy = some b →
        (∀ op w', (eqGuard op t x y (a.eval x) (a.eval y)).run P w' = .ok () w') ∧
        (∀ w', (binOp .eql t (a.eval x) (a.eval y)).run P w' = .ok (.bool b) w') ∧ (∀ w', (binOp .neq t (a.eval x) (a.eval y)).run P w' = .ok (.bool (!b)) w') := by
      intro b hb
      have he := run_equal hk hx hy hb
      have hb0 := hb
      unfold aEq at hb
      split at hb
      · have e1 := TR_bool hx; have e2 := TR_bool hy; rw [e1, e2] at he
        exact fin b _ _ e1 e2 he (fun op w' => by cases op <;> rfl) (fun w' => by unfold binOp; simp only [Sem.run_bind, Sem.run_pure]) (fun w' => by unfold binOp; simp only [Sem.run_bind, Sem.run_pure])
      · obtain ⟨_, _, _, e1, _⟩ := TR_slice hx; obtain ⟨_, _, _, e2, _⟩ := TR_slice hy; rw [e1, e2] at he
        exact fin b _ _ e1 e2 he (fun op w' => by cases op <;> rfl) (fun w' => by unfold binOp; simp only [Sem.run_bind, Sem.run_pure]) (fun w' => by unfold binOp; simp only [Sem.run_bind, Sem.run_pure])
      · obtain ⟨_, _, _, e1, _⟩ := TR_slice hx; obtain ⟨_, _, _, e2, _⟩ := TR_slice hy; rw [e1, e2] at he
        exact fin b _ _ e1 e2 he (fun op w' => by cases op <;> rfl) (fun w' => by unfold binOp; simp only [Sem.run_bind, Sem.run_pure]) (fun w' => by unfold binOp; simp only [Sem.run_bind, Sem.run_pure])
      · obtain ⟨_, _, _, e1, _⟩ := TR_slice hx; obtain ⟨_, _, _, e2, _⟩ := TR_slice hy; rw [e1, e2] at he
        exact fin b _ _ e1 e2 he (fun op w' => by cases op <;> rfl) (fun w' => by unfold binOp; simp only [Sem.run_bind, Sem.run_pure]) (fun w' => by unfold binOp; simp only [Sem.run_bind, Sem.run_pure])
      · obtain ⟨_, _, _, e1, _⟩ := TR_slice hx; obtain ⟨_, _, _, _, e2, _⟩ := TR_hsl hy; rw [e1, e2] at he
        exact fin b _ _ e1 e2 he (fun op w' => by cases op <;> rfl) (fun w' => by unfold binOp; simp only [Sem.run_bind, Sem.run_pure]) (fun w' => by unfold binOp; simp only [Sem.run_bind, Sem.run_pure])
      · obtain ⟨_, _, _, _, e1, _⟩ := TR_hsl hx; obtain ⟨_, _, _, e2, _⟩ := TR_slice hy; rw [e1, e2] at he
        exact fin b _ _ e1 e2 he (fun op w' => by cases op <;> rfl) (fun w' => by unfold binOp; simp only [Sem.run_bind, Sem.run_pure]) (fun w' => by unfold binOp; simp only [Sem.run_bind, Sem.run_pure])
      · have e1 := TR_nilptr hx; have e2 := TR_nilptr hy; rw [e1, e2] at he
        exact fin b _ _ e1 e2 he (fun op w' => by cases op <;> rfl) (fun w' => by unfold binOp; simp only [Sem.run_bind, Sem.run_pure]) (fun w' => by unfold binOp; simp only [Sem.run_bind, Sem.run_pure])
      · have e1 := TR_nilptr hx; obtain ⟨_, _, e2⟩ := TR_ptr hy; rw [e1, e2] at he
        exact fin b _ _ e1 e2 he (fun op w' => by cases op <;> rfl) (fun w' => by unfold binOp; simp only [Sem.run_bind, Sem.run_pure]) (fun w' => by unfold binOp; simp only [Sem.run_bind, Sem.run_pure])
      · obtain ⟨_, _, e1⟩ := TR_ptr hx; have e2 := TR_nilptr hy; rw [e1, e2] at he
        exact fin b _ _ e1 e2 he (fun op w' => by cases op <;> rfl) (fun w' => by unfold binOp; simp only [Sem.run_bind, Sem.run_pure]) (fun w' => by unfold binOp; simp only [Sem.run_bind, Sem.run_pure])
      · have e1 := TR_nilptr hx; obtain ⟨_, e2, _⟩ := TR_eptr hy; rw [e1, e2] at he
        exact fin b _ _ e1 e2 he (fun op w' => by cases op <;> rfl) (fun w' => by unfold binOp; simp only [Sem.run_bind, Sem.run_pure]) (fun w' => by unfold binOp; simp only [Sem.run_bind, Sem.run_pure])
      · obtain ⟨_, e1, _⟩ := TR_eptr hx; have e2 := TR_nilptr hy; rw [e1, e2] at he
        exact fin b _ _ e1 e2 he (fun op w' => by cases op <;> rfl) (fun w' => by unfold binOp; simp only [Sem.run_bind, Sem.run_pure]) (fun w' => by unfold binOp; simp only [Sem.run_bind, Sem.run_pure])
      · have e1 := TR_nilI hx; obtain ⟨_, e2, _⟩ := TR_iface hy; rw [e1, e2] at he
        exact fin b _ _ e1 e2 he (fun op w' => by cases op <;> rfl) (fun w' => by unfold binOp; simp only [Sem.run_bind, Sem.run_pure]) (fun w' => by unfold binOp; simp only [Sem.run_bind, Sem.run_pure])
      · obtain ⟨_, e1, _⟩ := TR_iface hx; have e2 := TR_nilI hy; rw [e1, e2] at he
        exact fin b _ _ e1 e2 he (fun op w' => by cases op <;> rfl) (fun w' => by unfold binOp; simp only [Sem.run_bind, Sem.run_pure]) (fun w' => by unfold binOp; simp only [Sem.run_bind, Sem.run_pure])
      · have e1 := TR_nilI hx; have e2 := TR_nilI hy; rw [e1, e2] at he
        split at hb
        · rename_i hl
          refine fin b _ _ e1 e2 he (fun op w' => ?_) (fun w' => by unfold binOp; simp only [Sem.run_bind, Sem.run_pure]) (fun w' => by unfold binOp; simp only [Sem.run_bind, Sem.run_pure])
          cases x <;> cases y <;> first | (cases op <;> rfl) | (simp [isLit] at hl)
        · cases hb
      · cases hb
    split at hr
    · rw [Option.map_eq_some_iff] at hr; obtain ⟨b, hb, rfl⟩ := hr; obtain ⟨h1, h2, _⟩ := main b hb; exact ⟨_, .bool _, key _ (h1 _) h2⟩
    · rw [Option.map_eq_some_iff] at hr; obtain ⟨b, hb, rfl⟩ := hr; obtain ⟨h1, _, h2⟩ := main b hb; exact ⟨_, .bool _, key _ (h1 _) h2⟩
    · cases hr

end Go.Proofs.YtjlioidknhdceaaDoor.Abs
