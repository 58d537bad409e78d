/- A7, A8, A9, A10, A11, A12, A13, A14 -/
import Derived.Test.YticoldgiebmmgaaGreatDoorA6
import Derived.Laws.BytesString
import Derived.WalkSpells
import Derived.Laws.CopyRow
import Derived.Lib.ConvBytes
import Derived.Lib.AppendStr
import Derived.Great.BuildSlice
/- What single operations give, and what the machine does: the pure ones. -/
namespace Go.Proofs.YticoldgiebmmgaaGreatDoor.Abs
set_option linter.all false

variable {P : Program} {w : World} {G : Gh} {p : Nat → Pos}

/-! ### What a reading says of the value -/
theorem TR_bool {b : Bool} {v : Value} (h : TR w G p (.bool b) v) : v = .bool b := by cases CR_of_TC (TC_of_TR h rfl) rfl; rfl
theorem TR_int {k : IntKind} {n : Int} {v : Value} (h : TR w G p (.int k n) v) : v = .int k n := by cases CR_of_TC (TC_of_TR h rfl) rfl; rfl
theorem TR_str {l : List UInt8} {v : Value} (h : TR w G p (.str l) v) : ∃ s : ByteArray, v = .string s ∧ s.data.toList = l := by
  cases CR_of_TC (TC_of_TR h rfl) rfl; exact ⟨_, rfl, by assumption⟩
theorem TR_nilptr {v : Value} (h : TR w G p .nilptr v) : v = .pointer none := by cases CR_of_TC (TC_of_TR h rfl) rfl; rfl
theorem TR_nilI {v : Value} (h : TR w G p .nilI v) : v = .nilIface := by cases CR_of_TC (TC_of_TR h rfl) rfl; rfl
theorem TR_iface {t : TypeId} {x : AV} {v : Value} (h : TR w G p (.iface t x) v) : ∃ u, v = .iface t u ∧ CR w G.Fr x u := by
  cases CR_of_TC (TC_of_TR h rfl) rfl; exact ⟨_, rfl, by assumption⟩
theorem TR_fn {f : FuncId} {v : Value} (h : TR w G p (.fn f) v) : v = .func (.func f) #[] #[] := by cases CR_of_TC (TC_of_TR h rfl) rfl; rfl
theorem TR_gl {g : Nat} {v : Value} (h : TR w G p (.gl g) v) : v = .pointer (some ⟨g, 0, none⟩) := by cases CR_of_TC (TC_of_TR h rfl) rfl; rfl
theorem TR_ptr {s : K} {off : Nat} {v : Value} (h : TR w G p (.ptr s off) v) : ∃ t, G.at s = some t ∧ v = .pointer (some ⟨t.b, off, none⟩) := by
  cases s with
  | loc s => exact h
  | obj i => cases CR_of_TC (TC_of_TR h rfl) rfl; exact ⟨_, by assumption, rfl⟩
theorem TR_hsl {i k e sz n : Nat} {v : Value} (h : TR w G p (.hsl i k e sz n) v) : ∃ cap a t, G.at (.obj i) = some t ∧ v = .slice (some a) n cap ∧ 0 < sz ∧ n ≤ cap ∧ (k = 0 ∨ 0 < n → a = ⟨t.b, k, none⟩ ∧ (t.r = true → k + cap * sz = t.N)) := by
  cases CR_of_TC (TC_of_TR h rfl) rfl
  exact ⟨_, _, _, by assumption, rfl, by assumption, by assumption, by assumption⟩
theorem TR_agg {xs : List AV} {v : Value} (h : TR w G p (.agg xs) v) : ∃ vs : Array Value, v = .agg vs ∧ CR w G.Fr (.agg xs) (.agg vs) := by
  have := CR_of_TC (TC_of_TR h rfl) rfl
  cases this; exact ⟨_, rfl, by constructor <;> assumption⟩

theorem TR_slice {c : Cls} {e sz : Nat} {xs : List AV} {v : Value} (h : TR w G p (.slice c e sz xs) v) :
    ∃ o n cap, v = .slice o n cap ∧ n = xs.length / sz ∧ (c = .nil → v = .slice none 0 0 ∧ xs = []) ∧ (c ≠ .nil → o.isSome = true ∧ 0 < sz ∧ xs.length = n * sz) := by
  have h' := TC_of_TR h rfl
  cases c with
  | nil => cases (show CR w G.Fr _ _ from h'); exact ⟨none, 0, 0, rfl, by simp, fun _ => ⟨rfl, rfl⟩, fun h => absurd rfl h⟩
  | frz => cases (show CR w G.Fr _ _ from h') with
    | frz e sz n cap a xs vs hs hz hl hc hp hv ho hr => exact ⟨some a, n, cap, rfl, by rw [hl, Nat.mul_div_cancel _ hz], (fun h => by cases h), fun _ => ⟨rfl, hz, hl⟩⟩
  | hdr => cases (show CR w G.Fr _ _ from h') with
    | hdr e sz n cap a xs hz hl hc => exact ⟨some a, n, cap, rfl, by rw [hl, Nat.mul_div_cancel _ hz], (fun h => by cases h), fun _ => ⟨rfl, hz, hl⟩⟩
  | own f =>
    obtain ⟨b, _, n, vs, ho, hob, hz, hl, _⟩ := h'
    rcases ho.2 with ⟨rfl, _⟩ | ⟨g, cap, cur, rfl, _⟩
    · simp [Value.ownBlock] at hob
    · have := ho.1; rw [hl] at this
      exact ⟨_, n, cap, rfl, by rw [this, Nat.mul_div_cancel _ hz], (fun h => by cases h), fun _ => ⟨rfl, hz, this⟩⟩

theorem TR_cells {c : Cls} {e sz : Nat} {xs : List AV} {o : Option Addr} {n cap : Nat} (h : TR w G p (.slice c e sz xs) (.slice o n cap)) (hc : c ≠ .hdr) :
    (c = .nil ∧ o = none ∧ n = 0 ∧ xs = []) ∨ ∃ (a : Addr) (vs : Nat → Value), o = some a ∧ (0 < xs.length → a.spot = none) ∧ (∀ i, i < xs.length → w.cell? ⟨a.block, a.off + i, none⟩ = some (vs i)) ∧
      (∀ i, i < xs.length → (vs i).oneCell' = true) ∧ (∀ i (h : i < xs.length), CR w G.Fr xs[i] (vs i)) ∧ 0 < sz ∧ xs.length = n * sz := by
  have h' := TC_of_TR h rfl
  cases c with
  | nil => cases (show CR w G.Fr _ _ from h'); exact .inl ⟨rfl, rfl, rfl, rfl⟩
  | frz => cases (show CR w G.Fr _ _ from h') with
    | frz e sz n cap a xs vs hs hz hl hc hp hv ho hr => exact .inr ⟨a, vs, rfl, hs, hv, ho, hr, hz, hl⟩
  | hdr => exact absurd rfl hc
  | own f =>
    obtain ⟨b, _, hO⟩ := h'
    have hz : 0 < sz := by obtain ⟨_, _, _, _, hz, _⟩ := hO; exact hz
    obtain ⟨n', vs', ho', hob', _, hl', hcc, _, _⟩ := hO
    rcases ho'.2 with ⟨h0, _⟩ | ⟨g, cap', cur, h0, _⟩
    · rw [h0] at hob'; simp [Value.ownBlock] at hob'
    · have hgb : g = b := by rw [h0] at hob'; simpa [Value.ownBlock] using hob'
      injection h0 with h1 h2 h3
      subst h1; subst h2; subst h3
      refine .inr ⟨⟨g, 0, none⟩, fun i => vs'.getD i undef, rfl, fun _ => rfl, fun i hi => ?_, fun i hi => ?_, fun i hi => ?_, hz, by rw [← hl']; exact ho'.1⟩
      · have hi' : i < vs'.length := by omega
        have := ho'.cells (g := g) (by simp [Value.ownBlock]) i (vs'.getD i undef) (by simp [List.getElem?_eq_getElem hi', List.getD])
        rw [show (⟨(⟨g, 0, none⟩ : Addr).block, (⟨g, 0, none⟩ : Addr).off + i, none⟩ : Addr) = (⟨g, 0, none⟩ : Addr).add i from by unfold Addr.add; split <;> simp_all]
        exact this
      · have hi' : i < vs'.length := by omega
        simpa [List.getD, List.getElem?_eq_getElem hi'] using (hcc i hi hi').1
      · have hi' : i < vs'.length := by omega
        simpa [List.getD, List.getElem?_eq_getElem hi'] using (hcc i hi hi').2

theorem TR_eptr {xs : List AV} {v : Value} (h : TR w G p (.eptr xs) v) : ∃ a, v = .pointer (some a) ∧ CR w G.Fr (.eptr xs) (.pointer (some a)) := by
  have := CR_of_TC (TC_of_TR h rfl) rfl
  cases this; exact ⟨_, rfl, by constructor <;> assumption⟩

/-! ### The machine's runs -/
variable {a : Act} {o : Oper}
def Runs (P : Program) (o : Oper) (a : Act) (w : World) (v : Value) (w' : World) : Prop := (execOp a.eval o).run P w = .ok (.value v) w'

theorem Runs.wp {v : Value} {w' : World} {next : Act → World → Prop} {Q : Exit → Act → World → Prop} (h : Runs P o a w v w') (hn : next (a.put o.dst v) w') : o.wp P a w next Q := by
  unfold Oper.wp; rw [show (execOp a.eval o).run P w = .ok (.value v) w' from h]; exact hn

theorem runs_move {x : Operand} (ho : o.op = .move x) : Runs P o a w (a.eval x) w := by simp [Runs, execOp, ho]
theorem runs_assign {x : Operand} (ho : o.op = .assign x) : Runs P o a w (a.eval x) w := by simp [Runs, execOp, ho]
theorem runs_pick {c x y : Operand} (ho : o.op = .pick c x y) {b : Bool} (hc : a.eval c = .bool b) : Runs P o a w (if b then a.eval x else a.eval y) w := by
  simp [Runs, execOp, ho, hc, asBool]
theorem runs_nilCheck {x : Operand} (ho : o.op = .nilCheck x) {v : Value} (hx : a.eval x = v) (hv : (∃ ad, v = .pointer (some ad)) ∨ ∃ f, v = .func (.func f) #[] #[]) : Runs P o a w v w := by
  rcases hv with ⟨ad, rfl⟩ | ⟨f, rfl⟩ <;> simp [Runs, execOp, ho, hx]
theorem runs_un {op : UnOp} {t : TypeId} {x : Operand} (ho : o.op = .unOp op t x) {y : AV} {r : AV} (hy : TR w G p y (a.eval x)) (hr : aUn op y = some r) : ∃ v, CR w G.Fr r v ∧ ∀ w', Runs P o a w' v w' := by
  cases op with
  | neg => cases y with
    | int k n => simp [aUn] at hr; subst hr; exact ⟨_, .int _ _, fun w' => by simp [Runs, execOp, ho, TR_int hy, Op.unary, Op.intArith, Int.zero_sub]⟩
    | _ => simp [aUn] at hr
  | xor => cases y with
    | int k n => simp [aUn, aInt] at hr; subst hr; exact ⟨_, .int _ _, fun w' => by simp [Runs, execOp, ho, TR_int hy, Op.unary, Op.intBits]⟩
    | _ => simp [aUn] at hr
  | not => cases y with
    | bool b => simp [aUn] at hr; subst hr; exact ⟨_, .bool _, fun w' => by simp [Runs, execOp, ho, TR_bool hy, Op.unary]⟩
    | _ => simp [aUn] at hr
  | plus => simp [aUn] at hr

theorem run_aInt {op : BinOp} {k : IntKind} {x y : Int} {r : AV} (h : aInt op k x y = some r) (hs : op ≠ .shl ∧ op ≠ .shr) : ∃ v, CR w G.Fr r v ∧ ∀ t w', (binOp op t (.int k x) (.int k y)).run P w' = .ok v w' := by
  cases op <;> simp [aInt] at h hs <;> first
    | (subst h; exact ⟨_, .int _ _, fun t w' => by simp [binOp, Op.intArith, Op.intBits]⟩)
    | (subst h; exact ⟨_, .bool _, fun t w' => by simp [binOp, Op.intCmp]⟩)
    | (obtain ⟨h0, rfl⟩ := h; exact ⟨_, .int _ _, fun t w' => by simp [binOp, Op.intDiv, h0]⟩)

theorem run_aShift {op : BinOp} {k k' : IntKind} {x y : Int} {r : AV} (h : aShift op k x y = some r) : ∃ v, CR w G.Fr r v ∧ ∀ t w', (binOp op t (.int k x) (.int k' y)).run P w' = .ok v w' := by
  unfold aShift at h
  split at h
  · cases h
  · rename_i hy
    cases op <;> simp at h
    all_goals (subst h; exact ⟨_, .int _ _, fun t w' => by simp [binOp, Op.shift, hy]⟩)

theorem toList_eq (s : ByteArray) : s.toList = s.data.toList := by
  exact ByteArray.toList_eq s

end Go.Proofs.YticoldgiebmmgaaGreatDoor.Abs

/- The machine's runs of the pure operations: comparisons, conversions, indexes, parts. -/
namespace Go.Proofs.YticoldgiebmmgaaGreatDoor.Abs
set_option linter.all false

variable {P : Program} {w : World} {G : Gh} {p q : Nat → Pos} {a : Act} {o : Oper}

theorem tkind_0 {t : TypeId} (h : tkind P t = some 0) : P.underlying t = some .bool := by
  unfold tkind at h; split at h <;> first | assumption | (injection h with h; cases h) | cases h
theorem tkind_2 {t : TypeId} (h : tkind P t = some 2) : P.underlying t = some .string := by
  unfold tkind at h; split at h <;> first | assumption | (injection h with h; cases h) | cases h
theorem tkind_3 {t : TypeId} (h : tkind P t = some 3) : ∃ e, P.underlying t = some (.slice e) := by
  unfold tkind at h; split at h <;> first | exact ⟨_, by assumption⟩ | (injection h with h; cases h) | cases h
theorem tkind_4 {t : TypeId} (h : tkind P t = some 4) : ∃ e, P.underlying t = some (.pointer e) := by
  unfold tkind at h; split at h <;> first | exact ⟨_, by assumption⟩ | (injection h with h; cases h) | cases h
theorem tkind_5 {t : TypeId} (h : tkind P t = some 5) : ∃ e, P.underlying t = some (.interface e) := by
  unfold tkind at h; split at h <;> first | exact ⟨_, by assumption⟩ | (injection h with h; cases h) | cases h
theorem tint_inv {t : TypeId} {k : IntKind} (h : tint P t = some k) : P.underlying t = some (.int k) := by
  unfold tint at h; split at h <;> first | (injection h with h; subst h; assumption) | cases h
theorem tagg_false {t : TypeId} (h : tagg P t = some false) : ∃ d, P.underlying t = some d ∧ (∀ fs, d ≠ .struct fs) ∧ ∀ n e, d ≠ .array n e := by
  unfold tagg at h
  split at h
  · cases h
  · cases h
  · rename_i d h1 h2 hd; exact ⟨d, hd, fun fs e => h1 fs e, fun n e' e => h2 n e' e⟩
  · cases h
theorem tagg_true {t : TypeId} (h : tagg P t = some true) : ∃ d, P.underlying t = some d ∧ d.isRow = true := by
  unfold tagg at h
  split at h
  · exact ⟨_, by assumption, rfl⟩
  · exact ⟨_, by assumption, rfl⟩
  · cases h
  · cases h
theorem run_isAgg_false {t : TypeId} (h : tagg P t = some false) (w : World) : (isAgg t).run P w = .ok false w := by
  obtain ⟨d, hd, h1, h2⟩ := tagg_false h
  unfold isAgg
  rw [Sem.run_bind, run_underlying hd w]
  cases d <;> simp_all
theorem run_isAgg_true {t : TypeId} (h : tagg P t = some true) (w : World) : (isAgg t).run P w = .ok true w := by
  obtain ⟨d, hd, h1⟩ := tagg_true h
  unfold isAgg
  rw [Sem.run_bind, run_underlying hd w]
  cases d <;> simp_all
theorem tsize_inv {t : TypeId} {n : Nat} (h : tsize P t = some n) : ∃ i, P.info? t = some i ∧ i.size = n := by
  unfold tsize at h; rw [Option.map_eq_some_iff] at h; exact h
theorem run_sizeOf' {t : TypeId} {n : Nat} (h : tsize P t = some n) (w : World) : (sizeOf t).run P w = .ok n w := by
  obtain ⟨i, hi, hs⟩ := tsize_inv h
  simp [sizeOf, typeInfo, hi, hs]
theorem telem_inv {t e : TypeId} {sz by' : Nat} (h : telem P t = some (e, sz, by')) :
    P.underlying t = some (.slice e) ∧ ∃ i z, P.info? e = some i ∧ i.zero = some z ∧ i.size = sz ∧ i.bytes = by' ∧ z.cells.size = sz ∧ 0 < sz := by
  unfold telem at h
  split at h
  · rename_i e' hu
    split at h
    · rename_i i hi
      split at h
      · rename_i z hz
        split at h
        · rename_i hc
          injection h with h; injection h with h1 h2; injection h2 with h2 h3
          subst h1; subst h2; subst h3
          exact ⟨hu, i, z, hi, hz, rfl, rfl, hc.1, hc.2⟩
        · cases h
      · cases h
    · cases h
  · cases h
theorem foff_inv {t u : TypeId} {i off : Nat} (h : foff P t i = some (off, u)) : ∃ fs f, P.underlying t = some (.struct fs) ∧ fs[i]? = some f ∧ f.offset = off ∧ f.type = u := by
  unfold foff at h
  split at h
  · rename_i fs hu
    rw [Option.map_eq_some_iff] at h
    obtain ⟨f, hf, he⟩ := h
    injection he with h1 h2
    exact ⟨fs, f, hu, hf, h1, h2⟩
  · cases h

theorem size_list (s : ByteArray) : s.size = s.data.toList.length := by rw [Array.length_toList]; rfl

theorem run_aStr {op : BinOp} {x y : ByteArray} {r : AV} (h : aStr op x.data.toList y.data.toList = some r) : ∃ v, CR w G.Fr r v ∧ ∀ t w', (binOp op t (.string x) (.string y)).run P w' = .ok v w' := by
  have e1 : x.toList = x.data.toList := toList_eq x
  have e2 : y.toList = y.data.toList := toList_eq y
  cases op <;> simp only [aStr] at h <;> first
    | (injection h with h; subst h; exact ⟨_, .bool _, fun t w' => by simp [binOp, Op.stringOp, e1, e2]⟩)
    | (split at h
       · rename_i hl
         injection h with h; subst h
         refine ⟨_, .str (x ++ y) _ (by simp), fun t w' => ?_⟩
         have : ¬ ((x.size + y.size : Nat) : Int) > IntKind.i64.max := by
           have e : IntKind.i64.max = 9223372036854775807 := by decide
           rw [size_list x, size_list y, e]
           simp only [maxLen] at hl; omega
         simp only [binOp, Op.stringOp]
         rw [if_neg this]; rfl
       · cases h)
    | cases h

theorem run_equal {t : TypeId} {kd : Nat} (hk : tkind P t = some kd) {lit : Bool} {x y : AV} {v u : Value} (hx : TR w G p x v) (hy : TR w G q y u) {b : Bool} (h : aEq kd lit x y = some b) :
    ∀ w', (Op.equal t v u).run P w' = .ok b w' := by
  intro w'
  unfold aEq at h
  split at h
  · obtain rfl := TR_bool hx; obtain rfl := TR_bool hy; injection h with h; subst h
    (unfold Op.equal Op.maxDepth; rw [Op.equalIn, Sem.run_bind, run_underlying (tkind_0 hk), Result.andThen_ok]; rfl)
  · obtain ⟨_, _, _, rfl, _, h1, _⟩ := TR_slice hx; obtain ⟨_, _, _, rfl, _, h2, _⟩ := TR_slice hy
    obtain ⟨e1, _⟩ := h1 rfl; obtain ⟨e2, _⟩ := h2 rfl; injection e1 with e1 _ _; injection e2 with e2 _ _; subst e1; subst e2
    obtain ⟨e, he⟩ := tkind_3 hk; injection h with h; subst h
    (unfold Op.equal Op.maxDepth; rw [Op.equalIn, Sem.run_bind, run_underlying he, Result.andThen_ok]; rfl)
  · rename_i c _ _ _ hne
    obtain ⟨_, _, _, rfl, _, h1, _⟩ := TR_slice hx; obtain ⟨o2, _, _, rfl, _, _, h2⟩ := TR_slice hy
    obtain ⟨e1, _⟩ := h1 rfl; injection e1 with e1 _ _; subst e1
    have h3 := (h2 (fun e => hne e)).1
    obtain ⟨e, he⟩ := tkind_3 hk; injection h with h; subst h
    cases o2 with
    | none => simp at h3
    | some a2 => (unfold Op.equal Op.maxDepth; rw [Op.equalIn, Sem.run_bind, run_underlying he, Result.andThen_ok]; rfl)
  · rename_i c _ _ _ _ _ _ hne
    obtain ⟨o1, _, _, rfl, _, _, h1⟩ := TR_slice hx; obtain ⟨_, _, _, rfl, _, h2, _⟩ := TR_slice hy
    obtain ⟨e2, _⟩ := h2 rfl; injection e2 with e2 _ _; subst e2
    obtain ⟨e, he⟩ := tkind_3 hk; injection h with h; subst h
    have h3 : c ≠ .nil := fun e => hne e
    have h4 := (h1 h3).1
    cases o1 with
    | none => simp at h4
    | some a2 => (unfold Op.equal Op.maxDepth; rw [Op.equalIn, Sem.run_bind, run_underlying he, Result.andThen_ok]; rfl)
  · obtain rfl := TR_nilptr hx; obtain rfl := TR_nilptr hy; obtain ⟨e, he⟩ := tkind_4 hk; injection h with h; subst h
    (unfold Op.equal Op.maxDepth; rw [Op.equalIn, Sem.run_bind, run_underlying he, Result.andThen_ok]; rfl)
  · obtain rfl := TR_nilptr hx; obtain ⟨b, _, rfl⟩ := TR_ptr hy; obtain ⟨e, he⟩ := tkind_4 hk; injection h with h; subst h
    (unfold Op.equal Op.maxDepth; rw [Op.equalIn, Sem.run_bind, run_underlying he, Result.andThen_ok]; rfl)
  · obtain rfl := TR_nilptr hy; obtain ⟨b, _, rfl⟩ := TR_ptr hx; obtain ⟨e, he⟩ := tkind_4 hk; injection h with h; subst h
    (unfold Op.equal Op.maxDepth; rw [Op.equalIn, Sem.run_bind, run_underlying he, Result.andThen_ok]; rfl)
  · obtain rfl := TR_nilptr hx; obtain ⟨b, rfl, _⟩ := TR_eptr hy; obtain ⟨e, he⟩ := tkind_4 hk; injection h with h; subst h
    (unfold Op.equal Op.maxDepth; rw [Op.equalIn, Sem.run_bind, run_underlying he, Result.andThen_ok]; rfl)
  · obtain rfl := TR_nilptr hy; obtain ⟨b, rfl, _⟩ := TR_eptr hx; obtain ⟨e, he⟩ := tkind_4 hk; injection h with h; subst h
    (unfold Op.equal Op.maxDepth; rw [Op.equalIn, Sem.run_bind, run_underlying he, Result.andThen_ok]; rfl)
  · obtain rfl := TR_nilI hx; obtain ⟨_, rfl, _⟩ := TR_iface hy; obtain ⟨e, he⟩ := tkind_5 hk; injection h with h; subst h
    (unfold Op.equal Op.maxDepth; rw [Op.equalIn, Sem.run_bind, run_underlying he, Result.andThen_ok]; rfl)
  · obtain rfl := TR_nilI hy; obtain ⟨_, rfl, _⟩ := TR_iface hx; obtain ⟨e, he⟩ := tkind_5 hk; injection h with h; subst h
    (unfold Op.equal Op.maxDepth; rw [Op.equalIn, Sem.run_bind, run_underlying he, Result.andThen_ok]; rfl)
  · obtain rfl := TR_nilI hy; obtain rfl := TR_nilI hx; obtain ⟨e, he⟩ := tkind_5 hk
    split at h
    · injection h with h; subst h
      (unfold Op.equal Op.maxDepth; rw [Op.equalIn, Sem.run_bind, run_underlying he, Result.andThen_ok]; rfl)
    · cases h
  · cases h

theorem runs_bin {op : BinOp} {t yt : TypeId} {x y : Operand} (ho : o.op = .binOp op t x y yt) {kd : Nat} (hk : tkind P t = some kd) {vx vy r : AV}
    (hx : TR w G p vx (a.eval x)) (hy : TR w G q vy (a.eval y)) (hr : aBin op kd (isLit x || isLit y) vx vy = some r) : ∃ v, CR w G.Fr r v ∧ ∀ w', Runs P o a w' v w' := by
  have key : ∀ v, (∀ w', (eqGuard op t x y (a.eval x) (a.eval y)).run P w' = .ok () w') → (∀ w', (binOp op t (a.eval x) (a.eval y)).run P w' = .ok v w') → ∀ w', Runs P o a w' v w' := by
    intro v h1 h2 w'
    simp only [Runs, execOp, ho, Sem.run_bind, h1, Result.andThen_ok, h2, Sem.run_pure]
  unfold aBin at hr
  split at hr
  · rename_i k m k' m'
    rw [TR_int hx, TR_int hy] at key
    have hg : ∀ w', (eqGuard op t x y (.int k m) (.int k' m')).run P w' = .ok () w' := by
      intro w'; unfold eqGuard; split <;> rfl
    split at hr
    · obtain ⟨v, h1, h2⟩ := run_aShift (P := P) (w := w) (G := G) (k' := k') hr; exact ⟨v, h1, key v hg (h2 t)⟩
    · obtain ⟨v, h1, h2⟩ := run_aShift (P := P) (w := w) (G := G) (k' := k') hr; exact ⟨v, h1, key v hg (h2 t)⟩
    · rename_i hs1 hs2
      split at hr
      · rename_i hkk; subst hkk
        obtain ⟨v, h1, h2⟩ := run_aInt (P := P) (w := w) (G := G) hr ⟨fun e => hs1 e, fun e => hs2 e⟩; exact ⟨v, h1, key v hg (h2 t)⟩
      · cases hr
  · obtain ⟨s1, e1, rfl⟩ := TR_str hx; obtain ⟨s2, e2, rfl⟩ := TR_str hy
    rw [e1, e2] at key
    have hg : ∀ w', (eqGuard op t x y (.string s1) (.string s2)).run P w' = .ok () w' := by
      intro w'; unfold eqGuard; split <;> rfl
    obtain ⟨v, h1, h2⟩ := run_aStr (P := P) (w := w) (G := G) hr
    exact ⟨v, h1, key v hg (h2 t)⟩
  · have fin : ∀ (b : Bool) (v u : Value), a.eval x = v → a.eval y = u → (∀ w', (Op.equal t v u).run P w' = .ok b w') →
        (∀ op w', (eqGuard op t x y v u).run P w' = .ok () w') →
        (∀ w', (binOp .eql t v u).run P w' = ((Op.equal t v u).run P w').andThen fun b w' => .ok (.bool b) w') →
        (∀ w', (binOp .neq t v u).run P w' = ((Op.equal t v u).run P w').andThen fun b w' => .ok (.bool (!b)) w') →
        (∀ op w', (eqGuard op t x y (a.eval x) (a.eval y)).run P w' = .ok () w') ∧
        (∀ w', (binOp .eql t (a.eval x) (a.eval y)).run P w' = .ok (.bool b) w') ∧ (∀ w', (binOp .neq t (a.eval x) (a.eval y)).run P w' = .ok (.bool (!b)) w') := by
      intro b v u e1 e2 he hg h1 h2
      rw [e1, e2]
      exact ⟨hg, fun w' => by rw [h1, he]; rfl, fun w' => by rw [h2, he]; rfl⟩
    have main : ∀ b, aEq kd (isLit x || isLit y) vx vy = some b →
        (∀ op w', (eqGuard op t x y (a.eval x) (a.eval y)).run P w' = .ok () w') ∧
        (∀ w', (binOp .eql t (a.eval x) (a.eval y)).run P w' = .ok (.bool b) w') ∧ (∀ w', (binOp .neq t (a.eval x) (a.eval y)).run P w' = .ok (.bool (!b)) w') := by
      intro b hb
      have he := run_equal hk hx hy hb
      have hb0 := hb
      unfold aEq at hb
      split at hb
      · have e1 := TR_bool hx; have e2 := TR_bool hy; rw [e1, e2] at he
        exact fin b _ _ e1 e2 he (fun op w' => by cases op <;> rfl) (fun w' => by unfold binOp; simp only [Sem.run_bind, Sem.run_pure]) (fun w' => by unfold binOp; simp only [Sem.run_bind, Sem.run_pure])
      · obtain ⟨_, _, _, e1, _⟩ := TR_slice hx; obtain ⟨_, _, _, e2, _⟩ := TR_slice hy; rw [e1, e2] at he
        exact fin b _ _ e1 e2 he (fun op w' => by cases op <;> rfl) (fun w' => by unfold binOp; simp only [Sem.run_bind, Sem.run_pure]) (fun w' => by unfold binOp; simp only [Sem.run_bind, Sem.run_pure])
      · obtain ⟨_, _, _, e1, _⟩ := TR_slice hx; obtain ⟨_, _, _, e2, _⟩ := TR_slice hy; rw [e1, e2] at he
        exact fin b _ _ e1 e2 he (fun op w' => by cases op <;> rfl) (fun w' => by unfold binOp; simp only [Sem.run_bind, Sem.run_pure]) (fun w' => by unfold binOp; simp only [Sem.run_bind, Sem.run_pure])
      · obtain ⟨_, _, _, e1, _⟩ := TR_slice hx; obtain ⟨_, _, _, e2, _⟩ := TR_slice hy; rw [e1, e2] at he
        exact fin b _ _ e1 e2 he (fun op w' => by cases op <;> rfl) (fun w' => by unfold binOp; simp only [Sem.run_bind, Sem.run_pure]) (fun w' => by unfold binOp; simp only [Sem.run_bind, Sem.run_pure])
      · have e1 := TR_nilptr hx; have e2 := TR_nilptr hy; rw [e1, e2] at he
        exact fin b _ _ e1 e2 he (fun op w' => by cases op <;> rfl) (fun w' => by unfold binOp; simp only [Sem.run_bind, Sem.run_pure]) (fun w' => by unfold binOp; simp only [Sem.run_bind, Sem.run_pure])
      · have e1 := TR_nilptr hx; obtain ⟨_, _, e2⟩ := TR_ptr hy; rw [e1, e2] at he
        exact fin b _ _ e1 e2 he (fun op w' => by cases op <;> rfl) (fun w' => by unfold binOp; simp only [Sem.run_bind, Sem.run_pure]) (fun w' => by unfold binOp; simp only [Sem.run_bind, Sem.run_pure])
      · obtain ⟨_, _, e1⟩ := TR_ptr hx; have e2 := TR_nilptr hy; rw [e1, e2] at he
        exact fin b _ _ e1 e2 he (fun op w' => by cases op <;> rfl) (fun w' => by unfold binOp; simp only [Sem.run_bind, Sem.run_pure]) (fun w' => by unfold binOp; simp only [Sem.run_bind, Sem.run_pure])
      · have e1 := TR_nilptr hx; obtain ⟨_, e2, _⟩ := TR_eptr hy; rw [e1, e2] at he
        exact fin b _ _ e1 e2 he (fun op w' => by cases op <;> rfl) (fun w' => by unfold binOp; simp only [Sem.run_bind, Sem.run_pure]) (fun w' => by unfold binOp; simp only [Sem.run_bind, Sem.run_pure])
      · obtain ⟨_, e1, _⟩ := TR_eptr hx; have e2 := TR_nilptr hy; rw [e1, e2] at he
        exact fin b _ _ e1 e2 he (fun op w' => by cases op <;> rfl) (fun w' => by unfold binOp; simp only [Sem.run_bind, Sem.run_pure]) (fun w' => by unfold binOp; simp only [Sem.run_bind, Sem.run_pure])
      · have e1 := TR_nilI hx; obtain ⟨_, e2, _⟩ := TR_iface hy; rw [e1, e2] at he
        exact fin b _ _ e1 e2 he (fun op w' => by cases op <;> rfl) (fun w' => by unfold binOp; simp only [Sem.run_bind, Sem.run_pure]) (fun w' => by unfold binOp; simp only [Sem.run_bind, Sem.run_pure])
      · obtain ⟨_, e1, _⟩ := TR_iface hx; have e2 := TR_nilI hy; rw [e1, e2] at he
        exact fin b _ _ e1 e2 he (fun op w' => by cases op <;> rfl) (fun w' => by unfold binOp; simp only [Sem.run_bind, Sem.run_pure]) (fun w' => by unfold binOp; simp only [Sem.run_bind, Sem.run_pure])
      · have e1 := TR_nilI hx; have e2 := TR_nilI hy; rw [e1, e2] at he
        split at hb
        · rename_i hl
          refine fin b _ _ e1 e2 he (fun op w' => ?_) (fun w' => by unfold binOp; simp only [Sem.run_bind, Sem.run_pure]) (fun w' => by unfold binOp; simp only [Sem.run_bind, Sem.run_pure])
          cases x <;> cases y <;> first | (cases op <;> rfl) | (simp [isLit] at hl)
        · cases hb
      · cases hb
    split at hr
    · rw [Option.map_eq_some_iff] at hr; obtain ⟨b, hb, rfl⟩ := hr; obtain ⟨h1, h2, _⟩ := main b hb; exact ⟨_, .bool _, key _ (h1 _) h2⟩
    · rw [Option.map_eq_some_iff] at hr; obtain ⟨b, hb, rfl⟩ := hr; obtain ⟨h1, _, h2⟩ := main b hb; exact ⟨_, .bool _, key _ (h1 _) h2⟩
    · cases hr

end Go.Proofs.YticoldgiebmmgaaGreatDoor.Abs

/- The machine's runs of the other pure operations. -/
namespace Go.Proofs.YticoldgiebmmgaaGreatDoor.Abs
set_option linter.all false

variable {P : Program} {w : World} {G : Gh} {p q : Nat → Pos} {a : Act} {o : Oper}

structure Pres (bx : K → Option Obj) (G : Gh) (w w' : World) : Prop where
  cell : ∀ b o v, o < G.Fr b → w.cell? ⟨b, o, none⟩ = some v → w'.cell? ⟨b, o, none⟩ = some v
  box : ∀ s ob t, bx s = some ob → G.at s = some t → w'.heap[t.b]? = w.heap[t.b]?

theorem Pres.refl (bx : K → Option Obj) (G : Gh) (w : World) : Pres bx G w w := ⟨fun _ _ _ _ h => h, fun _ _ _ _ _ => rfl⟩

def CellsAt (bx : K → Option Obj) (G : Gh) (w : World) (ys : List AV) (m sz : Nat) (v : Value) : Prop :=
  ∃ (ad : Addr) (cap : Nat) (vs : Nat → Value), v = .slice (some ad) m cap ∧ 0 < sz ∧ m ≤ cap ∧ ys.length = m * sz ∧ (0 < ys.length → ad.spot = none) ∧
      (∀ j, j < ys.length → ∀ w', Pres bx G w w' → w'.cell? ⟨ad.block, ad.off + j, none⟩ = some (vs j)) ∧ (∀ j, j < ys.length → (vs j).oneCell' = true) ∧ ∀ j (hj : j < ys.length), CR w G.Fr ys[j] (vs j)

theorem hcells_sound {st : St} (hh : HR w G st.h) {i k e sz m : Nat} {v : Value} (hT : TR w G p (.hsl i k e sz m) v) {ys : List AV} (hc : hcells st.h i k (m * sz) = some ys) : CellsAt st.at G w ys m sz v := by
  obtain ⟨cap, ad, th, hat, rfl, hz, hmc, ha⟩ := TR_hsl hT
  have core : ∀ (cs : List AV) (f : Nat → Value), k + m * sz ≤ cs.length → ys = (cs.drop k).take (m * sz) → (∀ j, j < cs.length → ∀ w', Pres st.at G w w' → w'.cell? ⟨th.b, j, none⟩ = some (f j)) → (∀ j, j < cs.length → (f j).oneCell' = true) → (∀ j (hj : j < cs.length), CR w G.Fr cs[j] (f j)) →
      CellsAt st.at G w ys m sz (.slice (some ad) m cap) := by
    intro cs f hle hys h1 h2 h3
    have hlen : ys.length = m * sz := by rw [hys, List.length_take, List.length_drop]; omega
    have hpos : 0 < ys.length → ad = ⟨th.b, k, none⟩ := fun h => (ha (.inr (by rw [hlen] at h; exact Nat.pos_of_mul_pos_right h))).1
    refine ⟨ad, cap, fun j => f (k + j), rfl, hz, hmc, hlen, fun h => by rw [hpos h], fun j hj w' hw' => ?_, fun j hj => h2 _ (by omega), fun j hj => ?_⟩
    · rw [hpos (by omega)]; exact h1 (k + j) (by omega) w' hw'
    · have := h3 (k + j) (by omega)
      subst hys
      simpa using this
  unfold hcells at hc
  have rowcase : ∀ (cs : List AV) (vs : Array Value) (e1 : Nat), w.heap[th.b]? = some (.cells vs e1 (0, 0)) → cs.length ≤ vs.size → k + m * sz ≤ cs.length → ys = (cs.drop k).take (m * sz) → (∃ ob, st.at (.obj i) = some ob) →
      (∀ c (h : c < cs.length) (h' : c < vs.size), (vs[c]).oneCell' = true ∧ CR w G.Fr cs[c] vs[c]) → CellsAt st.at G w ys m sz (.slice (some ad) m cap) := by
    intro cs vs e1 hg hsz hle hys hob hcc
    obtain ⟨ob, hob⟩ := hob
    refine core cs (fun j => vs.getD j undef) hle hys (fun j hj w' hw' => ?_) (fun j hj => ?_) (fun j hj => ?_)
    · have hjv : j < vs.size := by omega
      have := hw'.box _ _ _ hob hat
      simp [World.cell?, this, hg, hjv]
    · have hjv : j < vs.size := by omega
      simpa [hjv] using (hcc j hj hjv).1
    · have hjv : j < vs.size := by omega
      simpa [hjv] using (hcc j hj hjv).2
  split at hc
  · rename_i cs hget
    split at hc
    · rename_i hcond
      injection hc with hc
      obtain ⟨t, k1, k2, k3, k4⟩ := hh.box i _ hget
      rw [hat] at k1; injection k1 with k1; subst k1
      obtain ⟨_, _, vs, k5, k6, k7⟩ := k4
      refine rowcase cs vs th.e k5 (by omega) hcond.1 hc.symm ⟨_, hget⟩ (fun c h1 h2 => ⟨(k7 c h1 h2).1, CR_of_TC (k7 c h1 h2).2 ?_⟩)
      have := List.all_eq_true.1 hcond.2 cs[c] (List.getElem_mem _)
      simpa using this
    · cases hc
  · rename_i e' sz' cs hget
    split at hc
    · rename_i hcond
      injection hc with hc
      obtain ⟨t, k1, k2, k3, k4⟩ := hh.box i _ hget
      rw [hat] at k1; injection k1 with k1; subst k1
      obtain ⟨_, _, _, _, _, j1, _, vs, k5, k6, k7⟩ := k4
      exact rowcase cs vs th.e k5 (by omega) hcond hc.symm ⟨_, hget⟩ k7
    · cases hc
  · rename_i cs hget
    split at hc
    · rename_i hcond
      injection hc with hc
      obtain ⟨t, k1, k2, k3, k4⟩ := hh.box i _ hget
      rw [hat] at k1; injection k1 with k1; subst k1
      have k4' : CR w G.Fr (.eptr cs) (.pointer (some ⟨th.b, 0, none⟩)) := k4
      generalize hv : Value.pointer (some ⟨th.b, 0, none⟩) = v at k4'
      cases k4' with
      | eptr a _ vs hs hp hv' ho hr =>
      injection hv with hv; injection hv with hv; subst hv
      refine core cs vs hcond hc.symm (fun j hj w' hw' => ?_) ho hr
      have := hw'.cell _ _ _ (hp j hj) (hv' j hj)
      simpa using this
    · cases hc
  · cases hc

theorem idx_inv {x : AV} {n : Int} {v : Value} (h : TR w G p x v) (hx : aIdx x = some n) : ∃ k, v = .int k n := by
  cases x <;> simp [aIdx] at hx
  subst hx; exact ⟨_, TR_int h⟩

theorem runs_convInt {s d : TypeId} {x : Operand} (ho : o.op = .convert s d x) {k : IntKind} (hk : tint P d = some k) (hs : tkind P s = some 1) {vx r : AV}
    (hx : TR w G p vx (a.eval x)) (hr : cvInt k vx = some r) : ∃ v, CR w G.Fr r v ∧ ∀ w', Runs P o a w' v w' := by
  simp only [cvInt, Option.map_eq_some_iff] at hr
  obtain ⟨n, hn, rfl⟩ := hr
  obtain ⟨k', he⟩ := idx_inv hx hn
  refine ⟨_, .int _ _, fun w' => ?_⟩
  have h2 : ∃ d', P.underlying s = some d' := by
    cases hu : P.underlying s with
    | none => simp [tkind, hu] at hs
    | some d' => exact ⟨d', rfl⟩
  obtain ⟨d', hd'⟩ := h2
  simp [Runs, execOp, ho, he, convert, run_underlying hd', run_underlying (tint_inv hk), Conv.intToInt]

theorem runs_convSS {s d : TypeId} {x : Operand} (ho : o.op = .convert s d x) (hs : tkind P s = some 2) (hd : tkind P d = some 2) {vx r : AV}
    (hx : TR w G p vx (a.eval x)) (hr : cvSS vx = some r) : ∃ v, CR w G.Fr r v ∧ ∀ w', Runs P o a w' v w' := by
  cases vx <;> simp [cvSS] at hr
  subst hr
  obtain ⟨s', he, hl⟩ := TR_str hx
  refine ⟨_, .str s' _ hl, fun w' => ?_⟩
  simp [Runs, execOp, ho, he, convert, run_underlying (tkind_2 hs), run_underlying (tkind_2 hd)]

theorem runs_iface {t : TypeId} {x : Operand} (ho : o.op = .makeInterface t x) {kd : Nat} (hk : tkind P t = some kd) (h5 : kd ≠ 5) {v : Value} (hx : a.eval x = v) :
    ∀ w', Runs P o a w' (.iface t v) w' := by
  intro w'
  have : ∃ d', P.underlying t = some d' ∧ ∀ ms, d' ≠ .interface ms := by
    cases hu : P.underlying t with
    | none => simp [tkind, hu] at hk
    | some d' => exact ⟨d', rfl, fun ms e => by subst e; simp [tkind, hu] at hk; exact h5 hk.symm⟩
  obtain ⟨d', hd', hne⟩ := this
  have : (Instr.makeInterface t v).run P w' = .ok (.iface t v) w' := by
    unfold Instr.makeInterface
    rw [Sem.run_bind, run_underlying hd', Result.andThen_ok]
    cases d' <;> first | rfl | exact absurd rfl (hne _)
  simp [Runs, execOp, ho, hx, this]

theorem runs_fieldAddr {t : TypeId} {x : Operand} {i : Nat} (ho : o.op = .fieldAddr t x i) {off n : Nat} {u : TypeId} (hf : foff P t i = some (off, u)) (hn : tsize P u = some n) (h0 : n ≠ 0) {ad : Addr}
    (hx : a.eval x = .pointer (some ad)) : ∀ w', Runs P o a w' (.pointer (some (ad.add off))) w' := by
  intro w'
  obtain ⟨fs, f, hu, hfi, rfl, rfl⟩ := foff_inv hf
  simp [Runs, execOp, ho, hx, Instr.fieldAt, run_underlying hu, hfi, Instr.sureAddr, fieldPlace, run_sizeOf' hn, h0]

theorem runs_field {t : TypeId} {x : Operand} {i : Nat} (ho : o.op = .field t x i) {off n : Nat} {u : TypeId} {ag : Bool} (hf : foff P t i = some (off, u)) (ha : tagg P u = some ag) (hn : tsize P u = some n) {vx r : AV}
    (hx : TR w G p vx (a.eval x)) (hr : aPart ag n off vx = some r) : ∃ v, CR w G.Fr r v ∧ ∀ w', Runs P o a w' v w' := by
  obtain ⟨fs, f, hu, hfi, rfl, rfl⟩ := foff_inv hf
  unfold aPart at hr
  split at hr
  · rename_i xs
    obtain ⟨vs, he, hc⟩ := TR_agg hx
    cases hc with
    | agg _ _ hl hone hr' =>
    cases ag with
    | true =>
      simp only [if_true] at hr
      split at hr
      · rename_i hle
        injection hr with hr; subst hr
        refine ⟨.agg (vs.extract f.offset (f.offset + n)), ?_, fun w' => ?_⟩
        · refine .agg _ _ (by simp; omega) (fun i h => ?_) (fun i h h' => ?_)
          · simp at h ⊢; exact hone _ (by omega)
          · simp at h h' ⊢; exact hr' _ (by omega) (by omega)
        · simp [Runs, execOp, ho, he, Instr.field, run_underlying hu, hfi, asAgg, part, run_isAgg_true ha, run_sizeOf' hn]
      · cases hr
    | false =>
      simp only [Bool.false_eq_true, if_false] at hr
      have hlt : f.offset < xs.length := (List.getElem?_eq_some_iff.1 hr).1
      have hxe : xs[f.offset] = r := (List.getElem?_eq_some_iff.1 hr).2
      have hlt' : f.offset < vs.size := by omega
      refine ⟨vs[f.offset], by rw [← hxe]; exact hr' _ hlt hlt', fun w' => ?_⟩
      simp [Runs, execOp, ho, he, Instr.field, run_underlying hu, hfi, asAgg, part, run_isAgg_false ha, hlt']
  · cases hr

theorem runs_extract {t : Nat} {i : Nat} (ho : o.op = .extract (.tmp t) i) {vs : Array Value} (hx : a.eval (.tmp t) = .tuple vs) {v : Value} (hv : vs[i]? = some v) : ∀ w', Runs P o a w' v w' := by
  intro w'
  simp [Runs, execOp, ho, hx, Instr.extract, hv]

theorem arr1 {α : Type} {l : Array α} {x : α} (h : l.toList = [x]) : l = #[x] := by rw [← Array.toArray_toList (xs := l), h]
theorem arr2 {α : Type} {l : Array α} {x y : α} (h : l.toList = [x, y]) : l = #[x, y] := by rw [← Array.toArray_toList (xs := l), h]

theorem runs_len {args : Array Operand} {ats : Array TypeId} {x : Operand} {t : TypeId} {s : Bool} (ho : o.op = .call ⟨.builtin .len, args, ats⟩) (h1 : args.toList = [x]) (h2 : ats.toList = [t])
    (hk : tkind P t = some (if s then 2 else 3)) {vx r : AV} (hx : TR w G p vx (a.eval x)) (hr : aLen s vx = some r) : ∃ v, CR w G.Fr r v ∧ ∀ w', Runs P o a w' v w' := by
  obtain rfl := arr1 h1
  obtain rfl := arr1 h2
  unfold aLen at hr
  split at hr
  · injection hr with hr; subst hr
    obtain ⟨s', he, hl⟩ := TR_str hx
    refine ⟨_, .int _ _, fun w' => ?_⟩
    have hu := tkind_2 (by simpa using hk)
    have hsz : (s'.size : Int) = (List.length s'.data.toList : Int) := by rw [size_list]
    rw [← hl, ← hsz]
    simp [Runs, execOp, ho, resolve, invoke, builtin, Builtin.len_, he, run_underlying hu, goInt]
  · injection hr with hr; subst hr
    obtain ⟨oo, m, cap, he, hm, _⟩ := TR_slice hx
    obtain ⟨e, hu⟩ := tkind_3 (by simpa using hk)
    refine ⟨_, .int _ _, fun w' => ?_⟩
    rw [← hm]
    simp [Runs, execOp, ho, resolve, invoke, builtin, Builtin.len_, he, run_underlying hu, goInt]
  · injection hr with hr; subst hr
    obtain ⟨cap, ad, th, _, he, _⟩ := TR_hsl hx
    obtain ⟨e, hu⟩ := tkind_3 (by simpa using hk)
    refine ⟨_, .int _ _, fun w' => ?_⟩
    simp [Runs, execOp, ho, resolve, invoke, builtin, Builtin.len_, he, run_underlying hu, goInt]
  · cases hr

theorem runs_indexStr {t : TypeId} {x i : Operand} (ho : o.op = .index t x i) (hk : tkind P t = some 2) {vx vi r : AV} (hx : TR w G p vx (a.eval x)) (hi : TR w G q vi (a.eval i))
    (hr : ixStr vx vi = some r) : ∃ v, CR w G.Fr r v ∧ ∀ w', Runs P o a w' v w' := by
  unfold ixStr at hr
  split at hr
  · rename_i s k n
    split at hr
    · rename_i h0
      rw [Option.map_eq_some_iff] at hr
      obtain ⟨b, hb, rfl⟩ := hr
      obtain ⟨s', he, rfl⟩ := TR_str hx
      refine ⟨_, .int _ _, fun w' => ?_⟩
      have hlt : n.toNat < s'.data.toList.length := (List.getElem?_eq_some_iff.1 hb).1
      have hlt' : n.toNat < s'.size := by rw [size_list]; exact hlt
      have hb' : s'[n.toNat] = b := by
        have := (List.getElem?_eq_some_iff.1 hb).2
        rw [← this]; rfl
      simp [Runs, execOp, ho, he, TR_int hi, Instr.index, asIntOf, run_underlying (tkind_2 hk), h0, getElem?_pos, hlt', hb']
    · cases hr
  · cases hr

theorem run_bound {c : BoundsCode} {y : Nat} {k : IntKind} {n : Int} (h0 : 0 ≤ n) (h1 : n ≤ y) (w : World) : (Instr.sliceBound (.int k n) y c).run P w = .ok n.toNat w := by
  unfold Instr.sliceBound
  simp [asIntOf, h0, h1]

def BoundIs (a : Act) (x : Option Operand) (d : Option Int) (v : Int) : Prop :=
  match x with
  | none => d = some v
  | some x => ∃ k, a.eval x = .int k v

theorem run_bounds {isS : Bool} {len cap : Nat} {lo hi : Option Operand} {l h : Int}
    (hl : BoundIs a lo (some 0) l) (hh : BoundIs a hi (some (len : Int)) h)
    (h0 : 0 ≤ l) (h1 : l ≤ h) (h2 : h ≤ len) (h3 : len ≤ cap) (w : World) :
    (Instr.sliceBounds isS len cap (lo.map a.eval) (hi.map a.eval) none).run P w = .ok (l.toNat, h.toNat, cap) w := by
  unfold Instr.sliceBounds
  cases lo with
  | none =>
    simp only [BoundIs, Option.some.injEq] at hl; subst hl
    cases hi with
    | none => simp only [BoundIs, Option.some.injEq] at hh; subst hh; simp
    | some y => obtain ⟨k, hy⟩ := hh; simp [hy, run_bound (P := P) (c := if isS then .sliceAcap else .sliceAlen) (y := cap) (k := k) (n := h) (by omega) (by omega)]
  | some x =>
    obtain ⟨k, hx⟩ := hl
    cases hi with
    | none => simp only [BoundIs, Option.some.injEq] at hh; subst hh; simp [hx, run_bound (P := P) (c := .sliceB) (y := len) (k := k) (n := l) (by omega) (by omega)]
    | some y => obtain ⟨k', hy⟩ := hh; simp [hx, hy, run_bound (P := P) (c := if isS then .sliceAcap else .sliceAlen) (y := cap) (k := k') (n := h) (by omega) (by omega), run_bound (P := P) (c := .sliceB) (y := h.toNat) (k := k) (n := l) (by omega) (by omega)]

theorem run_bounds' {len cap : Nat} {lo hi : Option Operand} {l h : Int}
    (hl : BoundIs a lo (some 0) l) (hh : BoundIs a hi (some (len : Int)) h)
    (h0 : 0 ≤ l) (h1 : l ≤ h) (h2 : h ≤ cap) (h3 : len ≤ cap) (w : World) :
    (Instr.sliceBounds true len cap (lo.map a.eval) (hi.map a.eval) none).run P w = .ok (l.toNat, h.toNat, cap) w := by
  unfold Instr.sliceBounds
  cases lo with
  | none =>
    simp only [BoundIs, Option.some.injEq] at hl; subst hl
    cases hi with
    | none => simp only [BoundIs, Option.some.injEq] at hh; subst hh; simp
    | some y => obtain ⟨k, hy⟩ := hh; simp [hy, run_bound (P := P) (c := .sliceAcap) (y := cap) (k := k) (n := h) (by omega) (by omega)]
  | some x =>
    obtain ⟨k, hx⟩ := hl
    cases hi with
    | none => simp only [BoundIs, Option.some.injEq] at hh; subst hh; simp [hx, run_bound (P := P) (c := .sliceB) (y := len) (k := k) (n := l) (by omega) (by omega)]
    | some y => obtain ⟨k', hy⟩ := hh; simp [hx, hy, run_bound (P := P) (c := .sliceAcap) (y := cap) (k := k') (n := h) (by omega) (by omega), run_bound (P := P) (c := .sliceB) (y := h.toNat) (k := k) (n := l) (by omega) (by omega)]

theorem bound_inv {w0 : World} {F0 : FT} {A : Nat → Prop} {n : Nat} {st : St} (h : SR w0 F0 A n st a w G) {x : Option Operand} {ax : Option AX} (hx : pOpt x = some ax) {d : Option Int} {v : Int}
    (hv : bound st ax d = some v) : BoundIs a x d v := by
  cases x with
  | none => simp [pOpt] at hx; subst hx; exact hv
  | some x =>
    simp only [pOpt, Option.map_eq_some_iff] at hx
    obtain ⟨y, hy, rfl⟩ := hx
    obtain ⟨p, hp⟩ := h.peekX hy
    exact idx_inv hp hv

theorem runs_sliceStr {t : TypeId} {x : Operand} {lo hi : Option Operand} (ho : o.op = .slice t x lo hi none) (hk : tkind P t = some 2) {vx r : AV} {l h : Option Int} (hx : TR w G p vx (a.eval x))
    (hl : ∀ v, l = some v → BoundIs a lo (some 0) v) (hh : ∀ v, h = some v → BoundIs a hi (lenV vx) v)
    (hr : slStr vx l h = some r) : ∃ v, CR w G.Fr r v ∧ ∀ w', Runs P o a w' v w' := by
  unfold slStr at hr
  split at hr
  · rename_i s l' h' 
    split at hr
    · rename_i hb
      injection hr with hr; subst hr
      obtain ⟨s', he, rfl⟩ := TR_str hx
      have hlen : (s'.data.toList.length : Int) = s'.size := by rw [size_list]
      have hb1 := hb.1; have hb2 := hb.2.1; have hb3 := hb.2.2
      have hh' := hh _ rfl
      simp only [lenV, hlen] at hh'
      refine ⟨.string (s'.extract l'.toNat h'.toNat), .str _ _ ?_, fun w' => ?_⟩
      · rw [ByteArray.data_extract, Array.toList_extract, List.extract_eq_take_drop]
      · have := run_bounds (P := P) (a := a) (isS := false) (len := s'.size) (cap := s'.size) (hl _ rfl) hh' hb1 hb2 (by omega) (Nat.le_refl _) w'
        simp [Runs, execOp, ho, he, Instr.sliceAt, Instr.slice, run_underlying (tkind_2 hk), this]
    · cases hr
  · cases hr

theorem add_off (ad : Addr) (hs : ad.spot = none) (k : Nat) : ad.add k = ⟨ad.block, ad.off + k, none⟩ := by
  cases ad with
  | mk b o s => simp at hs; subst hs; unfold Addr.add; split <;> simp_all

theorem CR_frz_nil {F : FT} {e sz n cap : Nat} {ad : Addr} {xs : List AV} (h0 : xs = []) (hz : 0 < sz) (hl : xs.length = n * sz) (hc : n ≤ cap) : CR w F (.slice .frz e sz xs) (.slice (some ad) n cap) := by
  subst h0
  exact .frz e sz n cap ad [] (fun _ => undef) (fun h => absurd h (by simp)) hz hl hc (fun i hi => absurd hi (by simp)) (fun i hi => absurd hi (by simp)) (fun i hi => absurd hi (by simp)) (fun i hi => absurd hi (by simp))

theorem runs_sliceSl {t e : TypeId} {sz by' : Nat} {x : Operand} {lo hi : Option Operand} (ho : o.op = .slice t x lo hi none) (ht : telem P t = some (e, sz, by')) {vx r : AV} {l h : Option Int} (hx : TR w G p vx (a.eval x))
    (hown : vx.isOwn = false) (hl : ∀ v, l = some v → BoundIs a lo (some 0) v) (hh : ∀ v, h = some v → BoundIs a hi (lenV vx) v)
    {hp : H} (hroom : ∀ i to, roomTo hp i to = true → ∃ t, G.Fr.θ i = some t ∧ t.r = true ∧ to ≤ t.N) (hr : slSl hp sz vx l h = some r) : ∃ v, CR w G.Fr r v ∧ ∀ w', Runs P o a w' v w' := by
  obtain ⟨hu, i, z, hi', hz, hisz, _, _, hpos⟩ := telem_inv ht
  have hsize : tsize P e = some sz := by simp [tsize, hi', hisz]
  unfold slSl at hr
  split at hr
  · rename_i c e' sz' xs l' h'
    split at hr
    · rename_i hb
      injection hr with hr; subst hr
      obtain ⟨hb1, hb2, hb3, hb4⟩ := hb
      have hc := CR_of_TC (TC_of_TR hx rfl) hown
      have hl' := hl _ rfl
      have hh' := hh _ rfl
      simp only [lenV] at hh'
      generalize hv : a.eval x = v at hc
      cases hc with
      | nil =>
        simp only [List.length_nil, Nat.zero_div] at hb3 hh'
        have e1 : h' = 0 := by omega
        have e2 : l' = 0 := by omega
        subst e1; subst e2
        refine ⟨.slice none 0 0, by simpa using CR.nil _ _, fun w' => ?_⟩
        have := run_bounds (P := P) (a := a) (isS := true) (len := 0) (cap := 0) hl' hh' (by omega) (by omega) (by omega) (Nat.le_refl _) w'
        simp [Runs, execOp, ho, hv, Instr.sliceAt, Instr.slice, run_underlying hu, this, run_sizeOf' hsize]
      | frz _ _ n cap ad _ vs hs hz' hlen hc' hp hcell hone hcr =>
        have hn : xs.length / sz' = n := by rw [hlen, Nat.mul_div_cancel _ hz']
        rw [hn] at hb3 hh'
        have hsz : sz' = sz := by rcases hb4 with h | h; { cases h }; { exact h }
        subst hsz
        have hrun := run_bounds (P := P) (a := a) (isS := true) (len := n) (cap := cap) hl' hh' hb1 hb2 hb3 hc'
        have hmul : (h'.toNat - l'.toNat) * sz' = h'.toNat * sz' - l'.toNat * sz' := Nat.sub_mul _ _ _
        have hle : h'.toNat * sz' ≤ n * sz' := Nat.mul_le_mul_right _ (by omega)
        have hle2 : l'.toNat * sz' ≤ h'.toNat * sz' := Nat.mul_le_mul_right _ (by omega)
        refine ⟨.slice (some (if cap = l'.toNat then ad else ad.add (l'.toNat * sz'))) (h'.toNat - l'.toNat) (cap - l'.toNat), ?_, fun w' => ?_⟩
        · have hlen2 : ((xs.drop (l'.toNat * sz')).take ((h'.toNat - l'.toNat) * sz')).length = (h'.toNat - l'.toNat) * sz' := by
            rw [List.length_take, List.length_drop, hlen]; omega
          by_cases hcl : (h'.toNat - l'.toNat) * sz' = 0
          · exact CR_frz_nil (List.eq_nil_of_length_eq_zero (by rw [hlen2]; exact hcl)) hz' hlen2 (by omega)
          · have hcap : ¬ cap = l'.toNat := fun e => hcl (by rw [show h'.toNat - l'.toNat = 0 by omega]; simp)
            have hs := hs (by omega)
            rw [if_neg hcap, add_off ad hs]
            refine .frz _ _ _ _ ⟨ad.block, ad.off + l'.toNat * sz', none⟩ _ (fun i => vs (l'.toNat * sz' + i)) (fun _ => rfl) hz' hlen2 (by omega) (fun i hi => by rw [hlen2] at hi; have := hp (l'.toNat * sz' + i) (by omega); simp only; omega) (fun i hi => ?_) (fun i hi => ?_) (fun i hi => ?_)
            · rw [hlen2] at hi
              have := hcell (l'.toNat * sz' + i) (by omega)
              rw [← Nat.add_assoc] at this; exact this
            · rw [hlen2] at hi; exact hone _ (by omega)
            · have hi2 := hi; rw [hlen2] at hi2
              have := hcr (l'.toNat * sz' + i) (by omega)
              simpa using this
        · simp [Runs, execOp, ho, hv, Instr.sliceAt, Instr.slice, run_underlying hu, hrun, run_sizeOf' hsize]
          split <;> rfl
      | hdr _ _ n cap ad _ hz' hlen hc' =>
        have hn : xs.length / sz' = n := by rw [hlen, Nat.mul_div_cancel _ hz']
        rw [hn] at hb3 hh'
        have hsz : sz' = sz := by rcases hb4 with h | h; { cases h }; { exact h }
        subst hsz
        have hrun := run_bounds (P := P) (a := a) (isS := true) (len := n) (cap := cap) hl' hh' hb1 hb2 hb3 hc'
        have hmul : (h'.toNat - l'.toNat) * sz' = h'.toNat * sz' - l'.toNat * sz' := Nat.sub_mul _ _ _
        have hle : h'.toNat * sz' ≤ n * sz' := Nat.mul_le_mul_right _ (by omega)
        have hle2 : l'.toNat * sz' ≤ h'.toNat * sz' := Nat.mul_le_mul_right _ (by omega)
        have hlen2 : ((xs.drop (l'.toNat * sz')).take ((h'.toNat - l'.toNat) * sz')).length = (h'.toNat - l'.toNat) * sz' := by
          rw [List.length_take, List.length_drop, hlen]; omega
        refine ⟨.slice (some (if cap = l'.toNat then ad else ad.add (l'.toNat * sz'))) (h'.toNat - l'.toNat) (cap - l'.toNat), .hdr _ _ _ _ _ _ hz' hlen2 (by omega), fun w' => ?_⟩
        simp [Runs, execOp, ho, hv, Instr.sliceAt, Instr.slice, run_underlying hu, hrun, run_sizeOf' hsize]
        split <;> rfl
    · cases hr
  · rename_i i' k' e' sz' n' l' h'
    split at hr
    · rename_i hb
      injection hr with hr; subst hr
      obtain ⟨hb1, hb2, hb30, rfl⟩ := hb
      obtain ⟨cap, ad, th, hat, hv, hz', hmc, ha⟩ := TR_hsl hx
      have hl' := hl _ rfl
      have hh' := hh _ rfl
      simp only [lenV] at hh'
      have hb3 : h' ≤ (cap : Int) := by
        rcases hb30 with hb3 | ⟨hk0, hrm⟩
        · omega
        · obtain ⟨t2, g1, g2, g3⟩ := hroom _ _ hrm
          have hat' : G.Fr.θ i' = some th := hat
          rw [hat'] at g1; injection g1 with g1; subst g1
          have hN := (ha hk0).2 g2
          rw [← hN] at g3
          have : h'.toNat * sz' ≤ cap * sz' := by omega
          have := Nat.le_of_mul_le_mul_right this hz'
          omega
      have hk1 : l'.toNat = 0 → 0 < h'.toNat - l'.toNat → k' = 0 ∨ 0 < n' := fun e1 e2 => by
        rcases hb30 with hb3 | ⟨hk0, _⟩
        · right; omega
        · exact hk0
      have hk2 : 0 < h'.toNat → 0 < n' ∨ k' = 0 := fun e2 => by
        rcases hb30 with hb3 | ⟨hk0, _⟩
        · left; omega
        · exact hk0.symm
      have hrun := run_bounds' (P := P) (a := a) (len := n') (cap := cap) hl' hh' hb1 hb2 hb3 hmc
      refine ⟨.slice (some (if cap = l'.toNat then ad else ad.add (l'.toNat * sz'))) (h'.toNat - l'.toNat) (cap - l'.toNat), ?_, fun w' => ?_⟩
      · refine .hsl _ _ _ _ _ _ _ th hat hz' (by omega) (fun hh2 => ?_)
        by_cases hl0 : l'.toNat = 0
        · rw [hl0] at hh2 ⊢
          simp only [Nat.zero_mul, Nat.add_zero, Nat.sub_zero] at hh2 ⊢
          have e1 : (if cap = 0 then ad else ad.add 0) = ad := by split <;> simp [Addr.add]
          rw [e1]
          rcases hh2 with h | h
          · exact ha (.inl h)
          · exact ha ((hk1 hl0 (by omega)))
        · have hpos : 0 < h'.toNat - l'.toNat := by
            rcases hh2 with h | h
            · have : 0 < l'.toNat * sz' := Nat.mul_pos (by omega) hz'
              omega
            · exact h
          obtain ⟨rfl, hN⟩ := ha ((hk2 (by omega)).symm)
          have hcl : ¬ cap = l'.toNat := by omega
          rw [if_neg hcl, add_off _ rfl]
          refine ⟨rfl, fun hr => ?_⟩
          have := hN hr
          rw [← this, Nat.sub_mul]
          have : l'.toNat * sz' ≤ cap * sz' := Nat.mul_le_mul_right _ (by omega)
          omega
      · simp [Runs, execOp, ho, hv, Instr.sliceAt, Instr.slice, run_underlying hu, hrun, run_sizeOf' hsize]
        split <;> rfl
    · cases hr
  · cases hr

theorem runs_indexAddr {t e : TypeId} {sz by' : Nat} {x i : Operand} (ho : o.op = .indexAddr t x i) (ht : telem P t = some (e, sz, by')) {vx vi r : AV} (hx : TR w G p vx (a.eval x)) (hi : TR w G q vi (a.eval i))
    (hr : ixV sz vx vi = some r) : ∃ v, CR w G.Fr r v ∧ ∀ w', Runs P o a w' v w' := by
  obtain ⟨hu, ii, z, hi', hz, hisz, _, _, hpos⟩ := telem_inv ht
  have hsize : tsize P e = some sz := by simp [tsize, hi', hisz]
  unfold ixV at hr
  split at hr
  · rename_i c e' sz' xs k n
    split at hr
    · rename_i hb
      obtain ⟨rfl, rfl, h0, hn⟩ := hb
      injection hr with hr; subst hr
      have hc := CR_of_TC (TC_of_TR hx rfl) rfl
      generalize hv : a.eval x = v at hc
      cases hc with
      | frz _ _ m cap ad _ vs hs hz' hlen hc' hp hcell hone hcr =>
        have hm : xs.length / sz' = m := by rw [hlen, Nat.mul_div_cancel _ hz']
        rw [hm] at hn
        have hle : n.toNat * sz' + sz' ≤ m * sz' := by rw [← Nat.succ_mul]; exact Nat.mul_le_mul_right _ (by omega)
        have hs := hs (by omega)
        refine ⟨.pointer (some (ad.add (n.toNat * sz'))), ?_, fun w' => ?_⟩
        · rw [add_off ad hs]
          refine .eptr ⟨ad.block, ad.off + n.toNat * sz', none⟩ _ (fun i => vs (n.toNat * sz' + i)) rfl (fun i hi => ?_) (fun i hi => ?_) (fun i hi => ?_) (fun i hi => ?_)
          · simp only [List.length_drop] at hi; have := hp (n.toNat * sz' + i) (by omega); simp only; omega
          · have := hcell (n.toNat * sz' + i) (by simp at hi; omega)
            rw [← Nat.add_assoc] at this; exact this
          · exact hone _ (by simp at hi; omega)
          · have := hcr (n.toNat * sz' + i) (by simp at hi; omega)
            simpa using this
        · simp [Runs, execOp, ho, hv, TR_int hi, Instr.indexAt, asIntOf, run_underlying hu, h0, hn, run_sizeOf' hsize]
    · cases hr
  · rename_i i' k' e' sz' m k n
    split at hr
    · rename_i hb
      obtain ⟨rfl, h0, hn⟩ := hb
      injection hr with hr; subst hr
      obtain ⟨cap, ad, th, hat, hv, hz', hmc, ha⟩ := TR_hsl hx
      obtain ⟨rfl, _⟩ := ha (.inr (by omega))
      refine ⟨.pointer (some ((⟨th.b, k', none⟩ : Addr).add (n.toNat * sz'))), ?_, fun w' => ?_⟩
      · rw [add_off _ rfl]; exact .ref _ _ th hat
      · simp [Runs, execOp, ho, hv, TR_int hi, Instr.indexAt, asIntOf, run_underlying hu, h0, hn, run_sizeOf' hsize]
    · cases hr
  · cases hr

theorem bytesOf_int : ∀ {xs : List AV} {l : List UInt8}, bytesOf xs = some l → ∃ ns : List Int, xs = ns.map (AV.int .u8) ∧ l = ns.map (fun n => UInt8.ofNat n.toNat)
  | [], l, h => by simp [bytesOf] at h; subst h; exact ⟨[], rfl, rfl⟩
  | x :: xs, l, h => by
    unfold bytesOf at h
    split at h
    · cases ‹_ :: _ = _›
    · rename_i n r heq
      injection heq with h1 h2
      subst h1; subst h2
      rw [Option.map_eq_some_iff] at h
      obtain ⟨l', hl', rfl⟩ := h
      obtain ⟨ns, h1, h2⟩ := bytesOf_int hl'
      exact ⟨n :: ns, by simp [h1], by simp [h2]⟩
    · cases h

theorem foldl_push (ns : List Int) : ∀ (s : ByteArray), (ns.foldl (fun r n => r.push (UInt8.ofNat n.toNat)) s).data.toList = s.data.toList ++ ns.map (fun n => UInt8.ofNat n.toNat) := by
  induction ns with
  | nil => intro s; simp
  | cons n ns ih => intro s; rw [List.foldl_cons, ih]; simp [ByteArray.push]

theorem runs_convBS {s d e : TypeId} {by' : Nat} {x : Operand} (ho : o.op = .convert s d x) (hs : telem P s = some (e, 1, by')) (he : tint P e = some .u8) (hd : tkind P d = some 2) {vx r : AV}
    (hx : TR w G p vx (a.eval x)) (hown : vx.isOwn = false) {st : St} (hh : HR w G st.h) (hr : cvBS st.h vx = some r) : ∃ v, CR w G.Fr r v ∧ ∀ w', Pres st.at G w w' → Runs P o a w' v w' := by
  obtain ⟨hu, _⟩ := telem_inv hs
  unfold cvBS at hr
  split at hr
  · rename_i c e' xs
    split at hr
    · cases hr
    · rename_i hc
      rw [Option.map_eq_some_iff] at hr
      obtain ⟨l, hl, rfl⟩ := hr
      obtain ⟨ns, rfl, rfl⟩ := bytesOf_int hl
      have hC := CR_of_TC (TC_of_TR hx rfl) hown
      obtain ⟨oo, n, cap, hv, hn, _⟩ := TR_slice hx
      rw [hv] at hC
      have hrun : ∀ v w', (Conv.bytesToString (.slice oo n cap)).run P w' = .ok v w' → Runs P o a w' v w' := by
        intro v w' h
        have h2 := run_convert_bytes_string (P := P) w' s d e oo n cap hu (tint_inv he) (tkind_2 hd)
        simp only [Runs, execOp, ho, hv, Sem.run_bind, h2, h, Result.andThen_ok, Sem.run_pure]
      cases c with
      | nil =>
        have hns : ns = [] := by
          generalize hys : ns.map (AV.int .u8) = ys at hC
          cases hC; simpa using hys
        subst hns
        generalize hys : ([] : List Int).map (AV.int .u8) = ys at hC
        cases hC
        exact ⟨.string .empty, .str _ _ rfl, fun w' _ => hrun _ w' rfl⟩
      | own f => simp [AV.isOwn] at hown
      | hdr => exact absurd rfl hc
      | frz =>
        generalize hys : ns.map (AV.int .u8) = ys at hC
        cases hC with
        | frz _ _ _ _ ad _ vs hsp hz hlen hcap hp hcell hone hcr =>
        subst hys
        have hlen' : ns.length = n := by simpa using hlen
        refine ⟨.string (ns.foldl (fun r n => r.push (UInt8.ofNat n.toNat)) .empty), .str _ _ (by rw [foldl_push]; simp), fun w' hw' => ?_⟩
        have hload : (loadCells ad n).run P w' = .ok (ns.map (Value.int .u8)).toArray w' := by
          have := run_loadCells_list (P := P) w' ad (ns.map (Value.int .u8)) (fun j v hj => by
            have hj' : j < ns.length := by simpa using (List.getElem?_eq_some_iff.1 hj).1
            have h1 := hw'.cell _ _ _ (hp j (by simpa using hj')) (hcell j (by simpa using hj'))
            have h2 := hcr j (by simpa using hj')
            rw [add_off ad (hsp (by simp; omega)), h1]
            have h3 : (ns.map (AV.int .u8))[j]'(by simpa using hj') = .int .u8 ns[j] := by simp
            rw [h3] at h2
            have h4 : vs j = .int .u8 ns[j] := TR_int (p := p) (TR_of_CR h2)
            rw [h4, ← hj]; simp [List.getElem?_eq_getElem hj'])
          rw [List.length_map, hlen'] at this
          exact this
        exact hrun _ w' (run_bytesToString w' ad n cap ns hload)
  · rename_i i' k' e' n'
    simp only [Option.bind_eq_some_iff, Option.map_eq_some_iff] at hr
    obtain ⟨xs, hxs, l, hl, rfl⟩ := hr
    obtain ⟨ns, rfl, rfl⟩ := bytesOf_int hl
    obtain ⟨ad, cap, vs, hv, _, _, hlen, hsp, hcell, _, hcr⟩ := hcells_sound hh hx (by rw [Nat.mul_one]; exact hxs)
    have hlen' : ns.length = n' := by simpa using hlen
    refine ⟨.string (ns.foldl (fun r n => r.push (UInt8.ofNat n.toNat)) .empty), .str _ _ (by rw [foldl_push]; simp), fun w' hw' => ?_⟩
    have hload : (loadCells ad n').run P w' = .ok (ns.map (Value.int .u8)).toArray w' := by
      have := run_loadCells_list (P := P) w' ad (ns.map (Value.int .u8)) (fun j v hj => by
        have hj' : j < ns.length := by simpa using (List.getElem?_eq_some_iff.1 hj).1
        have h1 := hcell j (by simpa using hj') w' hw'
        have h2 := hcr j (by simpa using hj')
        rw [add_off ad (hsp (by simp; omega)), h1]
        have h3 : (ns.map (AV.int .u8))[j]'(by simpa using hj') = .int .u8 ns[j] := by simp
        rw [h3] at h2
        have h4 : vs j = .int .u8 ns[j] := TR_int (p := p) (TR_of_CR h2)
        rw [h4, ← hj]; simp [List.getElem?_eq_getElem hj'])
      rw [List.length_map, hlen'] at this
      exact this
    have h2 := run_convert_bytes_string (P := P) w' s d e (some ad) n' cap hu (tint_inv he) (tkind_2 hd)
    simp only [Runs, execOp, ho, hv, Sem.run_bind, h2, run_bytesToString w' ad n' cap ns hload, Result.andThen_ok, Sem.run_pure]
  · cases hr

end Go.Proofs.YticoldgiebmmgaaGreatDoor.Abs

/- How the state's relation is kept when the world changes: boxes. -/
namespace Go.Proofs.YticoldgiebmmgaaGreatDoor.Abs
set_option linter.all false

variable {P : Program} {w w' : World} {G G' : Gh} {a : Act} {o : Oper}
variable {w0 : World} {F0 : FT} {A : Nat → Prop} {n : Nat} {st : St}

theorem ext_setRow {g : Nat} (h : G.Fr g = 0) (cs : Array Value) : Ext w G.Fr (w.setRow g cs) G.Fr :=
  ⟨fun _ => Nat.le_refl _, fun b o v ho hv => by
    have hne : b ≠ g := fun e => by subst e; omega
    rw [← hv]; exact World.cell?_of_block (a := ⟨b, o, none⟩) (setRow_other w g b cs hne), fun _ _ h => h, fun b vs e h1 h2 => ⟨vs, by
    have hne : b ≠ g := fun e => by subst e; omega
    rw [setRow_other w g b cs hne]; exact h2⟩⟩

theorem kp_setRow {g : Nat} (hk : Kp w0 A w) (hg : A g ∨ w0.heap.size ≤ g) (cs : Array Value) : Kp w0 A (w.setRow g cs) :=
  ⟨hk.os, hk.tape, hk.output, by rw [size_setRow]; exact hk.size, fun b hb hA => by
    rw [setRow_other w g b cs (fun e => by subst e; rcases hg with h | h; { exact hA h }; { omega })]
    exact hk.block b hb hA⟩

theorem St.at_setAt {st : St} {s : K} {ob : Obj} (hs : st.at s = some ob) (ob' : Obj) (s' : K) : (st.setAt s ob').at s' = if s' = s then some ob' else st.at s' := by
  cases s with
  | loc t =>
    cases s' with
    | loc t' => simp only [St.setAt, St.at, upd, K.loc.injEq]
    | obj i' => simp [St.setAt, St.at]
  | obj i =>
    cases s' with
    | loc t' => simp [St.setAt, St.at]
    | obj i' => simp only [St.setAt, St.at, K.obj.injEq]; exact H.get_set hs ob' i'

theorem St.n_setAt (st : St) (s : K) (ob : Obj) : (st.setAt s ob).h.n = st.h.n := by
  cases s with
  | loc t => rfl
  | obj i => exact H.n_set _ _ _
theorem St.Γ_setAt (st : St) (s : K) (ob : Obj) : (st.setAt s ob).h.Γ = st.h.Γ := by
  cases s with
  | loc t => rfl
  | obj i => exact H.Γ_set _ _ _
theorem St.s_setAt (st : St) (s : K) (ob : Obj) : (st.setAt s ob).s = st.s := by cases s <;> rfl

theorem St.setAt_self {st : St} {s : K} {ob : Obj} (hs : st.at s = some ob) : st.setAt s ob = st := by
  cases s with
  | loc t =>
    cases st
    simp only [St.setAt, St.at] at *
    congr 1
    funext j; simp only [upd]; split <;> simp_all
  | obj i =>
    cases st with
    | mk ss bb h =>
    simp only [St.setAt, St.at] at *
    congr 1
    obtain ⟨h1, h2⟩ := H.get_lt hs
    unfold H.set
    rw [if_neg (by omega)]
    unfold H.get at hs
    rw [if_neg (by omega)] at hs
    cases h with
    | mk base l Γ =>
    simp only at *
    congr 1
    apply List.ext_getElem?
    intro j
    by_cases hj : j = i - base
    · subst hj
      have hlt : i - base < l.length := by simp only [H.n] at h2; omega
      rw [List.getElem?_set_self hlt]
      cases hl : l[i - base]? with
      | none => rw [hl] at hs; cases hs
      | some o => rw [hl] at hs; cases o with
        | none => cases hs
        | some o => simp only [Option.join, Option.bind_some, id] at hs; rw [hs]
    · rw [List.getElem?_set_ne (fun e => hj e.symm)]

theorem St.setAt_setAt {st : St} {s : K} {ob : Obj} (hs : st.at s = some ob) (o1 o2 : Obj) : (st.setAt s o1).setAt s o2 = st.setAt s o2 := by
  cases s with
  | loc t =>
    simp only [St.setAt]
    congr 1
    funext j; simp only [upd]; split <;> rfl
  | obj i =>
    simp only [St.setAt]
    congr 1
    unfold H.set
    split
    · rfl
    · simp

theorem SR.setBox (h : SR w0 F0 A n st a w G) {s : K} {ob ob' : Obj} (hs : st.at s = some ob) (hx : Ext w G.Fr w' G'.Fr) (hβ : G'.β = G.β) (hθ : G'.Fr.θ = G.Fr.θ)
    (hk : ∀ p, (∀ c, p ≠ .cell s c) → p ≠ .box s → ∀ b, G.ω b = p → b < w.heap.size → w'.heap[b]? = w.heap[b]? ∧ G'.Fr b = G.Fr b ∧ G'.ω b = p)
    (hnew : BoxR w' G' s ob') (hkept : Kp w0 A w') (hmine : ∀ b, G'.ω b ≠ .free → b < w'.heap.size ∧ (A b ∨ w0.heap.size ≤ b))
    (hsame : ∀ b, b < w0.heap.size → ¬ A b → G'.Fr b = F0 b) (hfresh : ∀ b, w'.heap.size ≤ b → G'.Fr b = 0) : SR w0 F0 A n (st.setAt s ob') a w' G' := by
  have key : ∀ s' ob1, (st.setAt s ob').at s' = some ob1 → BoxR w' G' s' ob1 := by
    intro s' ob1 h1
    rw [St.at_setAt hs] at h1
    split at h1
    · rename_i he; subst he; injection h1 with h1; subst h1; exact hnew
    · rename_i hne
      refine (h.at h1).keeps hx (fun t ht => ?_) (fun p hp => hk p (fun c => ?_) ?_)
      · cases s' with
        | loc t' => show G'.β t' = some t; rw [hβ]; exact ht
        | obj i' => show G'.Fr.θ i' = some t; rw [hθ]; exact ht
      · rcases hp with rfl | ⟨_, rfl⟩
        · simp
        · intro e; injection e with e _; exact hne e
      · rcases hp with rfl | ⟨_, rfl⟩
        · intro e; injection e with e; exact hne e
        · simp
  refine ⟨h.size, h.defers, fun t => ?_, fun t ob1 h1 => key (.loc t) ob1 h1, ⟨fun i ob1 h1 => key (.obj i) ob1 h1, fun i hi => ?_, fun g xs hg => ?_⟩, hkept, h.ext.trans hx, hmine, hsame, hfresh, fun u hu => by
    rw [hβ]
    refine h.nob u ?_
    have := St.at_setAt hs ob' (.loc u)
    split at this
    · rw [show (st.setAt s ob').at (.loc u) = (st.setAt s ob').b u from rfl, hu] at this; cases this
    · rw [show (st.setAt s ob').at (.loc u) = (st.setAt s ob').b u from rfl, hu] at this; exact this.symm⟩
  · rw [St.s_setAt]
    exact (h.slots t).keeps hx (fun _ _ _ => by rw [hβ]) (fun j => hk _ (by simp) (by simp))
  · rw [hθ]; rw [St.n_setAt] at hi; exact h.heap.ids i hi
  · rw [St.Γ_setAt] at hg; exact (h.heap.glob g xs hg).ext hx

theorem SR.turnCell (h : SR w0 F0 A n st a w G) {s : K} {c b : Nat} {cs : List AV} (hs : st.at s = some (.cells cs)) (hc : c < cs.length) (hb : G.ω b = .cell s c) (ho : Gh.Off G G' b)
    (hm : G.Fr b ≤ G'.Fr b) {x : AV} (hx : ∀ t vs, G.at s = some t → w.heap[t.b]? = some (.cells vs t.e (0, 0)) → ∀ (h' : c < vs.size), TC w G (.cell s c) cs[c] vs[c] → TC w G' (.cell s c) x vs[c]) :
    SR w0 F0 A n (st.setAt s (.cells (cs.set c x))) a w G' := by
  have hE : Ext w G.Fr w G'.Fr := ho.ext hm
  have hmine := h.mine b (by rw [hb]; simp)
  have hk : ∀ (p : Pos), p ≠ .cell s c → ∀ b', G.ω b' = p → b' < w.heap.size → w.heap[b']? = w.heap[b']? ∧ G'.Fr b' = G.Fr b' ∧ G'.ω b' = p := by
    intro p hp b' hb' _
    have hne : b' ≠ b := fun e => by subst e; exact hp (hb'.symm.trans hb)
    exact ⟨rfl, ho.Fr b' hne, by rw [ho.ω b' hne]; exact hb'⟩
  obtain ⟨t, h1, h2, hlt, h3, h4, vs, h5, h6, h7⟩ := h.at hs
  have hg : t.b ≠ b := fun e => by rw [e, hb] at h2; cases h2
  refine h.setBox hs hE ho.β ho.θ (fun p hp _ => hk p (hp c)) ⟨t, by rw [ho.at]; exact h1, by rw [ho.ω _ hg]; exact h2, hlt, by rw [ho.Fr _ hg]; exact h3, h4, vs, h5, by simpa using h6, fun i hi hi' => ?_⟩ h.kept (fun b' hb' => ?_) (fun b' hb' hA => ?_) (fun b' hb' => ?_)
  · have hi2 : i < cs.length := by simpa using hi
    refine ⟨(h7 i hi2 hi').1, ?_⟩
    by_cases hic : i = c
    · subst hic; simp only [List.getElem_set_self]; exact hx t vs h1 h5 hi' (h7 i hi2 hi').2
    · rw [List.getElem_set_ne (fun e => hic e.symm)]
      exact (h7 i hi2 hi').2.keeps hE (hk _ (by intro e; injection e with _ e; exact hic e))
  · by_cases hcb : b' = b
    · subst hcb; exact hmine
    · exact h.mine b' (by rw [← ho.ω b' hcb]; exact hb')
  · by_cases hcb : b' = b
    · subst hcb; rcases hmine.2 with h' | h'
      · exact absurd h' hA
      · omega
    · rw [ho.Fr b' hcb]; exact h.same b' hb' hA
  · by_cases hcb : b' = b
    · subst hcb; exact absurd hmine.1 (by omega)
    · rw [ho.Fr b' hcb]; exact h.fresh b' hb'

theorem set_self' (cs : List AV) (c : Nat) (h : c < cs.length) : cs.set c cs[c] = cs := by
  apply List.ext_getElem
  · simp
  · intro i h1 h2
    by_cases hic : c = i
    · subst hic; simp
    · rw [List.getElem_set_ne hic]

theorem SR.giveCell (h : SR w0 F0 A n st a w G) {s : K} {c : Nat} {cs : List AV} (hs : st.at s = some (.cells cs)) (hc : c < cs.length) :
    ∃ G', SR w0 F0 A n (st.setAt s (.cells (cs.set c (gvV cs[c])))) a w G' ∧ (∀ q x v, q ≠ .cell s c → TC w G q x v → TC w G' q x v) ∧ (∀ g, G.ω g ≠ .cell s c → G'.ω g = G.ω g) ∧ G'.β = G.β ∧ G'.Fr.θ = G.Fr.θ ∧ Ext w G.Fr w G'.Fr ∧
      (∀ t vs, G.at s = some t → w.heap[t.b]? = some (.cells vs t.e (0, 0)) → ∀ (h' : c < vs.size), CR w G'.Fr (gvV cs[c]) vs[c]) := by
  obtain ⟨t, h1, h2, hlt, h3, h4, vs, h5, h6, h7⟩ := h.at hs
  have hcv : c < vs.size := by omega
  have huniq : ∀ t' vs', G.at s = some t' → w.heap[t'.b]? = some (.cells vs' t'.e (0, 0)) → t' = t ∧ vs' = vs := by
    intro t' vs' ha hb
    rw [h1] at ha; injection ha with ha; subst ha
    rw [h5] at hb; injection hb with hb; injection hb with hb1 hb2; exact ⟨rfl, hb1.symm⟩
  have hT := (h7 c hc hcv).2
  by_cases hown : (cs[c]).isOwn = true
  · cases hx : cs[c] with
    | slice cl e1 sz xs => cases cl with
      | own f =>
        rw [hx] at hT
        obtain ⟨b, hb, hO⟩ := hT
        have hle : G.Fr b ≤ xs.length := by obtain ⟨_, _, _, _, _, _, _, h1, _⟩ := hO; exact h1
        have hm : G.Fr b ≤ (G.promise b xs.length .free).Fr b := by rw [Gh.promise_same]; exact hle
        have hE : Ext w G.Fr w (G.promise b xs.length .free).Fr := (G.promise_off b xs.length .free).ext hm
        have hC : CR w (G.promise b xs.length .free).Fr (gvV (AV.slice (.own f) e1 sz xs)) vs[c] := hO.frz hE (by rw [Gh.promise_same]; exact Nat.le_refl _) e1
        refine ⟨G.promise b xs.length .free, ?_, fun q x v hq hv => TC.turn (G.promise_off b xs.length .free) hE (by rw [hb]; exact fun e => hq e.symm) hv, fun g' hg' => (G.promise_off b xs.length .free).ω g' (fun e => hg' (e ▸ hb)), rfl, rfl, hE, ?_⟩
        · refine h.turnCell hs hc hb (G.promise_off b xs.length .free) hm (fun t' vs' ha hb' h' _ => ?_)
          obtain ⟨rfl, rfl⟩ := huniq t' vs' ha hb'
          exact TC_of_CR hC
        · intro t' vs' ha hb' h'
          obtain ⟨rfl, rfl⟩ := huniq t' vs' ha hb'
          exact hC
      | _ => rw [hx] at hown; simp [AV.isOwn] at hown
    | _ => rw [hx] at hown; simp [AV.isOwn] at hown
  · have he := frozen_of_not_own (by simpa using hown : (cs[c]).isOwn = false)
    refine ⟨G, ?_, fun _ _ _ _ h => h, fun _ _ => rfl, rfl, rfl, Ext.refl _ _, ?_⟩
    · rw [he, set_self' cs c hc, St.setAt_self hs]; exact h
    · intro t' vs' ha hb' h'
      obtain ⟨rfl, rfl⟩ := huniq t' vs' ha hb'
      rw [he]; exact CR_of_TC hT (by simpa using hown)

def giveAll : Nat → Nat → List AV → List AV
  | 0, _, cs => cs
  | k + 1, off, cs => giveAll k (off + 1) (cs.set off (gvV (cs.getD off .undef)))

theorem giveAll_length (k : Nat) : ∀ (off : Nat) (cs : List AV), (giveAll k off cs).length = cs.length := by
  induction k with
  | zero => intro off cs; rfl
  | succ k ih => intro off cs; simp [giveAll, ih]

theorem giveAll_get (k : Nat) : ∀ (off : Nat) (cs : List AV) (i : Nat), off + k ≤ cs.length → (giveAll k off cs)[i]? = if off ≤ i ∧ i < off + k then (cs[i]?).map gvV else cs[i]? := by
  induction k with
  | zero => intro off cs i _; simp only [giveAll]; rw [if_neg (by omega)]
  | succ k ih =>
    intro off cs i hle
    simp only [giveAll]
    rw [ih (off + 1) _ i (by simpa using (by omega : off + 1 + k ≤ cs.length))]
    by_cases h1 : i = off
    · subst h1
      rw [if_neg (by omega), if_pos (by omega)]
      have : i < cs.length := by omega
      simp [List.getElem?_set_self this, List.getElem?_eq_getElem this, List.getD]
    · have hne : off ≠ i := fun e => h1 e.symm
      simp only [List.getElem?_set_ne hne]
      by_cases h2 : off ≤ i ∧ i < off + (k + 1)
      · rw [if_pos h2, if_pos (by omega)]
      · rw [if_neg h2, if_neg (by omega)]

theorem giveAll_splice (k off : Nat) (cs : List AV) (h : off + k ≤ cs.length) : giveAll k off cs = splice cs off (((cs.drop off).take k).map gvV) := by
  apply List.ext_getElem?
  intro i
  rw [giveAll_get k off cs i h]
  unfold splice
  have hl : (((cs.drop off).take k).map gvV).length = k := by simp; omega
  have hto : (cs.take off).length = off := by simp; omega
  by_cases h1 : i < off
  · rw [if_neg (by omega), List.append_assoc, List.getElem?_append_left (by rw [hto]; exact h1), List.getElem?_take_of_lt h1]
  · by_cases h2 : i < off + k
    · rw [if_pos (by omega), List.getElem?_append_left (by rw [List.length_append, hto, hl]; exact h2), List.getElem?_append_right (by rw [hto]; omega), hto]
      simp only [List.getElem?_map, List.getElem?_take, List.getElem?_drop]
      rw [if_pos (by omega), show off + (i - off) = i by omega]
    · rw [if_neg (by omega), List.getElem?_append_right (by rw [List.length_append, hto, hl]; omega), List.length_append, hto, hl, List.getElem?_drop]
      congr 1; omega

theorem SR.giveRow (k : Nat) : ∀ {st : St} {G : Gh} (_ : SR w0 F0 A n st a w G) {s : K} {off : Nat} {cs : List AV} (_ : st.at s = some (.cells cs)) (_ : off + k ≤ cs.length),
    ∃ G', SR w0 F0 A n (st.setAt s (.cells (giveAll k off cs))) a w G' ∧ (∀ q x v, (∀ c, q ≠ .cell s c) → TC w G q x v → TC w G' q x v) ∧ (∀ g, (∀ c, G.ω g ≠ .cell s c) → G'.ω g = G.ω g) ∧ G'.β = G.β ∧ G'.Fr.θ = G.Fr.θ ∧ Ext w G.Fr w G'.Fr := by
  induction k with
  | zero =>
    intro st G h s off cs hs _
    refine ⟨G, ?_, fun _ _ _ _ h => h, fun _ _ => rfl, rfl, rfl, Ext.refl _ _⟩
    simp only [giveAll]; rw [St.setAt_self hs]; exact h
  | succ k ih =>
    intro st G h s off cs hs hle
    have hc : off < cs.length := by omega
    obtain ⟨G1, g1, g2, g5, g3, g3', g4, _⟩ := h.giveCell hs hc
    have hgd : cs.getD off .undef = cs[off] := by simp [List.getD, List.getElem?_eq_getElem hc]
    obtain ⟨G2, k1, k2, k5, k3, k3', k4⟩ := ih g1 (s := s) (off := off + 1) (cs := cs.set off (gvV cs[off])) (by rw [St.at_setAt hs, if_pos rfl]) (by simpa using (by omega : off + 1 + k ≤ cs.length))
    refine ⟨G2, ?_, fun q x v hq hv => k2 q x v hq (g2 q x v (hq off) hv), fun g hg => (k5 g (fun c => by rw [g5 g (hg off)]; exact hg c)).trans (g5 g (hg off)), k3.trans g3, k3'.trans g3', g4.trans k4⟩
    simp only [giveAll, hgd]
    rw [St.setAt_setAt hs] at k1; exact k1

end Go.Proofs.YticoldgiebmmgaaGreatDoor.Abs

/- Loads. -/
namespace Go.Proofs.YticoldgiebmmgaaGreatDoor.Abs
set_option linter.all false

variable {P : Program} {w w' : World} {G G' : Gh} {a : Act} {o : Oper}
variable {w0 : World} {F0 : FT} {A : Nat → Prop} {n : Nat} {st : St}

theorem runs_load_agg {t : TypeId} {x : Operand} (ho : o.op = .load t x) (ha : tagg P t = some true) {k : Nat} (hn : tsize P t = some k) {ad : Addr} (hx : a.eval x = .pointer (some ad)) (hs : ad.spot = none)
    {f : Nat → Value} (hc : ∀ j, j < k → w.cell? ⟨ad.block, ad.off + j, none⟩ = some (f j)) : Runs P o a w (.agg ((List.range k).map f).toArray) w := by
  have hl : (loadCells ad k).run P w = .ok ((List.range k).map f).toArray w := by
    have := run_loadCells_list (P := P) w ad ((List.range k).map f) (fun j v hj => by
      rw [add_off ad hs]
      have hj' : j < k := by simpa using (List.getElem?_eq_some_iff.1 hj).1
      rw [hc j hj', ← hj]; simp [hj'])
    simpa using this
  simp [Runs, execOp, ho, hx, Instr.loadAt, Instr.sureAddr, loadVar, run_isAgg_true ha, run_sizeOf' hn, hl]

theorem runs_load_one {t : TypeId} {x : Operand} (ho : o.op = .load t x) (ha : tagg P t = some false) {ad : Addr} (hx : a.eval x = .pointer (some ad))
    {v : Value} (hc : w.cell? ad = some v) : Runs P o a w v w := by
  simp [Runs, execOp, ho, hx, Instr.loadAt, Instr.sureAddr, loadVar, run_isAgg_false ha, hc]

theorem SR.turnCell' (h : SR w0 F0 A n st a w G) {s : K} {c b : Nat} {cs : List AV} (hs : st.at s = some (.cells cs)) (hc : c < cs.length) (hb : G.ω b = .cell s c) (ho : Gh.Off G G' b)
    (hm : G.Fr b ≤ G'.Fr b) {x : AV} {v : Value} (hv : ∃ t vs, G.at s = some t ∧ w.heap[t.b]? = some (.cells vs t.e (0, 0)) ∧ vs[c]? = some v) (hx : TC w G' (.cell s c) x v) :
    SR w0 F0 A n (st.setAt s (.cells (cs.set c x))) a w G' := by
  refine h.turnCell hs hc hb ho hm (fun t vs h1 h2 h' _ => ?_)
  obtain ⟨t', vs', k1, k2, k3⟩ := hv
  rw [h1] at k1; injection k1 with k1; subst k1
  rw [h2] at k2; injection k2 with k2; injection k2 with k2 _; subst k2
  rw [Array.getElem?_eq_getElem h'] at k3; injection k3 with k3; rw [k3]; exact hx

theorem splice_one (cs : List AV) (c : Nat) (x : AV) (h : c < cs.length) : splice cs c [x] = cs.set c x := by
  unfold splice
  rw [List.set_eq_take_append_cons_drop, if_pos h]
  simp

theorem cpV_not_own {m : Mode} {x : AV} (h : x.isOwn = false) (h' : x.several = false) : cpV m x = x ∧ cpS m x = x := by
  cases x with
  | slice c e sz xs => cases c <;> first | (simp [AV.isOwn] at h; done) | (cases m <;> exact ⟨rfl, rfl⟩)
  | tup xs => simp [AV.several] at h'
  | _ => cases m <;> exact ⟨rfl, rfl⟩

theorem load_gl (h : SR w0 F0 A n st a w G) {t : TypeId} {x : Operand} (ho : o.op = .load t x) {ag : Bool} (ha : tagg P t = some ag) {k : Nat} (hn : tsize P t = some k)
    {p : Nat → Pos} {g : Nat} (hp : TR w G p (.gl g) (a.eval x)) {m : Mode} {v : AV} {st' : St} (hr : ldV m ag k (.gl g) st = some (v, st')) :
    st' = st ∧ ∃ vv, CR w G.Fr v vv ∧ ∀ w', Pres (fun _ => none) G w w' → Runs P o a w' vv w' := by
  have agg : ∀ {xs : List AV} {f : Nat → Value}, xs.length = k → (∀ i, i < k → (f i).oneCell' = true) → (∀ i (hi : i < xs.length), CR w G.Fr xs[i] (f i)) → CR w G.Fr (.agg xs) (.agg ((List.range k).map f).toArray) := fun hl h1 h2 => by
    refine .agg _ _ (by simp; omega) (fun i hi => ?_) (fun i hi hi' => ?_)
    · simp at hi ⊢; exact h1 i hi
    · simp at hi hi' ⊢; exact h2 i (by omega)
  simp only [ldV, Option.map_eq_some_iff] at hr
  obtain ⟨v0, hv0, hr⟩ := hr
  injection hr with hr1 hr2; subst hr1; subst hr2
  refine ⟨rfl, ?_⟩
  have hpe := TR_gl hp
  unfold glV at hv0
  split at hv0
  · rename_i ys hg
    split at hv0
    · rename_i hle
      injection hv0 with hv0; subst hv0
      have hc := h.heap.glob _ _ hg
      generalize hvv : Value.pointer (some ⟨g, 0, none⟩) = vv at hc
      cases hc with
      | eptr ad _ vs hs hpp hcell hone hcr =>
      injection hvv with hvv; injection hvv with hvv; subst hvv
      refine ⟨_, agg (f := vs) (by simp; omega) (fun i hi => hone i (by omega)) (fun i hi => ?_), fun w' hw' => ?_⟩
      · have := hcr i (by simp at hi; omega); simpa using this
      · exact runs_load_agg ho ha hn hpe hs (fun j hj => hw'.cell _ _ _ (hpp j (by omega)) (hcell j (by omega)))
    · cases hv0
  · rename_i y ys hg
    injection hv0 with hv0; subst hv0
    have hc := h.heap.glob _ _ hg
    generalize hvv : Value.pointer (some ⟨g, 0, none⟩) = vv at hc
    cases hc with
    | eptr ad _ vs hs hpp hcell hone hcr =>
    injection hvv with hvv; injection hvv with hvv; subst hvv
    refine ⟨vs 0, hcr 0 (by simp), fun w' hw' => ?_⟩
    refine runs_load_one ho ha hpe ?_
    have := hw'.cell _ _ _ (hpp 0 (by simp)) (hcell 0 (by simp))
    simpa using this
  · split at hv0
    · rename_i hk0
      injection hv0 with hv0; subst hv0; subst hk0
      exact ⟨_, agg (xs := []) (f := fun _ => undef) (by simp) (fun i hi => absurd hi (by omega)) (fun i hi => absurd hi (by simp)), fun w' _ => runs_load_agg ho ha hn hpe rfl (fun j hj => absurd hj (by omega))⟩
    · cases hv0
  · cases hv0

theorem load_sound (h : SR w0 F0 A n st a w G) {t : TypeId} {x : Operand} (ho : o.op = .load t x) {ag : Bool} (ha : tagg P t = some ag) {k : Nat} (hn : tsize P t = some k)
    {p : Nat → Pos} {pv : AV} (hp : TR w G p pv (a.eval x)) {m : Mode} {v : AV} {st' : St} (hr : ldV m ag k pv st = some (v, st')) (q : Nat → Pos) (hq : q 0 ≠ .free) (hqb : ∀ s, q 0 ≠ .box s) :
    ∃ G' vv, SR w0 F0 A n st' a w G' ∧ TR w G' q v vv ∧ (∀ w', Pres st.at G w w' → Runs P o a w' vv w') ∧ G'.β = G.β ∧ Ext w G.Fr w G'.Fr ∧ (∀ s g, G.ω g = .box s → G'.ω g = .box s) ∧ (∀ q x v, (∀ s c, q ≠ .cell s c) → TC w G q x v → TC w G' q x v) ∧ G'.Fr.θ = G.Fr.θ := by
  have still : ∀ {v : AV} {vv : Value}, CR w G.Fr v vv → (∀ w', Pres st.at G w w' → Runs P o a w' vv w') → st' = st →
      ∃ G' vv, SR w0 F0 A n st' a w G' ∧ TR w G' q v vv ∧ (∀ w', Pres st.at G w w' → Runs P o a w' vv w') ∧ G'.β = G.β ∧ Ext w G.Fr w G'.Fr ∧ (∀ s g, G.ω g = .box s → G'.ω g = .box s) ∧ (∀ q x v, (∀ s c, q ≠ .cell s c) → TC w G q x v → TC w G' q x v) ∧ G'.Fr.θ = G.Fr.θ :=
    fun hC hR hst => ⟨G, _, hst ▸ h, TR_of_CR hC, hR, rfl, Ext.refl _ _, fun _ _ h => h, fun _ _ _ _ h => h, rfl⟩
  have agg : ∀ {xs : List AV} {f : Nat → Value}, xs.length = k → (∀ i, i < k → (f i).oneCell' = true) → (∀ i (hi : i < xs.length), CR w G.Fr xs[i] (f i)) → CR w G.Fr (.agg xs) (.agg ((List.range k).map f).toArray) := fun hl h1 h2 => by
    refine .agg _ _ (by simp; omega) (fun i hi => ?_) (fun i hi hi' => ?_)
    · simp at hi ⊢; exact h1 i hi
    · simp at hi hi' ⊢; exact h2 i (by omega)
  unfold ldV at hr
  split at hr
  · rename_i site off
    simp only [Option.bind_eq_some_iff, Option.map_eq_some_iff] at hr
    obtain ⟨ob, hs, ⟨v1, ob'⟩, hld, hr⟩ := hr
    injection hr with hr1 hr2
    simp only at hr1 hr2
    subst hr1; subst hr2
    obtain ⟨th, h1, h2, hlt, h3⟩ := h.at hs
    obtain ⟨t0, ht0, hpe⟩ := TR_ptr hp
    rw [h1] at ht0; injection ht0 with ht0; subst ht0
    unfold ldO at hld
    split at hld
    · rename_i cs
      split at hld
      · rename_i hle
        injection hld with hld; injection hld with hr1 hr2; subst hr1; subst hr2
        obtain ⟨j1, j2, vs, h4, h5, h6⟩ := h3
        obtain ⟨G', k1, k2, k5, k3, k3', k4⟩ := h.giveRow k hs hle
        rw [giveAll_splice k off cs hle] at k1
        obtain ⟨t', i1, i2, i3, _, _, vs', i4, i5, i6⟩ := k1.at (s := site) (ob := .cells (splice cs off (((cs.drop off).take k).map gvV))) (by rw [St.at_setAt hs, if_pos rfl])
        have hat' : G'.at site = G.at site := by
          cases site with
          | loc s => exact congrFun k3 s
          | obj i => exact congrFun k3' i
        rw [hat', h1] at i1; injection i1 with i1; subst i1
        rw [h4] at i4; injection i4 with i4; injection i4 with i4 _; subst i4
        refine ⟨G', .agg ((List.range k).map (fun i => vs.getD (off + i) undef)).toArray, k1, TR_of_CR ?_, fun w' hw' => ?_, k3, k4, fun s g' hg' => ?_, fun q x v hq hT => k2 q x v (fun c => hq _ c) hT, k3'⟩
        · have hlen : ((cs.drop off).take k).length = k := by simp; omega
          refine .agg _ _ (by simp; omega) (fun i hi => ?_) (fun i hi hi' => ?_)
          · have hik : i < k := by simpa using hi
            have := (h6 (off + i) (by omega) (by omega)).1
            simpa [Array.getD, (by omega : off + i < vs.size)] using this
          · have hik : i < k := by simpa using hi'
            have hsp : (splice cs off (((cs.drop off).take k).map gvV))[off + i]? = (cs[off + i]?).map gvV := by
              rw [← giveAll_splice k off cs hle, giveAll_get k off cs _ hle, if_pos (by omega)]
            have hlt : off + i < cs.length := by omega
            have hlt2 : off + i < (splice cs off (((cs.drop off).take k).map gvV)).length := by
              rw [← giveAll_splice k off cs hle, giveAll_length]; exact hlt
            have hT := (i6 (off + i) hlt2 (by omega)).2
            rw [List.getElem?_eq_getElem hlt2, List.getElem?_eq_getElem hlt] at hsp
            simp only [Option.map_some, Option.some.injEq] at hsp
            rw [hsp] at hT
            have hno : (gvV cs[off + i]).isOwn = false := by cases cs[off + i] <;> first | rfl | (rename_i c _ _ _; cases c <;> rfl)
            have := CR_of_TC hT hno
            simpa [Array.getD, (by omega : off + i < vs.size)] using this
        · refine runs_load_agg ho ha hn hpe rfl (fun j hj => ?_)
          have hh := hw'.box _ _ _ hs h1
          have hlt : off + j < vs.size := by omega
          simp only [World.cell?, hh, h4]
          simp [Array.getElem?_eq_getElem hlt, Array.getD, hlt]
        · rw [k5 g' (fun c => by rw [hg']; intro e; cases e)]; exact hg'
      · cases hld
    · rename_i cs
      simp only [Option.map_eq_some_iff] at hld
      obtain ⟨v0, hv0, hld⟩ := hld
      injection hld with hr1 hr2; subst hr1; subst hr2
      have hlt : off < cs.length := (List.getElem?_eq_some_iff.1 hv0).1
      have hv0' : cs[off] = v0 := (List.getElem?_eq_some_iff.1 hv0).2
      obtain ⟨j1, j2, vs, h4, h5, h6⟩ := h3
      have hltv : off < vs.size := by omega
      have hT := (h6 off hlt hltv).2
      rw [hv0'] at hT
      have hrun : ∀ w', Pres st.at G w w' → Runs P o a w' vs[off] w' := fun w' hw' => by
        refine runs_load_one ho ha hpe ?_
        have hh := hw'.box _ _ _ hs h1
        simp only [World.cell?, hh, h4]
        simp [Array.getElem?_eq_getElem hltv]
      have hex : ∃ t' vs', G.at site = some t' ∧ w.heap[t'.b]? = some (.cells vs' t'.e (0, 0)) ∧ vs'[off]? = some vs[off] := ⟨th, vs, h1, h4, Array.getElem?_eq_getElem hltv⟩
      by_cases hown : v0.isOwn = true
      · cases v0 with
        | slice c e1 sz xs => cases c with
          | own f =>
            obtain ⟨b, hb, hO⟩ := hT
            have hne : ∀ s' g', G.ω g' = .box s' → g' ≠ b := fun s' g' hg' e => by subst e; rw [hb] at hg'; cases hg'
            cases m with
            | take =>
              have hoff : Gh.Off G ⟨G.Fr, G.β, upd G.ω b (q 0)⟩ b := ⟨fun _ _ => rfl, rfl, rfl, fun c hc => upd_ne _ _ _ _ hc⟩
              have := h.turnCell' hs hlt hb hoff (Nat.le_refl _) (x := .slice .hdr e1 sz xs) hex (TC_of_CR (hO.hdr e1))
              refine ⟨⟨G.Fr, G.β, upd G.ω b (q 0)⟩, vs[off], ?_, TR_of_TC ⟨b, by simp [upd], hO⟩ rfl, hrun, rfl, Ext.refl _ _, fun s' g' hg' => by simp only; rw [upd_ne _ _ _ _ (hne s' g' hg')]; exact hg', fun q' x v hq' hT => TC.turn hoff (Ext.refl _ _) (by rw [hb]; exact fun e => hq' _ _ e.symm) hT, rfl⟩
              show SR w0 F0 A n (st.setAt site (.cells (splice cs off [cpS .take (AV.slice (.own f) e1 sz xs)]))) a w _
              rw [splice_one cs off _ hlt]; exact this
            | look =>
              have hle : G.Fr b ≤ xs.length := by obtain ⟨_, _, _, _, _, _, _, h1, _⟩ := hO; exact h1
              have hm : G.Fr b ≤ (G.promise b xs.length (.cell site off)).Fr b := by rw [Gh.promise_same]; exact hle
              have hE : Ext w G.Fr w (G.promise b xs.length (.cell site off)).Fr := (G.promise_off b xs.length (.cell site off)).ext hm
              have := h.turnCell' hs hlt hb (G.promise_off b xs.length (.cell site off)) hm (x := .slice (.own false) e1 sz xs) hex ⟨b, by simp [Gh.promise, upd_same], hO.shared hE (by rw [Gh.promise_same]; exact Nat.le_refl _)⟩
              refine ⟨G.promise b xs.length (.cell site off), vs[off], ?_, TR_of_CR (hO.frz hE (by rw [Gh.promise_same]; exact Nat.le_refl _) e1), hrun, rfl, hE, fun s' g' hg' => by rw [(G.promise_off b xs.length (.cell site off)).ω g' (hne s' g' hg')]; exact hg', fun q' x v hq' hT => TC.turn (G.promise_off b xs.length (.cell site off)) hE (by rw [hb]; exact fun e => hq' _ _ e.symm) hT, rfl⟩
              show SR w0 F0 A n (st.setAt site (.cells (splice cs off [cpS .look (AV.slice (.own f) e1 sz xs)]))) a w _
              rw [splice_one cs off _ hlt]; exact this
            | head =>
              refine ⟨G, vs[off], ?_, TR_of_CR (hO.hdr e1), hrun, rfl, Ext.refl _ _, fun _ _ h => h, fun _ _ _ _ h => h, rfl⟩
              show SR w0 F0 A n (st.setAt site (.cells (splice cs off [AV.slice (.own f) e1 sz xs]))) a w _
              rw [splice_one cs off _ hlt, ← hv0', set_self' cs off hlt, St.setAt_self hs]; exact h
          | _ => simp [AV.isOwn] at hown
        | _ => simp [AV.isOwn] at hown
      · have hC := CR_of_TC hT (by simpa using hown)
        have hsev : v0.several = false := by cases v0 <;> first | rfl | cases hC
        obtain ⟨e1, e2⟩ := cpV_not_own (m := m) (by simpa using hown) hsev
        refine ⟨G, vs[off], ?_, by rw [e1]; exact TR_of_CR hC, hrun, rfl, Ext.refl _ _, fun _ _ h => h, fun _ _ _ _ h => h, rfl⟩
        rw [e2, splice_one cs off _ hlt, ← hv0', set_self' cs off hlt, St.setAt_self hs]; exact h
    · rename_i e sz cs
      split at hld
      · rename_i hle
        injection hld with hld; injection hld with hr1 hr2; subst hr1; subst hr2
        obtain ⟨_, _, _, _, _, j1, _, vs, h4, h5, h6⟩ := h3
        refine still (agg (f := fun i => vs.getD (off + i) undef) (by simp; omega) (fun i hi => ?_) (fun i hi => ?_)) (fun w' hw' => ?_) (St.setAt_self hs)
        · have := (h6 (off + i) (by omega) (by omega)).1
          simpa [Array.getD, (by omega : off + i < vs.size)] using this
        · have hik : i < k := by simp at hi; omega
          have := (h6 (off + i) (by omega) (by omega)).2
          simpa [Array.getD, (by omega : off + i < vs.size)] using this
        · refine runs_load_agg ho ha hn hpe rfl (fun j hj => ?_)
          have hh := hw'.box _ _ _ hs h1
          have hlt : off + j < vs.size := by omega
          simp only [World.cell?, hh, h4]
          simp [Array.getElem?_eq_getElem hlt, Array.getD, hlt]
      · cases hld
    · rename_i e sz cs
      simp only [Option.map_eq_some_iff] at hld
      obtain ⟨v0, hv0, hld⟩ := hld
      injection hld with hr1 hr2; subst hr1; subst hr2
      have hlt : off < cs.length := (List.getElem?_eq_some_iff.1 hv0).1
      have hv0' : cs[off] = v0 := (List.getElem?_eq_some_iff.1 hv0).2
      obtain ⟨_, _, _, _, _, j1, _, vs, h4, h5, h6⟩ := h3
      have hltv : off < vs.size := by omega
      refine still (vv := vs[off]) (by rw [← hv0']; exact (h6 off hlt hltv).2) (fun w' hw' => ?_) (St.setAt_self hs)
      refine runs_load_one ho ha hpe ?_
      have hh := hw'.box _ _ _ hs h1
      simp only [World.cell?, hh, h4]
      simp [Array.getElem?_eq_getElem hltv]
    · rename_i cs
      split at hld
      · rename_i hle
        injection hld with hld; injection hld with hr1 hr2; subst hr1; subst hr2
        have h3' : CR w G.Fr (.eptr cs) (.pointer (some ⟨th.b, 0, none⟩)) := h3
        generalize hvv : Value.pointer (some ⟨th.b, 0, none⟩) = vv at h3'
        cases h3' with
        | eptr ad _ vs hsp hpp hcell hone hcr =>
        injection hvv with hvv; injection hvv with hvv; subst hvv
        refine still (agg (f := fun i => vs (off + i)) (by simp; omega) (fun i hi => hone _ (by omega)) (fun i hi => ?_)) (fun w' hw' => ?_) (St.setAt_self hs)
        · have hik : i < k := by simp at hi; omega
          simpa using hcr (off + i) (by omega)
        · refine runs_load_agg ho ha hn hpe rfl (fun j hj => ?_)
          have := hw'.cell _ _ _ (hpp (off + j) (by omega)) (hcell (off + j) (by omega))
          simpa using this
      · cases hld
    · rename_i cs
      simp only [Option.map_eq_some_iff] at hld
      obtain ⟨v0, hv0, hld⟩ := hld
      injection hld with hr1 hr2; subst hr1; subst hr2
      have hlt : off < cs.length := (List.getElem?_eq_some_iff.1 hv0).1
      have hv0' : cs[off] = v0 := (List.getElem?_eq_some_iff.1 hv0).2
      have h3' : CR w G.Fr (.eptr cs) (.pointer (some ⟨th.b, 0, none⟩)) := h3
      generalize hvv : Value.pointer (some ⟨th.b, 0, none⟩) = vv at h3'
      cases h3' with
      | eptr ad _ vs hsp hpp hcell hone hcr =>
      injection hvv with hvv; injection hvv with hvv; subst hvv
      refine still (vv := vs off) (by rw [← hv0']; exact hcr off hlt) (fun w' hw' => ?_) (St.setAt_self hs)
      refine runs_load_one ho ha hpe ?_
      have := hw'.cell _ _ _ (hpp off hlt) (hcell off hlt)
      simpa using this
    · cases hld
  · rename_i ys
    split at hr
    · rename_i hle
      injection hr with hr; injection hr with hr1 hr2; subst hr1; subst hr2
      obtain ⟨ad, hpe, hc⟩ := TR_eptr hp
      cases hc with
      | eptr _ _ vs hs hpp hcell hone hcr =>
      refine still (agg (f := vs) (by simp; omega) (fun i hi => hone i (by omega)) (fun i hi => ?_)) (fun w' hw' => ?_) rfl
      · have := hcr i (by simp at hi; omega); simpa using this
      · exact runs_load_agg ho ha hn hpe hs (fun j hj => hw'.cell _ _ _ (hpp j (by omega)) (hcell j (by omega)))
    · cases hr
  · rename_i y ys
    injection hr with hr; injection hr with hr1 hr2; subst hr1; subst hr2
    obtain ⟨ad, hpe, hc⟩ := TR_eptr hp
    cases hc with
    | eptr _ _ vs hs hpp hcell hone hcr =>
    refine still (vv := vs 0) (hcr 0 (by simp)) (fun w' hw' => ?_) rfl
    refine runs_load_one ho ha hpe ?_
    have := hw'.cell _ _ _ (hpp 0 (by simp)) (hcell 0 (by simp))
    have e : ad = ⟨ad.block, ad.off + 0, none⟩ := by cases ad; simp at hs; subst hs; rfl
    rw [e]; exact this
  · rename_i ag g
    simp only [Option.map_eq_some_iff] at hr
    obtain ⟨v0, hv0, hr⟩ := hr
    injection hr with hr1 hr2; subst hr1; subst hr2
    have hpe := TR_gl hp
    unfold glV at hv0
    split at hv0
    · rename_i ys hg
      split at hv0
      · rename_i hle
        injection hv0 with hv0; subst hv0
        have hc := h.heap.glob _ _ hg
        generalize hvv : Value.pointer (some ⟨g, 0, none⟩) = vv at hc
        cases hc with
        | eptr ad _ vs hs hpp hcell hone hcr =>
        injection hvv with hvv; injection hvv with hvv; subst hvv
        refine still (agg (f := vs) (by simp; omega) (fun i hi => hone i (by omega)) (fun i hi => ?_)) (fun w' hw' => ?_) rfl
        · have := hcr i (by simp at hi; omega); simpa using this
        · exact runs_load_agg ho ha hn hpe hs (fun j hj => hw'.cell _ _ _ (hpp j (by omega)) (hcell j (by omega)))
      · cases hv0
    · rename_i y ys hg
      injection hv0 with hv0; subst hv0
      have hc := h.heap.glob _ _ hg
      generalize hvv : Value.pointer (some ⟨g, 0, none⟩) = vv at hc
      cases hc with
      | eptr ad _ vs hs hpp hcell hone hcr =>
      injection hvv with hvv; injection hvv with hvv; subst hvv
      refine still (vv := vs 0) (hcr 0 (by simp)) (fun w' hw' => ?_) rfl
      refine runs_load_one ho ha hpe ?_
      have := hw'.cell _ _ _ (hpp 0 (by simp)) (hcell 0 (by simp))
      simpa using this
    · split at hv0
      · rename_i h0
        injection hv0 with hv0; subst hv0; subst h0
        refine still (vv := .agg #[]) (.agg [] #[] rfl (fun i hi => absurd hi (by simp)) (fun i hi => absurd hi (by simp))) (fun w' _ => ?_) rfl
        simpa using runs_load_agg (w := w') (k := 0) (f := fun _ => undef) ho ha hn hpe rfl (fun j hj => absurd hj (by omega))
      · cases hv0
    · cases hv0
  · cases hr

end Go.Proofs.YticoldgiebmmgaaGreatDoor.Abs

/- The operations that make or write memory: what they leave of the state's relation. -/
namespace Go.Proofs.YticoldgiebmmgaaGreatDoor.Abs
set_option linter.all false

variable {P : Program} {w w' : World} {G G' : Gh} {a : Act} {o : Oper}
variable {w0 : World} {F0 : FT} {A : Nat → Prop} {n : Nat} {st : St}

theorem heap_old (w : World) (o : Go.Obj) (i : Nat) (h : i < w.heap.size) : (w.alloc o).heap[i]? = w.heap[i]? := by
  have : i ≠ w.heap.size := by omega
  simp [World.alloc, -World.alloc_eq, Array.getElem?_push, this]

theorem Kp.trans {w1 w2 : World} {D : Nat → Prop} (h : Kp w0 A w1) (k : Kp w1 D w2) (hD : ∀ b, b < w0.heap.size → D b → A b) : Kp w0 A w2 :=
  ⟨k.os.trans h.os, k.tape.trans h.tape, k.output.trans h.output, Nat.le_trans h.size k.size, fun b hb hA =>
    (k.block b (Nat.lt_of_lt_of_le hb h.size) (fun hd => hA (hD b hb hd))).trans (h.block b hb hA)⟩

def Pos.loose : Pos → Bool
  | .slot .. | .cell .. | .box _ => false
  | _ => true

theorem SR.world (h : SR w0 F0 A n st a w G) (D : Nat → Prop) (hD : ∀ b, D b → (A b ∨ w0.heap.size ≤ b) ∧ (G.ω b).loose = true) {Fr' : FT}
    (hk : Kp w D w') (hx : Ext w G.Fr w' Fr') (hF : ∀ b, b < w.heap.size → ¬ D b → Fr' b = G.Fr b) (hF' : ∀ b, w'.heap.size ≤ b → Fr' b = 0)
    (hids : ∀ i, st.h.n ≤ i → Fr'.θ i = none) : SR w0 F0 A n st a w' ⟨Fr', G.β, G.ω⟩ := by
  have hkeep : ∀ (p : Pos), p.loose = false → ∀ b, G.ω b = p → b < w.heap.size → w'.heap[b]? = w.heap[b]? ∧ Fr' b = G.Fr b ∧ G.ω b = p := by
    intro p hp b hb hlt
    have hnD : ¬ D b := fun hd => by have := (hD b hd).2; rw [hb, hp] at this; cases this
    exact ⟨hk.block b hlt hnD, hF b hlt hnD, hb⟩
  refine ⟨h.size, h.defers, fun t => (h.slots t).keeps hx (fun _ _ _ => rfl) (fun j => hkeep _ rfl), fun s cs hs => ?_, ?_, ?_, h.ext.trans hx, fun b hb => ?_, fun b hb hA => ?_, hF', h.nob⟩
  · exact (h.boxes s cs hs).keeps hx (fun _ h => h) (fun p hp => hkeep p (by rcases hp with rfl | ⟨_, rfl⟩ <;> rfl))
  · exact h.heap.keeps hx hids (fun i p hp => hkeep p (by rcases hp with rfl | ⟨_, rfl⟩ <;> rfl))
  · refine h.kept.trans hk (fun b hb hd => ?_)
    rcases (hD b hd).1 with h' | h'
    · exact h'
    · omega
  · obtain ⟨h1, h2⟩ := h.mine b hb
    exact ⟨Nat.lt_of_lt_of_le h1 hk.size, h2⟩
  · have hnD : ¬ D b := fun hd => by rcases (hD b hd).1 with h' | h'; { exact hA h' }; { omega }
    exact (hF b (Nat.lt_of_lt_of_le hb h.kept.size) hnD).trans (h.same b hb hA)

theorem SR.relabel (h : SR w0 F0 A n st a w G) {b : Nat} (hb : (G.ω b).loose = true) (hlt : b < w.heap.size) (hA : A b ∨ w0.heap.size ≤ b) (q : Pos) :
    SR w0 F0 A n st a w ⟨G.Fr, G.β, upd G.ω b q⟩ := by
  have hkeep : ∀ (p : Pos), p.loose = false → ∀ b', G.ω b' = p → b' < w.heap.size → w.heap[b']? = w.heap[b']? ∧ G.Fr b' = G.Fr b' ∧ upd G.ω b q b' = p := by
    intro p hp b' hb' _
    have hne : b' ≠ b := fun e => by subst e; rw [hb', hp] at hb; cases hb
    exact ⟨rfl, rfl, by rw [upd_ne _ _ _ _ hne]; exact hb'⟩
  refine ⟨h.size, h.defers, fun t => TR.keeps (G := G) (Ext.refl w G.Fr) (fun _ _ _ => rfl) (fun j => hkeep _ rfl) (h.slots t), fun s cs hs => ?_, ?_, h.kept, h.ext, fun b' hb' => ?_, h.same, h.fresh, h.nob⟩
  · exact BoxR.keeps (G := G) (Ext.refl w G.Fr) (fun _ h => h) (fun p hp => hkeep p (by rcases hp with rfl | ⟨_, rfl⟩ <;> rfl)) (h.boxes s cs hs)
  · exact HR.keeps (G := G) (Ext.refl w G.Fr) h.heap.ids (fun i p hp => hkeep p (by rcases hp with rfl | ⟨_, rfl⟩ <;> rfl)) h.heap
  · by_cases hbb : b' = b
    · subst hbb; exact ⟨hlt, hA⟩
    · exact h.mine b' (by simpa [upd, hbb] using hb')

theorem SR.new_free (h : SR w0 F0 A n st a w G) {b : Nat} (hb : w.heap.size ≤ b) : G.ω b = .free := by
  by_cases hf : G.ω b = .free
  · exact hf
  · have := (h.mine b hf).1; omega

theorem kp_alloc (w : World) (o : Go.Obj) (D : Nat → Prop) : Kp w D (w.alloc o) := ⟨rfl, rfl, rfl, by simp, fun b hb _ => heap_old w o b hb⟩
theorem ext_of_kp {D : Nat → Prop} {F : FT} (hk : Kp w D w') (hD : ∀ b, D b → F b = 0) (hF : ∀ b, w.heap.size ≤ b → F b = 0) : Ext w F w' F :=
  ⟨fun _ => Nat.le_refl _, fun b o v ho hv => by
    have hnD : ¬ D b := fun hd => by rw [hD b hd] at ho; omega
    have hlt : b < w.heap.size := by
      rcases Nat.lt_or_ge b w.heap.size with h | h
      · exact h
      · rw [hF b h] at ho; omega
    rw [← hv]; exact World.cell?_of_block (a := ⟨b, o, none⟩) (hk.block b hlt hnD), fun _ _ h => h, fun b cs e h1 h2 => ⟨cs, by
    have hnD : ¬ D b := fun hd => by rw [hD b hd] at h1; omega
    rw [hk.block b (Array.getElem?_eq_some_iff.1 h2).1 hnD]; exact h2⟩⟩

theorem SR.alloc (h : SR w0 F0 A n st a w G) (o : Go.Obj) : SR w0 F0 A n st a (w.alloc o) G := by
  have hk := kp_alloc w o (fun _ => False)
  have := h.world (fun _ => False) (fun _ h => h.elim) hk (ext_of_kp hk (fun _ h => h.elim) h.fresh) (fun _ _ _ => rfl) (fun b hb => h.fresh b (Nat.le_trans hk.size hb)) h.heap.ids
  exact this

theorem SR.newBox (h : SR w0 F0 A n st a w G) (d : Nat) {ob : Obj} (o : Go.Obj) (e N : Nat) (r : Bool) (hob : ObjR (w.alloc o) G (.loc d) ⟨w.heap.size, N, e, r⟩ ob) :
    ∃ G', SR w0 F0 A n (st.box d ob) a (w.alloc o) G' ∧ TR (w.alloc o) G' (.slot d) (.ptr (.loc d) 0) (.pointer (some ⟨w.heap.size, 0, none⟩)) := by
  have h1 := h.alloc o
  have hfree := h.new_free (Nat.le_refl w.heap.size)
  have hsz : (w.alloc o).heap.size = w.heap.size + 1 := by simp
  have hkeep : ∀ (p : Pos), p ≠ .free → ∀ b', G.ω b' = p → b' < (w.alloc o).heap.size →
      (w.alloc o).heap[b']? = (w.alloc o).heap[b']? ∧ G.Fr b' = G.Fr b' ∧ upd G.ω w.heap.size (.box (.loc d)) b' = p := by
    intro p hp b' hb' _
    have hne : b' ≠ w.heap.size := fun e => by subst e; exact hp (hb'.symm.trans hfree)
    exact ⟨rfl, rfl, by rw [upd_ne _ _ _ _ hne]; exact hb'⟩
  let G' : Gh := ⟨G.Fr, upd G.β d (some ⟨w.heap.size, N, e, r⟩), upd G.ω w.heap.size (.box (.loc d))⟩
  have hne : ∀ p, p ≠ Pos.free → ∀ b', G.ω b' = p → b' < (w.alloc o).heap.size → (w.alloc o).heap[b']? = (w.alloc o).heap[b']? ∧ G'.Fr b' = G.Fr b' ∧ G'.ω b' = p := hkeep
  refine ⟨G', ⟨h1.size, h1.defers, fun t => ?_, fun s ob' hs => ?_, ?_, h1.kept, h1.ext, fun b' hb' => ?_, h1.same, h1.fresh, fun u hu => by
    have hud : u ≠ d := fun e => by subst e; simp [St.box, upd] at hu
    show upd _ _ _ _ = _
    rw [upd_ne _ _ _ _ hud]
    exact h1.nob u (by simpa [St.box, upd, hud] using hu)⟩, ⟨⟨w.heap.size, N, e, r⟩, by simp [G', upd], rfl⟩⟩
  · show TR _ _ (.slot t) ((st.s t).kill d) _
    have ht := h1.slots t
    cases hx : st.s t with
    | ptr k off => cases k with
      | loc s =>
        by_cases hsd : s = d
        · subst hsd; simp only [AV.kill, if_pos]; trivial
        · simp only [AV.kill, if_neg hsd]
          rw [hx] at ht
          obtain ⟨b, hb, hv⟩ := ht
          exact ⟨b, by show upd _ _ _ _ = _; rw [upd_ne _ _ _ _ hsd]; exact hb, hv⟩
      | obj i => rw [hx] at ht; exact TR.keeps (G := G) (G' := G') (Ext.refl _ G.Fr) (fun _ _ e => by cases e) (fun j => hne _ (by simp)) ht
    | _ => rw [hx] at ht; exact TR.keeps (G := G) (G' := G') (Ext.refl _ G.Fr) (fun _ _ e => by cases e) (fun j => hne _ (by simp)) ht
  · by_cases hsd : s = d
    · subst hsd
      have : ob = ob' := by simpa [St.box, upd] using hs
      subst this
      exact ⟨⟨w.heap.size, N, e, r⟩, by simp [G', Gh.at, upd], by simp [G', upd], by simp, hob.map (G' := G') (Ext.refl _ _) rfl (fun h => h) (fun c x v hx => TC.keeps (G := G) (Ext.refl _ _) (hne _ (by simp)) hx)⟩
    · have hs' : st.b s = some ob' := by simpa [St.box, upd, hsd] using hs
      refine BoxR.keeps (G := G) (G' := G') (Ext.refl _ G.Fr) (fun t ht => ?_) (fun p hp => hne p (by rcases hp with rfl | ⟨_, rfl⟩ <;> simp)) (h1.boxes s ob' hs')
      show upd _ _ _ _ = _; rw [upd_ne _ _ _ _ hsd]; exact ht
  · exact HR.keeps (G := G) (G' := G') (Ext.refl _ G.Fr) h1.heap.ids (fun i p hp => hne p (by rcases hp with rfl | ⟨_, rfl⟩ <;> simp)) h1.heap
  · by_cases hbb : b' = w.heap.size
    · subst hbb; exact ⟨by omega, .inr h.kept.size⟩
    · exact h1.mine b' (by have : G'.ω b' = G.ω b' := upd_ne _ _ _ _ hbb; rw [← this]; exact hb')

theorem SR.newBox1 (h : SR w0 F0 A n st a w G) (d : Nat) (hd : st.b d = none) {ob : Obj} (o : Go.Obj) (e N : Nat) (r : Bool) (hob : ObjR (w.alloc o) G (.loc d) ⟨w.heap.size, N, e, r⟩ ob) :
    ∃ G', SR w0 F0 A n ⟨st.s, upd st.b d (some ob), st.h⟩ a (w.alloc o) G' ∧ TR (w.alloc o) G' (.slot d) (.ptr (.loc d) 0) (.pointer (some ⟨w.heap.size, 0, none⟩)) ∧ G'.Fr = G.Fr ∧ ∀ s t, G.β s = some t → G'.β s = some t := by
  have h1 := h.alloc o
  have hβd := h.nob d hd
  have hfree := h.new_free (Nat.le_refl w.heap.size)
  have hsz : (w.alloc o).heap.size = w.heap.size + 1 := by simp
  let G' : Gh := ⟨G.Fr, upd G.β d (some ⟨w.heap.size, N, e, r⟩), upd G.ω w.heap.size (.box (.loc d))⟩
  have hne : ∀ p, p ≠ Pos.free → ∀ b', G.ω b' = p → b' < (w.alloc o).heap.size → (w.alloc o).heap[b']? = (w.alloc o).heap[b']? ∧ G'.Fr b' = G.Fr b' ∧ G'.ω b' = p := by
    intro p hp b' hb' _
    have hne : b' ≠ w.heap.size := fun e => by subst e; exact hp (hb'.symm.trans hfree)
    exact ⟨rfl, rfl, by show upd _ _ _ _ = _; rw [upd_ne _ _ _ _ hne]; exact hb'⟩
  have hβ : ∀ s t, G.β s = some t → G'.β s = some t := fun s t hs => by
    have hsd : s ≠ d := fun e => by subst e; rw [hβd] at hs; cases hs
    show upd _ _ _ _ = _; rw [upd_ne _ _ _ _ hsd]; exact hs
  refine ⟨G', ⟨h1.size, h1.defers, fun t => ?_, fun s ob' hs => ?_, ?_, h1.kept, h1.ext, fun b' hb' => ?_, h1.same, h1.fresh, fun u hu => ?_⟩, ⟨⟨w.heap.size, N, e, r⟩, by simp [G', upd], rfl⟩, rfl, hβ⟩
  · show TR _ _ (.slot t) (st.s t) _
    have ht := h1.slots t
    cases hx : st.s t with
    | ptr k off => cases k with
      | loc s =>
        rw [hx] at ht
        obtain ⟨b, hb, hv⟩ := ht
        exact ⟨b, hβ _ _ hb, hv⟩
      | obj i => rw [hx] at ht; exact TR.keeps (G := G) (G' := G') (Ext.refl _ G.Fr) (fun _ _ e => by cases e) (fun j => hne _ (by simp)) ht
    | _ => rw [hx] at ht; exact TR.keeps (G := G) (G' := G') (Ext.refl _ G.Fr) (fun _ _ e => by cases e) (fun j => hne _ (by simp)) ht
  · by_cases hsd : s = d
    · subst hsd
      have : ob = ob' := by simpa [upd] using hs
      subst this
      exact ⟨⟨w.heap.size, N, e, r⟩, by simp [G', Gh.at, upd], by simp [G', upd], by simp, hob.map (G' := G') (Ext.refl _ _) rfl (fun h => h) (fun c x v hx => TC.keeps (G := G) (Ext.refl _ _) (hne _ (by simp)) hx)⟩
    · have hs' : st.b s = some ob' := by simpa [upd, hsd] using hs
      refine BoxR.keeps (G := G) (G' := G') (Ext.refl _ G.Fr) (fun t ht => ?_) (fun p hp => hne p (by rcases hp with rfl | ⟨_, rfl⟩ <;> simp)) (h1.boxes s ob' hs')
      exact hβ _ _ ht
  · exact HR.keeps (G := G) (G' := G') (Ext.refl _ G.Fr) h1.heap.ids (fun i p hp => hne p (by rcases hp with rfl | ⟨_, rfl⟩ <;> simp)) h1.heap
  · by_cases hbb : b' = w.heap.size
    · subst hbb; exact ⟨by omega, .inr h.kept.size⟩
    · exact h1.mine b' (by have : G'.ω b' = G.ω b' := upd_ne _ _ _ _ hbb; rw [← this]; exact hb')
  · have hud : u ≠ d := fun e => by subst e; simp [upd] at hu
    show upd _ _ _ _ = _
    rw [upd_ne _ _ _ _ hud]
    exact h1.nob u (by simpa [upd, hud] using hu)

theorem SR.newObj (h : SR w0 F0 A n st a w G) {ob : Obj} (o : Go.Obj) (e N : Nat) (r : Bool) (hob : ObjR (w.alloc o) G (.obj st.h.n) ⟨w.heap.size, N, e, r⟩ ob) :
    ∃ G', SR w0 F0 A n (st.pushH ob) a (w.alloc o) G' ∧ G'.Fr.θ st.h.n = some ⟨w.heap.size, N, e, r⟩ ∧ G'.β = G.β ∧ Ext w G.Fr (w.alloc o) G'.Fr := by
  have h1 := h.alloc o
  have hfree := h.new_free (Nat.le_refl w.heap.size)
  have hsz : (w.alloc o).heap.size = w.heap.size + 1 := by simp
  have hn0 := h.heap.ids st.h.n (Nat.le_refl _)
  let th : Th := ⟨w.heap.size, N, e, r⟩
  let G' : Gh := ⟨G.Fr.name st.h.n th, G.β, upd G.ω w.heap.size (.box (.obj st.h.n))⟩
  have hE : Ext (w.alloc o) G.Fr (w.alloc o) G'.Fr := Ext.name hn0 th
  have hne : ∀ p, p ≠ Pos.free → ∀ b', G.ω b' = p → b' < (w.alloc o).heap.size → (w.alloc o).heap[b']? = (w.alloc o).heap[b']? ∧ G'.Fr b' = G.Fr b' ∧ G'.ω b' = p := by
    intro p hp b' hb' _
    have hne : b' ≠ w.heap.size := fun e => by subst e; exact hp (hb'.symm.trans hfree)
    exact ⟨rfl, rfl, by show upd _ _ _ _ = _; rw [upd_ne _ _ _ _ hne]; exact hb'⟩
  have hx0 : Ext w G.Fr (w.alloc o) G.Fr := ext_of_kp (kp_alloc w o (fun _ => False)) (fun _ h => h.elim) h.fresh
  refine ⟨G', ⟨h1.size, h1.defers, fun t => ?_, fun s ob' hs => ?_, ⟨fun i ob' hi => ?_, fun i hi => ?_, fun g xs hg => (h1.heap.glob g xs hg).ext hE⟩, h1.kept, h1.ext.trans hE, fun b' hb' => ?_, h1.same, h1.fresh, h1.nob⟩, FT.name_same _ _ _, rfl, hx0.trans hE⟩
  · exact TR.keeps (G := G) (G' := G') hE (fun _ _ _ => rfl) (fun j => hne _ (by simp)) (h1.slots t)
  · exact BoxR.keeps (G := G) (G' := G') hE (fun t ht => ht) (fun p hp => hne p (by rcases hp with rfl | ⟨_, rfl⟩ <;> simp)) (h1.boxes s ob' hs)
  · have hi' : (st.h.push ob).get i = some ob' := hi
    rw [H.get_push] at hi'
    split at hi'
    · rename_i hin
      subst hin
      injection hi' with hi'; subst hi'
      exact ⟨th, FT.name_same _ _ _, by simp [G', th, upd], by simp [th], hob.map (G' := G') hE rfl (fun h => h) (fun c x v hx => TC.keeps (G := G) hE (hne _ (by simp)) hx)⟩
    · exact BoxR.keeps (G := G) (G' := G') hE (fun t ht => hE.ids _ _ ht) (fun p hp => hne p (by rcases hp with rfl | ⟨_, rfl⟩ <;> simp)) (h1.heap.box i ob' hi')
  · have hi' : (st.h.push ob).n ≤ i := hi
    rw [H.n_push] at hi'
    show (G.Fr.name st.h.n th).θ i = none
    rw [FT.name_ne _ _ _ _ (by omega)]; exact h.heap.ids i (by omega)
  · by_cases hbb : b' = w.heap.size
    · subst hbb; exact ⟨by omega, .inr h.kept.size⟩
    · exact h1.mine b' (by have : G'.ω b' = G.ω b' := upd_ne _ _ _ _ hbb; rw [← this]; exact hb')

theorem SR.newRow (h : SR w0 F0 A n st a w G) {cs : List AV} {vs : Array Value} (e sz m : Nat) (hz : 0 < sz) (hm : cs.length = m * sz) (hl : vs.size = cs.length) (hml : m ≤ maxLen)
    (hc : ∀ c (h : c < cs.length) (h' : c < vs.size), (vs[c]).oneCell' = true ∧ CR w G.Fr cs[c] vs[c]) (q : Nat → Pos) (hq : q 0 ≠ .free) :
    ∃ G', SR w0 F0 A n st a (w.alloc (.cells vs e)) G' ∧ TR (w.alloc (.cells vs e)) G' q (.slice (.own true) e sz cs) (.slice (some ⟨w.heap.size, 0, none⟩) m m) ∧ G'.β = G.β ∧ Ext w G.Fr (w.alloc (.cells vs e)) G'.Fr := by
  have h1 := h.alloc (.cells vs e)
  have hfree := h.new_free (Nat.le_refl w.heap.size)
  have hsz : (w.alloc (.cells vs e)).heap.size = w.heap.size + 1 := by simp
  have hnew : (w.alloc (.cells vs e)).heap[w.heap.size]? = some (.cells vs e) := heap_alloc_new w _
  have h2 := h1.relabel (b := w.heap.size) (by rw [hfree]; rfl) (by omega) (.inr h.kept.size) (q 0)
  have hx : Ext w G.Fr (w.alloc (.cells vs e)) G.Fr := ext_of_kp (kp_alloc w _ (fun _ => False)) (fun _ h => h.elim) h.fresh
  refine ⟨_, h2, TR_of_TC ⟨w.heap.size, by simp [upd], m, vs.toList, ?_, by simp [Value.ownBlock], hz, by simpa using hl, fun i hi hi' => ?_, by simp only; rw [h.fresh _ (Nat.le_refl _)]; omega, fun _ => h.fresh _ (Nat.le_refl _)⟩ rfl, rfl, hx⟩
  · refine ⟨by simp only [Array.length_toList]; omega, .inr ⟨w.heap.size, m, vs, rfl, Nat.zero_le _, hnew, Nat.le_refl _, hml, by omega, ?_⟩⟩
    rw [List.take_of_length_le (by simp only [Array.length_toList]; omega)]
  · have := hc i hi (by simpa using hi')
    exact ⟨by simpa using this.1, by simpa using this.2.ext hx⟩

end Go.Proofs.YticoldgiebmmgaaGreatDoor.Abs

/- Values put together of parts; new rows and boxes; stores. -/
namespace Go.Proofs.YticoldgiebmmgaaGreatDoor.Abs
set_option linter.all false

variable {P : Program} {w w' : World} {G G' : Gh} {a : Act} {o : Oper}
variable {w0 : World} {F0 : FT} {A : Nat → Prop} {n : Nat} {st : St} {β : Type}

def RowR (w : World) (Fr : FT) (cs : List AV) (vs : Array Value) : Prop :=
  vs.size = cs.length ∧ ∀ c (h : c < cs.length) (h' : c < vs.size), (vs[c]).oneCell' = true ∧ CR w Fr cs[c] vs[c]

theorem RowR.ext {F F' : FT} {cs : List AV} {vs : Array Value} (h : RowR w F cs vs) (hx : Ext w F w' F') : RowR w' F' cs vs :=
  ⟨h.1, fun c hc hc' => ⟨(h.2 c hc hc').1, (h.2 c hc hc').2.ext hx⟩⟩

theorem cells_RowR {Fr : FT} {x : AV} {v : Value} (h : CR w Fr x v) : RowR w Fr x.cells v.cells := by
  cases h with
  | agg xs vs hl ho hr => exact ⟨hl, fun c hc hc' => ⟨ho c hc', hr c hc hc'⟩⟩
  | bool b => exact ⟨rfl, fun c hc hc' => by obtain rfl : c = 0 := (by simp [AV.cells] at hc; exact hc); exact ⟨rfl, .bool b⟩⟩
  | int k m => exact ⟨rfl, fun c hc hc' => by obtain rfl : c = 0 := (by simp [AV.cells] at hc; exact hc); exact ⟨rfl, .int k m⟩⟩
  | str s l h => exact ⟨rfl, fun c hc hc' => by obtain rfl : c = 0 := (by simp [AV.cells] at hc; exact hc); exact ⟨rfl, .str s l h⟩⟩
  | flt k m => exact ⟨rfl, fun c hc hc' => by obtain rfl : c = 0 := (by simp [AV.cells] at hc; exact hc); exact ⟨rfl, .flt k m⟩⟩
  | nil e sz => exact ⟨rfl, fun c hc hc' => by obtain rfl : c = 0 := (by simp [AV.cells] at hc; exact hc); exact ⟨rfl, .nil e sz⟩⟩
  | frz e sz m cap ad xs vs hs hz hl hc hp hv ho hr => exact ⟨rfl, fun c hcc hcc' => by obtain rfl : c = 0 := (by simp [AV.cells] at hcc; exact hcc); exact ⟨rfl, .frz e sz m cap ad xs vs hs hz hl hc hp hv ho hr⟩⟩
  | hdr e sz m cap ad xs hz hl hc => exact ⟨rfl, fun c hcc hcc' => by obtain rfl : c = 0 := (by simp [AV.cells] at hcc; exact hcc); exact ⟨rfl, .hdr e sz m cap ad xs hz hl hc⟩⟩
  | eptr ad xs vs hs hp hv ho hr => exact ⟨rfl, fun c hcc hcc' => by obtain rfl : c = 0 := (by simp [AV.cells] at hcc; exact hcc); exact ⟨rfl, .eptr ad xs vs hs hp hv ho hr⟩⟩
  | nilptr => exact ⟨rfl, fun c hc hc' => by obtain rfl : c = 0 := (by simp [AV.cells] at hc; exact hc); exact ⟨rfl, .nilptr⟩⟩
  | iface t x v hr => exact ⟨rfl, fun c hc hc' => by obtain rfl : c = 0 := (by simp [AV.cells] at hc; exact hc); exact ⟨rfl, .iface t x v hr⟩⟩
  | nilI => exact ⟨rfl, fun c hc hc' => by obtain rfl : c = 0 := (by simp [AV.cells] at hc; exact hc); exact ⟨rfl, .nilI⟩⟩
  | fn f => exact ⟨rfl, fun c hc hc' => by obtain rfl : c = 0 := (by simp [AV.cells] at hc; exact hc); exact ⟨rfl, .fn f⟩⟩
  | gl g => exact ⟨rfl, fun c hc hc' => by obtain rfl : c = 0 := (by simp [AV.cells] at hc; exact hc); exact ⟨rfl, .gl g⟩⟩
  | nilfn => exact ⟨rfl, fun c hc hc' => by obtain rfl : c = 0 := (by simp [AV.cells] at hc; exact hc); exact ⟨rfl, .nilfn⟩⟩
  | ref i off t ht => exact ⟨rfl, fun c hc hc' => by obtain rfl : c = 0 := (by simp [AV.cells] at hc; exact hc); exact ⟨rfl, .ref i off t ht⟩⟩
  | hsl i k e sz m cap ad t ht hz hc ha => exact ⟨rfl, fun c hcc hcc' => by obtain rfl : c = 0 := (by simp [AV.cells] at hcc; exact hcc); exact ⟨rfl, .hsl i k e sz m cap ad t ht hz hc ha⟩⟩
  | sen b off cs e hp hh => exact ⟨rfl, fun c hcc hcc' => by obtain rfl : c = 0 := (by simp [AV.cells] at hcc; exact hcc); exact ⟨rfl, .sen b off cs e hp hh⟩⟩

theorem foldl_set (off : Nat) : ∀ (l : List Value) (k : Nat) (cs : Array Value) (i : Nat),
    ((l.zipIdx k).foldl (fun cs (c, j) => cs.setIfInBounds (off + j) c) cs).size = cs.size ∧
    (off + k + l.length ≤ cs.size → ((l.zipIdx k).foldl (fun cs (c, j) => cs.setIfInBounds (off + j) c) cs)[i]? = if off + k ≤ i ∧ i < off + k + l.length then l[i - (off + k)]? else cs[i]?) := by
  intro l
  induction l with
  | nil => intro k cs i; refine ⟨rfl, fun _ => ?_⟩; simp only [List.zipIdx_nil, List.foldl_nil, List.length_nil, Nat.add_zero]; rw [if_neg (by omega)]
  | cons v l ih =>
    intro k cs i
    simp only [List.zipIdx_cons, List.foldl_cons]
    obtain ⟨h1, h2⟩ := ih (k + 1) (cs.setIfInBounds (off + k) v) i
    refine ⟨by rw [h1]; simp, fun hle => ?_⟩
    simp only [List.length_cons] at hle
    rw [h2 (by simp; omega)]
    by_cases hi : i = off + k
    · subst hi
      rw [if_neg (by omega), if_pos (by simp only [List.length_cons]; omega)]
      have : off + k < cs.size := by omega
      simp [this]
    · rw [Array.getElem?_setIfInBounds_ne (Ne.symm hi)]
      by_cases hr : off + k ≤ i ∧ i < off + k + (v :: l).length
      · simp only [List.length_cons] at hr
        rw [if_pos (by omega), if_pos (by simp only [List.length_cons]; omega)]
        rw [show i - (off + k) = (i - (off + (k + 1))) + 1 by omega]
        simp
      · simp only [List.length_cons] at hr
        rw [if_neg (by omega), if_neg (by simp only [List.length_cons]; omega)]

theorem splice_length {xs ys : List AV} {i : Nat} (h : i + ys.length ≤ xs.length) : (splice xs i ys).length = xs.length := by
  unfold splice; simp; omega
theorem splice_get {xs ys : List AV} {off : Nat} (h : off + ys.length ≤ xs.length) (i : Nat) : (splice xs off ys)[i]? = if off ≤ i ∧ i < off + ys.length then ys[i - off]? else xs[i]? := by
  unfold splice
  have hto : (xs.take off).length = off := by simp; omega
  by_cases h1 : i < off
  · rw [if_neg (by omega), List.append_assoc, List.getElem?_append_left (by rw [hto]; exact h1), List.getElem?_take_of_lt h1]
  · by_cases h2 : i < off + ys.length
    · rw [if_pos (by omega), List.getElem?_append_left (by rw [List.length_append, hto]; exact h2), List.getElem?_append_right (by rw [hto]; omega), hto]
    · rw [if_neg (by omega), List.getElem?_append_right (by rw [List.length_append, hto]; omega), List.length_append, hto, List.getElem?_drop]
      congr 1; omega

theorem RowR.splice {Fr : FT} {cs ys : List AV} {vs us : Array Value} (h : RowR w Fr cs vs) (k : RowR w Fr ys us) {off : Nat} (hle : off + ys.length ≤ cs.length) {rs : Array Value}
    (hsz : rs.size = vs.size) (hrs : ∀ i, rs[i]? = if off ≤ i ∧ i < off + us.size then us[i - off]? else vs[i]?) : RowR w Fr (splice cs off ys) rs := by
  refine ⟨by rw [hsz, h.1, splice_length hle], fun c hc hc' => ?_⟩
  have hsp := splice_get hle c
  have hr := hrs c
  rw [List.getElem?_eq_getElem hc] at hsp
  rw [Array.getElem?_eq_getElem hc'] at hr
  have hk1 := k.1
  by_cases hin : off ≤ c ∧ c < off + ys.length
  · rw [if_pos hin] at hsp; rw [if_pos (by omega)] at hr
    have hl : c - off < ys.length := by omega
    have hl' : c - off < us.size := by omega
    rw [List.getElem?_eq_getElem hl] at hsp; rw [Array.getElem?_eq_getElem hl'] at hr
    injection hsp with hsp; injection hr with hr
    rw [hsp, hr]; exact k.2 _ hl hl'
  · rw [if_neg hin] at hsp; rw [if_neg (by omega)] at hr
    have hl : c < cs.length := by rw [splice_length hle] at hc; exact hc
    have hl' : c < vs.size := by omega
    rw [List.getElem?_eq_getElem hl] at hsp; rw [Array.getElem?_eq_getElem hl'] at hr
    injection hsp with hsp; injection hr with hr
    rw [hsp, hr]; exact h.2 _ hl hl'

theorem fill_sound {place : Nat → Option (Nat × Nat × Bool)} : ∀ {parts : List (Nat × Operand)} {ps : List (Nat × Nat × AX)} {cs : List AV} {vs : Array Value} {st : St} {G : Gh} {k : List AV → St → T β} {R : β → Prop},
    pParts place parts = some ps → (fillK ps cs st k).All R → SR w0 F0 A n st a w G → RowR w G.Fr cs vs →
    ∃ cs' vs' st' G', (k cs' st').All R ∧ SR w0 F0 A n st' a w G' ∧ RowR w G'.Fr cs' vs' ∧ cs'.length = cs.length ∧ G'.β = G.β ∧ Ext w G.Fr w G'.Fr ∧ Less st st' ∧
      Instr.fill (fun i => (place i).map fun q => (q.1, q.2.1)) vs (parts.map fun (i, x) => (i, a.eval x)) = some vs'
  | [], ps, cs, vs, st, G, k, R, hp, hk, h, hr => by
    simp only [pParts, Option.some.injEq] at hp; subst hp
    exact ⟨cs, vs, st, G, hk, h, hr, rfl, rfl, Ext.refl _ _, Less.refl _, rfl⟩
  | (i, x) :: parts, ps, cs, vs, st, G, k, R, hp, hk, h, hr => by
    simp only [pParts, Option.bind_eq_some_iff, Option.map_eq_some_iff] at hp
    obtain ⟨⟨off, m, ow⟩, hpl, ax, hax, l, hl, rfl⟩ := hp
    simp only [fillK, T.All_on] at hk
    obtain ⟨cs1, hf, hk⟩ := hk
    unfold fillV at hf
    split at hf
    · rename_i hcond
      injection hf with hf; subst hf
      simp only [Bool.and_eq_true, beq_iff_eq, decide_eq_true_eq] at hcond
      obtain ⟨⟨hpl1, hlen⟩, hle⟩ := hcond
      obtain ⟨G1, g1, g2, g3, g4, g5⟩ := h.giveX hax
      have hsev : (give st ax).1.several = false := by cases hgv : (give st ax).1 <;> first | rfl | (rw [hgv] at hpl1; simp [AV.plain] at hpl1)
      have hT := g5 hsev (fun _ => .mid)
      have hno : (give st ax).1.isOwn = false := by
        cases ax with
        | t t => show (gvV (st.s t)).isOwn = false; cases st.s t <;> first | rfl | (rename_i c _ _ _; cases c <;> rfl)
        | u t => show (gvV (st.s t)).isOwn = false; cases st.s t <;> first | rfl | (rename_i c _ _ _; cases c <;> rfl)
        | f t =>
          unfold give; simp only; split
          · unfold frz; repeat (first | rfl | split)
          · cases st.s t <;> first | rfl | (rename_i c _ _ _; cases c <;> rfl)
        | m t =>
          show (pin st t).1.isOwn = false
          unfold pin; split
          · rfl
          · cases st.s t <;> first | rfl | (rename_i c _ _ _; cases c <;> rfl)
        | p t => show (hdV (st.s t)).isOwn = false; cases st.s t <;> first | rfl | (rename_i c _ _ _; cases c <;> rfl)
        | c v =>
          have := const_CR (Fr := G.Fr) (w := w) (a := a) hax
          show v.isOwn = false
          cases v <;> first | rfl | (rename_i c _ _ _; cases c <;> first | rfl | cases this)
      have hC := CR_of_TC (TC_of_TR hT hpl1) hno
      have hrow := cells_RowR hC
      have hvlen : (a.eval x).cells.size = m := by rw [hrow.1, hlen]
      obtain ⟨f1, f2⟩ := foldl_set off (a.eval x).cells.toList 0 vs 0
      have hvs : off + 0 + (a.eval x).cells.toList.length ≤ vs.size := by rw [hr.1, Array.length_toList, hvlen]; simpa using hle
      obtain ⟨cs', vs', st', G', e1, e2, e3, e4, e6, e7, e8, e5⟩ := fill_sound (vs := ((a.eval x).cells.toList.zipIdx 0).foldl (fun cs (c, j) => cs.setIfInBounds (off + j) c) vs) hl hk g1
        ((hr.ext g4).splice hrow (by rw [hlen]; exact hle) f1 (fun i => by
          have := (foldl_set off (a.eval x).cells.toList 0 vs i).2 hvs
          rw [this]; simp only [Nat.add_zero, Array.length_toList, Array.getElem?_toList]))
      refine ⟨cs', vs', st', G', e1, e2, e3, by rw [e4, splice_length (by rw [hlen]; exact hle)], e6.trans g3, g4.trans e7, (give_less _ _).trans e8, ?_⟩
      simp only [List.map_cons, Instr.fill, hpl, Option.map_some]
      have hcond2 : ¬ (((a.eval x).cells.size ≠ m) || decide (off + (a.eval x).cells.size > vs.size)) = true := by
        rw [hvlen, hr.1]; simp; omega
      rw [if_neg (by simpa using hcond2)]
      rw [← Array.foldl_toList, Array.toList_zipIdx]
      exact e5
    · cases hf

end Go.Proofs.YticoldgiebmmgaaGreatDoor.Abs

/- The machine's runs of the operations that make or write memory. -/
namespace Go.Proofs.YticoldgiebmmgaaGreatDoor.Abs
set_option linter.all false
set_option linter.unusedVariables false

variable {P : Program} {w w' : World} {G G' : Gh} {a : Act} {o : Oper}
variable {w0 : World} {F0 : FT} {A : Nat → Prop} {n : Nat} {st : St} {β : Type}

theorem tzero_inv {t : TypeId} {z : AV} (h : tzero P t = some z) : ∃ i v, P.info? t = some i ∧ i.zero = some v ∧ ofConst v = some z := by
  simp only [tzero, Option.bind_eq_some_iff] at h
  obtain ⟨v, ⟨i, hi, hv⟩, hz⟩ := h
  exact ⟨i, v, hi, hv, hz⟩

theorem run_newVar (t : TypeId) (v : Value) (w : World) : (newVar t v).run P w = .ok ⟨w.heap.size, 0, none⟩ (w.alloc (.cells v.cells t)) := by
  simp [newVar, newRow, World.alloc, -World.alloc_eq]

theorem runs_alloc {t : TypeId} (ho : o.op = .alloc t) {i : TypeInfo} {v : Value} (hi : P.info? t = some i) (hv : i.zero = some v) :
    Runs P o a w (.pointer (some ⟨w.heap.size, 0, none⟩)) (w.alloc (.cells v.cells t)) := by
  simp only [Runs, execOp, ho, Instr.alloc, zeroValue, typeInfo, Sem.run_bind, run_program, Result.andThen_ok, hi, Sem.run_pure, hv, run_newVar]

theorem runs_box {t : TypeId} {x : Operand} (ho : o.op = .box t x) : Runs P o a w (.pointer (some ⟨w.heap.size, 0, none⟩)) (w.alloc (.cells (a.eval x).cells t)) := by
  simp only [Runs, execOp, ho, Instr.box, Sem.run_bind, run_newVar, Result.andThen_ok, Sem.run_pure]

theorem run_places {fs : List Field} : ∀ {pl : List (Nat × Nat × Bool)}, placesOf P fs = some pl → ∀ w : World,
    (fs.mapM (fun f => do pure (f.offset, ← sizeOf f.type) : Field → Sem (Nat × Nat))).run P w = .ok (pl.map fun q => (q.1, q.2.1)) w := by
  induction fs with
  | nil => intro pl h w; simp [placesOf] at h; subst h; simp
  | cons f r ih =>
    intro pl h w
    simp only [placesOf, Option.bind_eq_some_iff, Option.map_eq_some_iff] at h
    obtain ⟨m, hm, l, hl, rfl⟩ := h
    have := ih hl w
    simp only [List.mapM_cons, Sem.run_bind, run_sizeOf' hm, Result.andThen_ok, Sem.run_pure, this]
    simp

theorem runs_build {t : TypeId} {parts : Array (Nat × Operand)} (ho : o.op = .build t parts) {i : TypeInfo} {v : Value} (hi : P.info? t = some i) (hv : i.zero = some v) {pl : List (Nat × Nat × Bool)} (hpl : tplaces P t = some pl)
    {vs' : Array Value} (hf : Instr.fill (fun i => (pl[i]?).map fun q => (q.1, q.2.1)) v.cells (parts.toList.map fun (i, x) => (i, a.eval x)) = some vs') (w : World) :
    Runs P o a w (.agg vs') w := by
  unfold tplaces at hpl
  split at hpl
  · rename_i fs hu
    have hm := run_places (P := P) hpl w
    have hm' : (fs.mapM (fun f => do pure (f.offset, ← sizeOf f.type) : Field → Sem (Nat × Nat))).run P w = .ok (pl.map fun q => (q.1, q.2.1)).toArray w := by
      rw [Array.mapM_eq_mapM_toList, Sem.run_map, hm]; rfl
    have hfun : ((pl.map fun q => (q.1, q.2.1)).toArray[·]? : Nat → Option (Nat × Nat)) = fun i => (pl[i]?).map fun q => (q.1, q.2.1) := by
      funext i; simp
    have hparts : (parts.map fun (i, x) => (i, a.eval x)).toList = parts.toList.map fun (i, x) => (i, a.eval x) := by simp
    simp only [Runs, execOp, ho, Instr.build, zeroValue, typeInfo, Sem.run_bind, run_program, Result.andThen_ok, hi, Sem.run_pure, hv, run_underlying hu, hm', hfun, hparts, hf]
  · cases hpl

theorem repCells_get {k : Nat} {z : List AV} (hz : 0 < z.length) : (repCells k z).length = k * z.length ∧ ∀ i, i < k * z.length → (repCells k z)[i]? = z[i % z.length]? := by
  induction k with
  | zero => refine ⟨by simp [repCells], fun i hi => absurd hi (by simp)⟩
  | succ k ih =>
    have hs : repCells (k + 1) z = z ++ repCells k z := by simp [repCells, List.replicate_succ]
    rw [hs]
    refine ⟨by rw [List.length_append, ih.1, Nat.succ_mul, Nat.add_comm], fun i hi => ?_⟩
    by_cases h : i < z.length
    · rw [List.getElem?_append_left h, Nat.mod_eq_of_lt h]
    · rw [List.getElem?_append_right (by omega), ih.2 _ (by rw [Nat.succ_mul] at hi; omega)]
      congr 1
      rw [Nat.mod_eq_sub_mod (a := i) (by omega)]

theorem zeros_RowR {Fr : FT} {k sz : Nat} {z : List AV} {zv : Array Value} (h : RowR w Fr z zv) (hl : z.length = sz) (hsz : 0 < sz) :
    RowR w Fr (repCells k z) ((Array.range (k * sz)).map (zv[· % zv.size]!)) := by
  obtain ⟨h1, h2⟩ := repCells_get (k := k) (z := z) (by omega)
  have hzs := h.1
  refine ⟨by simp [h1, hl], fun c hc hc' => ?_⟩
  have hck : c < k * z.length := by rw [← h1]; exact hc
  have hm : c % z.length < z.length := Nat.mod_lt _ (by omega)
  have e1 := h2 c hck
  rw [List.getElem?_eq_getElem hc, List.getElem?_eq_getElem hm] at e1
  injection e1 with e1
  have hm' : c % zv.size < zv.size := by rw [hzs]; exact hm
  have e2 : ((Array.range (k * sz)).map (zv[· % zv.size]!))[c] = zv[c % zv.size] := by simp [hm']
  rw [e1, e2]
  have := h.2 (c % z.length) hm (by omega)
  simpa [hzs] using this

theorem runs_buildSlice {t e : TypeId} {len sz by' : Nat} {parts : Array (Nat × Operand)} (ho : o.op = .buildSlice t len parts) (ht : telem P t = some (e, sz, by')) {i : TypeInfo} {v : Value} (hi : P.info? e = some i) (hv : i.zero = some v)
    (hsmall : len * sz ≤ 65536) {vs' : Array Value} (hf : Instr.fill (fun i => some (i * sz, sz)) ((Array.range (len * sz)).map (v.cells[· % v.cells.size]!)) (parts.toList.map fun (i, x) => (i, a.eval x)) = some vs') (w : World) :
    Runs P o a w (.slice (some ⟨w.heap.size, 0, none⟩) len len) (w.alloc (.cells vs' e)) := by
  obtain ⟨hu, i', z', hi', hz', hs', _, _, hpos⟩ := telem_inv ht
  rw [hi] at hi'; injection hi' with hi'; subst hi'
  rw [hv] at hz'; injection hz' with hz'; subst hz'
  subst hs'
  have hparts : (parts.map fun (i, x) => (i, a.eval x)).toList = parts.toList.map fun (i, x) => (i, a.eval x) := by simp
  by_cases h0 : len * i.size = 0
  · have hlen : len = 0 := by rcases Nat.mul_eq_zero.1 h0 with h | h; { exact h }; { omega }
    subst hlen
    have hr : (Instr.buildSlice t 0 (parts.map fun (i, x) => (i, a.eval x))).run P w = .ok (.slice (some ⟨w.heap.size, 0, none⟩) 0 0) (w.alloc (.cells vs' e)) := by
      have he : (Array.range (0 * i.size)).map (v.cells[· % v.cells.size]!) = #[] := by apply Array.eq_empty_of_size_eq_zero; simp
      rw [he] at hf
      have he2 : (Array.range (0 * i.size)).map (fun x => (#[] : Array Value)[x % (#[] : Array Value).size]!) = #[] := by apply Array.eq_empty_of_size_eq_zero; simp
      unfold Instr.buildSlice
      simp only [Sem.run_bind, run_underlying hu, Result.andThen_ok, run_sizeOf' (show tsize P e = some i.size by simp [tsize, hi])]
      rw [if_neg (by omega)]
      simp only [Sem.run_bind, Sem.run_pure, Result.andThen_ok, if_pos h0, he2, hparts, hf]
      rfl
    simp only [Runs, execOp, ho, Sem.run_bind, hr, Result.andThen_ok, Sem.run_pure]
  · have hr := run_buildSlice (P := P) w t e len (parts.map fun (i, x) => (i, a.eval x)) vs' i v hu hi hv (by omega) h0 (by rw [hparts]; exact hf)
    simp only [Runs, execOp, ho, Sem.run_bind, hr, Result.andThen_ok, Sem.run_pure]

end Go.Proofs.YticoldgiebmmgaaGreatDoor.Abs
