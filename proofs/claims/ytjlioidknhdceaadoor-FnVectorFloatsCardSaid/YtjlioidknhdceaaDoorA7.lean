/- What single operations give, and what the machine does: the pure ones. -/
import Derived.Test.YtjlioidknhdceaaDoorA6
import Derived.Laws.BytesString
namespace Go.Proofs.YtjlioidknhdceaaDoor.Abs
set_option linter.all false

variable {P : Program} {w : World} {G : Gh} {p : Nat → Pos}

/-! ### What a reading says of the value -/
theorem TR_bool {b : Bool} {v : Value} (h : TR w G p (.bool b) v) : v = .bool b := by cases CR_of_TC (TC_of_TR h rfl) rfl; rfl
theorem TR_int {k : IntKind} {n : Int} {v : Value} (h : TR w G p (.int k n) v) : v = .int k n := by cases CR_of_TC (TC_of_TR h rfl) rfl; rfl
theorem TR_str {l : List UInt8} {v : Value} (h : TR w G p (.str l) v) : ∃ s : ByteArray, v = .string s ∧ s.data.toList = l := by
  cases CR_of_TC (TC_of_TR h rfl) rfl; exact ⟨_, rfl, by assumption⟩
theorem TR_nilptr {v : Value} (h : TR w G p .nilptr v) : v = .pointer none := by cases CR_of_TC (TC_of_TR h rfl) rfl; rfl
theorem TR_nilI {v : Value} (h : TR w G p .nilI v) : v = .nilIface := by cases CR_of_TC (TC_of_TR h rfl) rfl; rfl
theorem TR_iface {t : TypeId} {x : AV} {v : Value} (h : TR w G p (.iface t x) v) : ∃ u, v = .iface t u ∧ CR w G.Fr x u := by
  cases CR_of_TC (TC_of_TR h rfl) rfl; exact ⟨_, rfl, by assumption⟩
theorem TR_fn {f : FuncId} {v : Value} (h : TR w G p (.fn f) v) : v = .func (.func f) #[] #[] := by cases CR_of_TC (TC_of_TR h rfl) rfl; rfl
theorem TR_gl {g : Nat} {v : Value} (h : TR w G p (.gl g) v) : v = .pointer (some ⟨g, 0, none⟩) := by cases CR_of_TC (TC_of_TR h rfl) rfl; rfl
theorem TR_ptr {s : K} {off : Nat} {v : Value} (h : TR w G p (.ptr s off) v) : ∃ t, G.at s = some t ∧ v = .pointer (some ⟨t.b, off, none⟩) := by
  cases s with
  | loc s => exact h
  | obj i => cases CR_of_TC (TC_of_TR h rfl) rfl; exact ⟨_, by assumption, rfl⟩
theorem TR_hsl {i k e sz n : Nat} {v : Value} (h : TR w G p (.hsl i k e sz n) v) : ∃ cap a t, G.at (.obj i) = some t ∧ v = .slice (some a) n cap ∧ 0 < sz ∧ n ≤ cap ∧ (k = 0 ∨ 0 < n → a = ⟨t.b, k, none⟩ ∧ (t.r = true → k + cap * sz = t.N)) := by
  cases CR_of_TC (TC_of_TR h rfl) rfl
  exact ⟨_, _, _, by assumption, rfl, by assumption, by assumption, by assumption⟩
theorem TR_agg {xs : List AV} {v : Value} (h : TR w G p (.agg xs) v) : ∃ vs : Array Value, v = .agg vs ∧ CR w G.Fr (.agg xs) (.agg vs) := by
  have := CR_of_TC (TC_of_TR h rfl) rfl
  cases this; exact ⟨_, rfl, by constructor <;> assumption⟩

theorem TR_slice {c : Cls} {e sz : Nat} {xs : List AV} {v : Value} (h : TR w G p (.slice c e sz xs) v) :
    ∃ o n cap, v = .slice o n cap ∧ n = xs.length / sz ∧ (c = .nil → v = .slice none 0 0 ∧ xs = []) ∧ (c ≠ .nil → o.isSome = true ∧ 0 < sz ∧ xs.length = n * sz) := by
  have h' := TC_of_TR h rfl
  cases c with
  | nil => cases (show CR w G.Fr _ _ from h'); exact ⟨none, 0, 0, rfl, by simp, fun _ => ⟨rfl, rfl⟩, fun h => absurd rfl h⟩
  | frz => cases (show CR w G.Fr _ _ from h') with
    | frz e sz n cap a xs vs hs hz hl hc hp hv ho hr => exact ⟨some a, n, cap, rfl, by rw [hl, Nat.mul_div_cancel _ hz], (fun h => by cases h), fun _ => ⟨rfl, hz, hl⟩⟩
  | hdr => cases (show CR w G.Fr _ _ from h') with
    | hdr e sz n cap a xs hz hl hc => exact ⟨some a, n, cap, rfl, by rw [hl, Nat.mul_div_cancel _ hz], (fun h => by cases h), fun _ => ⟨rfl, hz, hl⟩⟩
  | own f =>
    obtain ⟨b, _, n, vs, ho, hob, hz, hl, _⟩ := h'
    rcases ho.2 with ⟨rfl, _⟩ | ⟨g, cap, cur, rfl, _⟩
    · simp [Value.ownBlock] at hob
    · have := ho.1; rw [hl] at this
      exact ⟨_, n, cap, rfl, by rw [this, Nat.mul_div_cancel _ hz], (fun h => by cases h), fun _ => ⟨rfl, hz, this⟩⟩

theorem TR_cells {c : Cls} {e sz : Nat} {xs : List AV} {o : Option Addr} {n cap : Nat} (h : TR w G p (.slice c e sz xs) (.slice o n cap)) (hc : c ≠ .hdr) :
    (c = .nil ∧ o = none ∧ n = 0 ∧ xs = []) ∨ ∃ (a : Addr) (vs : Nat → Value), o = some a ∧ (0 < xs.length → a.spot = none) ∧ (∀ i, i < xs.length → w.cell? ⟨a.block, a.off + i, none⟩ = some (vs i)) ∧
      (∀ i, i < xs.length → (vs i).oneCell' = true) ∧ (∀ i (h : i < xs.length), CR w G.Fr xs[i] (vs i)) ∧ 0 < sz ∧ xs.length = n * sz := by
  have h' := TC_of_TR h rfl
  cases c with
  | nil => cases (show CR w G.Fr _ _ from h'); exact .inl ⟨rfl, rfl, rfl, rfl⟩
  | frz => cases (show CR w G.Fr _ _ from h') with
    | frz e sz n cap a xs vs hs hz hl hc hp hv ho hr => exact .inr ⟨a, vs, rfl, hs, hv, ho, hr, hz, hl⟩
  | hdr => exact absurd rfl hc
  | own f =>
    obtain ⟨b, _, hO⟩ := h'
    have hz : 0 < sz := by obtain ⟨_, _, _, _, hz, _⟩ := hO; exact hz
    obtain ⟨n', vs', ho', hob', _, hl', hcc, _, _⟩ := hO
    rcases ho'.2 with ⟨h0, _⟩ | ⟨g, cap', cur, h0, _⟩
    · rw [h0] at hob'; simp [Value.ownBlock] at hob'
    · have hgb : g = b := by rw [h0] at hob'; simpa [Value.ownBlock] using hob'
      injection h0 with h1 h2 h3
      subst h1; subst h2; subst h3
      refine .inr ⟨⟨g, 0, none⟩, fun i => vs'.getD i undef, rfl, fun _ => rfl, fun i hi => ?_, fun i hi => ?_, fun i hi => ?_, hz, by rw [← hl']; exact ho'.1⟩
      · have hi' : i < vs'.length := by omega
        have := ho'.cells (g := g) (by simp [Value.ownBlock]) i (vs'.getD i undef) (by simp [List.getElem?_eq_getElem hi', List.getD])
        rw [show (⟨(⟨g, 0, none⟩ : Addr).block, (⟨g, 0, none⟩ : Addr).off + i, none⟩ : Addr) = (⟨g, 0, none⟩ : Addr).add i from by unfold Addr.add; split <;> simp_all]
        exact this
      · have hi' : i < vs'.length := by omega
        simpa [List.getD, List.getElem?_eq_getElem hi'] using (hcc i hi hi').1
      · have hi' : i < vs'.length := by omega
        simpa [List.getD, List.getElem?_eq_getElem hi'] using (hcc i hi hi').2

theorem TR_eptr {xs : List AV} {v : Value} (h : TR w G p (.eptr xs) v) : ∃ a, v = .pointer (some a) ∧ CR w G.Fr (.eptr xs) (.pointer (some a)) := by
  have := CR_of_TC (TC_of_TR h rfl) rfl
  cases this; exact ⟨_, rfl, by constructor <;> assumption⟩

/-! ### The machine's runs -/
variable {a : Act} {o : Oper}
def Runs (P : Program) (o : Oper) (a : Act) (w : World) (v : Value) (w' : World) : Prop := (execOp a.eval o).run P w = .ok (.value v) w'

theorem Runs.wp {v : Value} {w' : World} {next : Act → World → Prop} {Q : Exit → Act → World → Prop} (h : Runs P o a w v w') (hn : next (a.put o.dst v) w') : o.wp P a w next Q := by
  unfold Oper.wp; rw [show (execOp a.eval o).run P w = .ok (.value v) w' from h]; exact hn

theorem runs_move {x : Operand} (ho : o.op = .move x) : Runs P o a w (a.eval x) w := by simp [Runs, execOp, ho]
theorem runs_assign {x : Operand} (ho : o.op = .assign x) : Runs P o a w (a.eval x) w := by simp [Runs, execOp, ho]
theorem runs_pick {c x y : Operand} (ho : o.op = .pick c x y) {b : Bool} (hc : a.eval c = .bool b) : Runs P o a w (if b then a.eval x else a.eval y) w := by
  simp [Runs, execOp, ho, hc, asBool]
theorem runs_nilCheck {x : Operand} (ho : o.op = .nilCheck x) {v : Value} (hx : a.eval x = v) (hv : (∃ ad, v = .pointer (some ad)) ∨ ∃ f, v = .func (.func f) #[] #[]) : Runs P o a w v w := by
  rcases hv with ⟨ad, rfl⟩ | ⟨f, rfl⟩ <;> simp [Runs, execOp, ho, hx]
theorem runs_un {op : UnOp} {t : TypeId} {x : Operand} (ho : o.op = .unOp op t x) {y : AV} {r : AV} (hy : TR w G p y (a.eval x)) (hr : aUn op y = some r) : ∃ v, CR w G.Fr r v ∧ ∀ w', Runs P o a w' v w' := by
  cases op with
  | neg => cases y with
    | int k n => simp [aUn] at hr; subst hr; exact ⟨_, .int _ _, fun w' => by simp [Runs, execOp, ho, TR_int hy, Op.unary, Op.intArith, Int.zero_sub]⟩
    | _ => simp [aUn] at hr
  | xor => cases y with
    | int k n => simp [aUn, aInt] at hr; subst hr; exact ⟨_, .int _ _, fun w' => by simp [Runs, execOp, ho, TR_int hy, Op.unary, Op.intBits]⟩
    | _ => simp [aUn] at hr
  | not => cases y with
    | bool b => simp [aUn] at hr; subst hr; exact ⟨_, .bool _, fun w' => by simp [Runs, execOp, ho, TR_bool hy, Op.unary]⟩
    | _ => simp [aUn] at hr
  | plus => simp [aUn] at hr

theorem run_aInt {op : BinOp} {k : IntKind} {x y : Int} {r : AV} (h : aInt op k x y = some r) (hs : op ≠ .shl ∧ op ≠ .shr) : ∃ v, CR w G.Fr r v ∧ ∀ t w', (binOp op t (.int k x) (.int k y)).run P w' = .ok v w' := by
  cases op <;> simp [aInt] at h hs <;> first
    | (subst h; exact ⟨_, .int _ _, fun t w' => by simp [binOp, Op.intArith, Op.intBits]⟩)
    | (subst h; exact ⟨_, .bool _, fun t w' => by simp [binOp, Op.intCmp]⟩)
    | (obtain ⟨h0, rfl⟩ := h; exact ⟨_, .int _ _, fun t w' => by simp [binOp, Op.intDiv, h0]⟩)

theorem run_aShift {op : BinOp} {k k' : IntKind} {x y : Int} {r : AV} (h : aShift op k x y = some r) : ∃ v, CR w G.Fr r v ∧ ∀ t w', (binOp op t (.int k x) (.int k' y)).run P w' = .ok v w' := by
  unfold aShift at h
  split at h
  · cases h
  · rename_i hy
    cases op <;> simp at h
    all_goals (subst h; exact ⟨_, .int _ _, fun t w' => by simp [binOp, Op.shift, hy]⟩)

theorem toList_eq (s : ByteArray) : s.toList = s.data.toList := by
  exact ByteArray.toList_eq s

end Go.Proofs.YtjlioidknhdceaaDoor.Abs
