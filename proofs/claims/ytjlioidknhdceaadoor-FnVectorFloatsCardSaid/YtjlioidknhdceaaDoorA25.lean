/- From the interpreter's word to a law. -/
import Derived.Test.YtjlioidknhdceaaDoorA24
import Derived.Below
import Derived.Carry
import Derived.ChangeShapes
namespace Go.Proofs.YtjlioidknhdceaaDoor.Abs
set_option linter.all false
set_option linter.unusedVariables false
open Go.RowKit

variable {H : Type} {enc : TypeId × Value → H} {P : Program} {W : World}

def FitsAll (P : Program) : List TypeId → List AV → Prop
  | [], xs => xs = []
  | t :: ts, xs => ∃ x r, xs = x :: r ∧ FitsV P t x ∧ FitsAll P ts r

theorem args_read {T : List TypeId} (hT : closedB P T = true) {base : Nat} : ∀ {ts : List TypeId} {vs : List Value} {ds : List (DataW H)} {ps : List MemPlace}, (∀ t ∈ ts, t ∈ T) →
    DataW.TrodAll enc P W 0 (fun _ => true) true ts vs ds ps → (∀ (j : Nat) t v, ts[j]? = some t → vs[j]? = some v → Value.okWide P W .any base t v) → (∀ n ∈ DataW.weightsEach P ts ds, n ≤ reachBytes) →
    ∃ xs, xs.length = vs.length ∧ FitsAll P ts xs ∧ ∀ i (h : i < xs.length) (h' : i < vs.length), CR W ⟨allF W, fun _ => none⟩ xs[i] vs[i] := by
  intro ts
  induction ts with
  | nil =>
    intro vs ds ps _ h _ _
    cases vs with
    | nil => exact ⟨[], rfl, rfl, fun i h => absurd h (by simp)⟩
    | cons v vs => simp [DataW.TrodAll] at h
  | cons t ts ih =>
    intro vs ds ps hts h hok hz
    obtain ⟨v, vs', d, ds', p, q, rfl, rfl, rfl, h1, h2⟩ := ChangeShapes.trodAll_cons h
    simp only [DataW.weightsEach, List.mem_append] at hz
    obtain ⟨x, hx1, hx2⟩ := arg_sound (F := ⟨allF W, fun _ => none⟩) (fun b o v h => allF_lt h) hT (hts t List.mem_cons_self) (hok 0 t v rfl rfl) h1 (fun n hn => hz n (.inl hn))
    obtain ⟨xs, h3, h4, h5⟩ := ih (fun t ht => hts t (List.mem_cons_of_mem _ ht)) h2 (fun j t' v' hj hv => hok (j + 1) t' v' (by simpa using hj) (by simpa using hv)) (fun n hn => hz n (.inr hn))
    refine ⟨x :: xs, by simp [h3], ⟨x, xs, rfl, hx2, h4⟩, fun i hi hi' => ?_⟩
    cases i with
    | zero => exact hx1
    | succ i => exact h5 i (by simpa using hi) (by simpa using hi')

theorem trodAll_below (hl : laidOutB P = true) {W' : World} (hb : Below W.heap.size W W') : ∀ {ts : List TypeId} {vs : List Value} {ds : List (DataW H)} {ps : List MemPlace}, (ts.all fun t => P.readableRec t && decide (t < P.types.size)) = true →
    DataW.TrodAll enc P W 0 (fun _ => true) true ts vs ds ps → (∀ x ∈ ps, x.block < W.heap.size) → DataW.TrodAll enc P W' 0 (fun b => decide (b < W.heap.size)) true ts vs ds ps := by
  intro ts
  induction ts with
  | nil =>
    intro vs ds ps _ h _
    cases vs <;> cases ds <;> first | exact h | simp [DataW.TrodAll] at h
  | cons t ts ih =>
    intro vs ds ps hts h hlt
    obtain ⟨v, vs', d, ds', p, q, rfl, rfl, rfl, h1, h2⟩ := ChangeShapes.trodAll_cons h
    rw [List.all_cons, Bool.and_eq_true] at hts
    obtain ⟨ht, hts⟩ := hts
    simp only [Bool.and_eq_true, decide_eq_true_eq] at ht
    exact ⟨p, q, RowKit.Below.trod hl ht.1 ht.2 h1 hb (fun x hx => hlt x (List.mem_append_left _ hx)), ih hts h2 (fun x hx => hlt x (List.mem_append_right _ hx)), rfl⟩

theorem law_calls {sg : FuncId → Nat → Nat} {fns : FuncId → Option AFunc} (hfn : FnsOk P sg fns) (hm : P.follows .mixedOrders = true) {T : List TypeId} (hT : closedB P T = true) {f : FuncId} {fn : Func} (hf : P.funcs[f]? = some fn)
    {base : Nat} {args : Array Value} {ds : List (DataW H)} {ps : List MemPlace} (hts : ∀ t ∈ fn.params.toList, t ∈ T) (hA : DataW.TrodAll enc P W 0 (fun _ => true) true fn.params.toList args.toList ds ps)
    (hok : ∀ (j : Nat) t v, fn.params[j]? = some t → args[j]? = some v → Value.okWide P W .any base t v) (hz : (DataW.weightsEach P (fn.params.toList ++ []) (ds ++ [])).all (· ≤ reachBytes) = true) {Γ : Nat → Option (List AV)} (hΓ : ∀ g xs, Γ g = some xs → CR W ⟨allF W, fun _ => none⟩ (.eptr xs) (.pointer (some ⟨g, 0, none⟩)))
    (hlaw : ∀ xs, FitsAll P fn.params.toList xs → CW fns f xs ⟨0, [], Γ⟩ fun q => q.1 = .bool true) :
    Calls P f args W fun e W' => e = .returned (.bool true) ∧ Below W.heap.size W W' := by
  obtain ⟨xs, h1, h2, h3⟩ := args_read hT hts hA (fun j t v hj hv => hok j t v (by simpa using hj) (by simpa using hv)) (by simpa using hz)
  obtain ⟨m, hcall⟩ := hlaw xs h2
  cases m with
  | zero => exact hcall.elim
  | succ m =>
    obtain ⟨ihc, ihl⟩ := calls_sound hfn hm m
    have ihl' : LoopOk P sg (loopN fns m) := fun hc _ _ hl _ _ _ h => wp_loop_rounds m (ihl hc hl h)
    simp only [callN, Abs.T.All_on] at hcall
    obtain ⟨af, haf, hcall⟩ := hcall
    split at hcall
    · rename_i hle
      obtain ⟨fn', hf', _, ⟨hs, hpf⟩, hxo⟩ := hfn f af haf
      have hsz : args.size = xs.length := by rw [h1]; simp
      refine (entered_sound ihc ihl' hm hf' hpf hxo hle hcall (w := W) (G := ⟨⟨allF W, fun _ => none⟩, fun _ => none, fun _ => .free⟩) hsz (fun i hi hi' => ?_) ⟨fun i ob hi => absurd hi (by simp [Abs.H.get, Option.join]), fun _ _ => rfl, hΓ⟩ (fun b hb => by cases hb) (allF_new W)).mono ?_
      · have := h3 i hi (by simpa using hi')
        simp only [Array.getElem_toList] at this
        exact ⟨TC_of_CR this, CR_plain this⟩
      · intro e W' ⟨r, hr, v, F', ω', he, hk, _, _, _, hT, _, _⟩
        rw [hr] at hT
        have hv := TR_bool hT
        subst hv
        exact ⟨he, hk.os, hk.tape, hk.output, hk.size, fun k hk' => hk.block k hk' (fun hi => by cases hi)⟩
    · exact hcall.elim

end Go.Proofs.YtjlioidknhdceaaDoor.Abs
