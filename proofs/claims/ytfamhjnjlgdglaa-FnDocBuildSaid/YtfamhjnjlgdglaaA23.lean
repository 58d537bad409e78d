/- The interpreter at its limit: equations to reason with. -/
import Derived.Test.YtfamhjnjlgdglaaA22
namespace Go.Proofs.Ytfamhjnjlgdglaa.Abs
set_option linter.all false
set_option linter.unusedVariables false

section
variable {β : Type} {cl : FuncId → List AV → H → Option (AV × H)}

theorem fillK_val : ∀ {l : List (Nat × Nat × AX)} {cs : List AV} {st : St} {k : List AV → St → Option β} {r : β}, fillK l cs st k = some r →
    ∃ cs' st', k cs' st' = some r ∧ ∀ {γ : Type} (k' : List AV → St → Option γ), fillK l cs st k' = k' cs' st'
  | [], cs, st, k, r, h => ⟨cs, st, h, fun _ => rfl⟩
  | (off, m, x) :: l, cs, st, k, r, h => by
    simp only [fillK, obind_eq_some] at h
    obtain ⟨cs1, h1, h2⟩ := h
    obtain ⟨cs', st', h3, h4⟩ := fillK_val h2
    exact ⟨cs', st', h3, fun k' => by simp only [fillK, h1, obind_some]; exact h4 k'⟩

theorem argsK_val : ∀ {l : List (AX × Bool)} {st : St} {k : List AV → St → Option β} {r : β}, argsK l st k = some r →
    ∃ vs st', k vs st' = some r ∧ ∀ {γ : Type} (k' : List AV → St → Option γ), argsK l st k' = k' vs st'
  | [], st, k, r, h => ⟨[], st, h, fun _ => rfl⟩
  | (x, true) :: l, st, k, r, h => by
    simp only [argsK, obind_eq_some] at h
    obtain ⟨u, h1, h2⟩ := h
    obtain ⟨vs, st', h3, h4⟩ := argsK_val h2
    exact ⟨_, st', h3, fun k' => by simp only [argsK, h1, obind_some]; exact h4 _⟩
  | (x, false) :: l, st, k, r, h => by
    simp only [argsK, obind_eq_some] at h
    obtain ⟨u, h1, h2⟩ := h
    obtain ⟨vs, st', h3, h4⟩ := argsK_val h2
    exact ⟨_, st', h3, fun k' => by simp only [argsK, h1, obind_some]; exact h4 _⟩

theorem opK_val {x : AOp} {st : St} {k : AV → St → Option β} {r : β} (h : opK cl x st k = some r) :
    ∃ v st', k v st' = some r ∧ ((∀ cl' {γ : Type} (k' : AV → St → Option γ), opK cl' x st k' = k' v st') ∨
      ∃ f vs h0 u, cl f vs h0 = some u ∧ ∀ cl' {γ : Type} (k' : AV → St → Option γ), cl' f vs h0 = some u → opK cl' x st k' = k' v st') := by
  cases x
  case call f args =>
    simp only [opK] at h
    obtain ⟨vs, st', h1, h2⟩ := argsK_val h
    simp only [obind_eq_some] at h1
    obtain ⟨u, ⟨q, hq, hn⟩, h4⟩ := h1
    exact ⟨_, _, h4, .inr ⟨_, vs, _, q, hq, fun cl' _ k' hc => by simp only [opK]; rw [h2]; rw [hc, obind_some, hn, obind_some]⟩⟩
  case hcall f args =>
    simp only [opK] at h
    obtain ⟨vs, st', h1, h2⟩ := argsK_val h
    simp only [obind_eq_some] at h1
    obtain ⟨q, hq, h4⟩ := h1
    exact ⟨_, _, h4, .inr ⟨_, vs, _, q, hq, fun cl' _ k' hc => by simp only [opK]; rw [h2]; rw [hc, obind_some]⟩⟩
  case range d x =>
    simp only [opK, obind_eq_some] at h
    obtain ⟨v, h1, h2⟩ := h
    cases v with
    | str s => exact ⟨_, _, h2, .inl fun _ _ k' => by simp only [opK, h1, obind_some]⟩
    | _ => cases h2
  all_goals simp only [opK, obind_eq_some] at h
  all_goals first
    | (refine ⟨_, _, h, .inl ?_⟩; intro cl' γ k'; rfl)
    | (obtain ⟨v, h1, h2⟩ := h; exact ⟨_, _, h2, .inl fun _ _ k' => by simp only [opK, h1, obind_some]⟩)
    | (obtain ⟨cs, st', h1, h2⟩ := fillK_val h; exact ⟨_, _, h1, .inl fun _ _ k' => by simp only [opK]; exact h2 _⟩)
    | cases h
end

section
variable (fns : FuncId → Option AFunc)

/-- From some depth on. -/
def Late (p : Nat → Prop) : Prop := ∃ m, ∀ m', m ≤ m' → p m'
theorem Late.and {p q : Nat → Prop} (h : Late p) (k : Late q) : Late fun m => p m ∧ q m := by
  obtain ⟨a, ha⟩ := h; obtain ⟨b, hb⟩ := k
  exact ⟨max a b, fun m hm => ⟨ha m (by omega), hb m (by omega)⟩⟩
theorem Late.mono {p q : Nat → Prop} (h : Late p) (k : ∀ m, p m → q m) : Late q := by obtain ⟨a, ha⟩ := h; exact ⟨a, fun m hm => k m (ha m hm)⟩
theorem Late.all {p : Nat → Prop} (h : ∀ m, p m) : Late p := ⟨0, fun m _ => h m⟩
theorem Late.ex {p : Nat → Prop} (h : Late p) : ∃ m, p m := by obtain ⟨a, ha⟩ := h; exact ⟨a, ha a (Nat.le_refl _)⟩

open Classical in
/-- A call's outcome, if from some depth on it is the same. -/
noncomputable def callω (f : FuncId) (vs : List AV) (h0 : H) : Option (AV × H) := if h : ∃ r, Late fun m => callN fns m f vs h0 = some r then some h.choose else none
open Classical in
noncomputable def loopω (c : ACode) (st : St) : Option (Ex × St) := if h : ∃ r, Late fun m => loopN fns m c st = some r then some h.choose else none

theorem callω_spec {f : FuncId} {vs : List AV} {h0 : H} {r : AV × H} : callω fns f vs h0 = some r ↔ Late fun m => callN fns m f vs h0 = some r := by
  unfold callω
  constructor
  · intro h
    split at h
    · rename_i hh; injection h with h; rw [← h]; exact hh.choose_spec
    · cases h
  · intro h
    have hh : ∃ r, Late fun m => callN fns m f vs h0 = some r := ⟨r, h⟩
    rw [dif_pos hh]
    obtain ⟨m, h1, h2⟩ := (hh.choose_spec.and h).ex
    rw [h1] at h2; exact h2

theorem loopω_spec {c : ACode} {st : St} {r : Ex × St} : loopω fns c st = some r ↔ Late fun m => loopN fns m c st = some r := by
  unfold loopω
  constructor
  · intro h
    split at h
    · rename_i hh; injection h with h; rw [← h]; exact hh.choose_spec
    · cases h
  · intro h
    have hh : ∃ r, Late fun m => loopN fns m c st = some r := ⟨r, h⟩
    rw [dif_pos hh]
    obtain ⟨m, h1, h2⟩ := (hh.choose_spec.and h).ex
    rw [h1] at h2; exact h2

theorem opsK_late {β : Type} : ∀ {l : List AOper} {st : St} {k : St → Option β} {kn : Nat → St → Option β} {r : β}, (∀ st r, k st = some r → Late fun m => kn m st = some r) → opsK (callω fns) l st k = some r →
    Late fun m => opsK (callN fns m) l st (kn m) = some r
  | [], st, k, kn, r, hk, h => hk st r h
  | o :: l, st, k, kn, r, hk, h => by
    cases hg : o.guard with
    | none =>
      simp only [opsK, hg] at h ⊢
      obtain ⟨v, st', h1, h2⟩ := opK_val h
      have ih := opsK_late hk h1
      rcases h2 with h2 | ⟨f, vs, h0, u, hu, h2⟩
      · exact ih.mono fun m hm => by rw [h2]; exact hm
      · exact (ih.and ((callω_spec fns).1 hu)).mono fun m hm => by rw [h2 _ _ hm.2]; exact hm.1
    | some g =>
      obtain ⟨d, want⟩ := g
      simp only [opsK, hg, obind_eq_some] at h ⊢
      obtain ⟨st1, h0, h3⟩ := h
      have ih := opsK_late hk h3
      unfold onGuard at h0 ⊢
      split at h0
      · rename_i b hs
        split at h0
        · rename_i hb
          obtain ⟨v, st', h1, h2⟩ := opK_val h0
          rcases h2 with h2 | ⟨f, vs, h0, u, hu, h2⟩
          · exact ih.mono fun m hm => ⟨st1, by rw [if_pos hb, h2]; exact h1, hm⟩
          · exact (ih.and ((callω_spec fns).1 hu)).mono fun m hm => ⟨st1, by rw [if_pos hb, h2 _ _ hm.2]; exact h1, hm.1⟩
        · rename_i hb
          exact ih.mono fun m hm => ⟨st1, by rw [if_neg hb]; exact h0, hm⟩
      · exact ih.mono fun m hm => ⟨st1, h0, hm⟩
      · cases h0

theorem goOn_late {r0 r : Ex × St} {k : St → Option (Ex × St)} {kn : Nat → St → Option (Ex × St)} (hk : ∀ st r, k st = some r → Late fun m => kn m st = some r) (h : goOn r0 k = some r) : Late fun m => goOn r0 (kn m) = some r := by
  obtain ⟨e, st⟩ := r0
  cases e with
  | normal => exact hk st r h
  | exit i => exact Late.all fun _ => h
  | ret => exact Late.all fun _ => h

theorem xexec_late : ∀ {c : ACode} {st : St} {r : Ex × St}, xexec (callω fns) (loopω fns) c st = some r → Late fun m => xexec (callN fns m) (loopN fns m) c st = some r := by
  intro c
  induction c with
  | skip => intro st r h; exact Late.all fun _ => h
  | ops l k ih => intro st r h; simp only [xexec] at h ⊢; exact opsK_late fns (fun st r h => ih h) h
  | seq a k iha ihk =>
    intro st r h
    simp only [xexec, obind_eq_some] at h ⊢
    obtain ⟨r0, h1, h2⟩ := h
    exact ((iha h1).and (goOn_late (fun st r h => ihk h) h2)).mono fun m hm => ⟨r0, hm.1, hm.2⟩
  | cond c a b iha ihb =>
    intro st r h
    simp only [xexec] at h ⊢
    unfold onBool at h ⊢
    split at h
    · exact iha h
    · exact ihb h
    · cases h
  | block id a ih =>
    intro st r h
    simp only [xexec, obind_eq_some] at h ⊢
    obtain ⟨r0, h1, h2⟩ := h
    exact (ih h1).mono fun m hm => ⟨r0, hm, h2⟩
  | loop a ih => intro st r h; exact (loopω_spec fns).1 h
  | exit id => intro st r h; exact Late.all fun _ => h
  | ret => intro st r h; exact Late.all fun _ => h

/-- **A call.** -/
theorem callω_of {f : FuncId} {af : AFunc} (hf : fns f = some af) {vs : List AV} {h0 : H} (hl : vs.length ≤ af.n) {r : AV × H} (h : xbody (callω fns) (loopω fns) af vs h0 = some r) : callω fns f vs h0 = some r := by
  rw [callω_spec]
  simp only [xbody, obind_eq_some] at h
  obtain ⟨e0, h1, h2⟩ := h
  obtain ⟨m, hm⟩ := xexec_late fns h1
  refine ⟨m + 1, fun m' hm' => ?_⟩
  obtain ⟨k, rfl⟩ : ∃ k, m' = k + 1 := ⟨m' - 1, by omega⟩
  simp only [callN, hf, obind_some, if_pos hl, xbody, hm k (by omega), h2]

/-- **A loop.** -/
theorem loopω_of {c : ACode} {st : St} {r : Ex × St} (h : obind (xexec (callω fns) (loopω fns) c st) (fun r => goOn r fun st => loopω fns c st) = some r) : loopω fns c st = some r := by
  rw [loopω_spec]
  simp only [obind_eq_some] at h
  obtain ⟨r0, h1, h2⟩ := h
  obtain ⟨m, hm⟩ := (xexec_late fns h1).and (goOn_late (fun st r h => (loopω_spec fns).1 h) h2)
  refine ⟨m + 1, fun m' hm' => ?_⟩
  obtain ⟨k, rfl⟩ : ∃ k, m' = k + 1 := ⟨m' - 1, by omega⟩
  simp only [loopN, (hm k (by omega)).1, obind_some]
  exact (hm k (by omega)).2
end

/-- **The machine does what the interpreter says.** -/
theorem callω_sound {P : Program} {sg : FuncId → Nat → Nat} {fns : FuncId → Option AFunc} (hfn : FnsOk P sg fns) (hm : P.follows .mixedOrders = true) : CallOk P (callω fns) := by
  intro f vs h0 r h w G args h1 h2 h3 h4 h5
  obtain ⟨m, hh⟩ := ((callω_spec fns).1 h).ex
  exact (calls_sound hfn hm m).1 f vs h0 r hh w G args h1 h2 h3 h4 h5

end Go.Proofs.Ytfamhjnjlgdglaa.Abs
