/- Sentinels that a row lists: what the interpreter may say of them. -/
import Derived.Test.YticoldgiebmmgaaGreatDoorTR9
import Derived.Test.YticoldgiebmmgaaGreatDoorA27
import Derived.MakeChecks
import Derived.Stop.LaidErr
namespace Go.Proofs.YticoldgiebmmgaaGreatDoor.Abs
set_option linter.all false
open Go

def senD (nm : String) (t : List UInt8) : DataW Unit := .iface nm (.ptr (.agg [.lit (.string t)]))
def SenL (W : World) (tp : TypeId) : List (String × List UInt8 × Nat) → List (Nat × Nat) → Prop
  | [], [] => True
  | (_, _, g) :: r, a :: as => W.cell? ⟨g, 0, none⟩ = some (.iface tp (.pointer (some ⟨a.1, a.2, none⟩))) ∧ (∃ cs e, W.heap[a.1]? = some (.cells cs e (0, 0))) ∧ (∃ v, W.cell? ⟨a.1, a.2, none⟩ = some v) ∧ a ∉ as ∧ SenL W tp r as
  | _, _ => False

theorem sen_laid {P : Program} {W : World} {nm : String} {ti tp te ts : TypeId} {ms : Array (String × TypeId)} {f : Field}
    (hi : P.underlying ti = some (.interface ms)) (hrow : ∀ u, P.typeName? 3 u = some nm → u = tp)
    (hp : P.underlying tp = some (.pointer te)) (he : P.underlying te = some (.struct #[f])) (hft : f.type = ts) (hfo : f.offset = 0) (hs : P.underlying ts = some .string) (hc : P.cellsOf te = 1) (hcs : P.cellsOf ts = 1) :
    ∀ (L : List (String × List UInt8 × Nat)), (∀ x ∈ L, P.globalNamed x.1 = some x.2.2 ∧ (P.globals[x.2.2]?).map (·.type) = some ti) → ∀ (ps : List MemPlace), DataW.LaidVars P W (L.map fun x => (x.1, senD nm x.2.1)) ps → ps.Nodup →
      (∀ b off, MemPlace.cell b off ∈ ps → (∃ c t, W.heap[b]? = some (.cells c t (0, 0))) ∧ ∀ u v, W.cell? ⟨b, off, none⟩ = some (.iface u v) → Value.okWide P W .any 0 u v) →
      ∃ as, SenL W tp L as ∧ ∀ a ∈ as, MemPlace.cell a.1 a.2 ∈ ps
  | [], _, ps, _, _, _ => ⟨[], trivial, fun _ h => by cases h⟩
  | (n, text, g) :: L, hL, ps, h, hnd, hrows => by
    obtain ⟨g0, t0, cs0, f0, p0, q0, hg0, ht0, hv0, hd0, hq, e0⟩ := h
    obtain ⟨hg, ht⟩ := hL _ List.mem_cons_self
    obtain rfl := Option.some.inj (hg.symm.trans hg0)
    obtain rfl := Option.some.inj (ht.symm.trans ht0)
    subst e0
    obtain ⟨l0⟩ := cs0
    have ok0 : ∀ u v, l0 = [.iface u v] → Value.okWide P W .any 0 u v := fun u v e => by
      subst e
      exact (hrows g 0 (by simp [MemPlace.row])).2 u v (by simpa using World.var?_cell hg0 hv0 0)
    obtain ⟨a0, s0, rfl, hc0, hs0, hz0, rfl⟩ := errorString_of_trod hi hrow hp he hft hfo hs hc hcs hd0 ok0
    obtain ⟨as, h1, h2⟩ := sen_laid hi hrow hp he hft hfo hs hc hcs L (fun x hx => hL x (List.mem_cons_of_mem _ hx)) q0 hq (List.Nodup.sublist (List.sublist_append_right _ _) hnd) (fun b off hm => hrows b off (List.mem_append_right _ hm))
    have hsp : a0.spot = none := by
      cases hh : a0.spot with
      | none => rfl
      | some x => unfold World.cell? at hc0; split at hc0 <;> simp [hh] at hc0
    have ea : a0 = ⟨a0.block, a0.off, none⟩ := by cases a0; simp at hsp; subst hsp; rfl
    have hin : MemPlace.cell a0.block a0.off ∈ MemPlace.row a0 1 := by simp [MemPlace.row]
    refine ⟨(a0.block, a0.off) :: as, ⟨?_, ?_, ⟨_, by rw [← ea]; exact hc0⟩, fun hm => ?_, h1⟩, fun a ha => ?_⟩
    · have := World.var?_cell hg0 hv0 0
      rw [this]; simp only [List.getElem?_toArray, List.getElem?_cons_zero]; rw [← ea]
    · exact (hrows a0.block a0.off (List.mem_append_left _ (List.mem_append_right _ hin))).1
    · have hm2 := h2 _ hm
      rw [List.nodup_append] at hnd
      exact hnd.2.2 _ (List.mem_append_right _ hin) _ hm2 rfl
    · rcases List.mem_cons.1 ha with rfl | ha
      · exact List.mem_append_left _ (List.mem_append_right _ hin)
      · exact List.mem_append_right _ (h2 a ha)
theorem senL_CR {W : World} {tp : TypeId} {g : Nat} {a : Nat × Nat} (h1 : W.cell? ⟨g, 0, none⟩ = some (.iface tp (.pointer (some ⟨a.1, a.2, none⟩)))) (h2 : ∃ cs e, W.heap[a.1]? = some (.cells cs e (0, 0))) (h3 : ∃ v, W.cell? ⟨a.1, a.2, none⟩ = some v) :
    CR W ⟨allF W, fun _ => none⟩ (.eptr [.iface tp (.sen a.1 a.2)]) (.pointer (some ⟨g, 0, none⟩)) := by
  obtain ⟨cs, e, h2⟩ := h2
  obtain ⟨v, h3⟩ := h3
  refine .eptr _ _ (fun _ => .iface tp (.pointer (some ⟨a.1, a.2, none⟩))) rfl (fun i hi => ?_) (fun i hi => ?_) (fun _ _ => rfl) (fun i hi => ?_)
  · have : i = 0 := by simp at hi; exact hi
    subst this
    exact allF_lt h1
  · have : i = 0 := by simp at hi; exact hi
    subst this
    exact h1
  · have : i = 0 := by simp at hi; exact hi
    subst this
    exact .iface _ _ _ (.sen a.1 a.2 cs e (Nat.lt_of_le_of_lt (Nat.zero_le _) (allF_lt h3)) h2)
end Go.Proofs.YticoldgiebmmgaaGreatDoor.Abs
