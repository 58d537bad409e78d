/- errors.Is of sentinels, by its contract: the same one, another one, none. -/
import Derived.Test.YticoldgiebmmgaaGreatDoorA27
import Derived.Test.YticoldgiebmmgaaGreatDoorProg
import Derived.Test.YticoldgiebmmgaaGreatDoorChecked
import Derived.KernelRfl
import Derived.WalkKit
import Derived.LaidEql
import Derived.Stop.Asserts
import Derived.RowKitTokens
namespace Go.Proofs.YticoldgiebmmgaaGreatDoor.Abs
set_option linter.all false
set_option maxRecDepth 100000
open Go Go.Proofs Go.RowKit Go.Extern.Stop Go.Stop Go.Extern

theorem isTypeOf (v : Value) (w : World) : (Extern.ReflectliteType.typeOf #[.iface 253 v]).run Tryz.prog w = .ok (.iface 258 (.agg #[.pointer (some ⟨10, 253, none⟩)])) w := by kernel_rfl
def cmpX : Array Value → Sem Value := Extern.ReflectliteType.method fun t => do Go.Extern.Rtype.noPackHeld "Comparable" t; pure (.bool (← typeInfo t).comparable)
theorem isComparable (w : World) : (cmpX #[.agg #[.pointer (some ⟨10, 253, none⟩)]]).run Tryz.prog w = .ok (.bool true) w := by kernel_rfl
theorem isMethodComparable (v : Value) (w : World) : (Go.method 424 258 v "Comparable").run Tryz.prog w = .ok (263, v) w := by kernel_rfl
theorem isComp : (Tryz.prog.info? 253).map (·.comparable) = some true := by kernel_rfl
theorem isSize : (Tryz.prog.info? 255).map (·.size) = some 1 := by kernel_rfl
theorem noIsE (v : Value) (xT : TypeId) (w : World) : (Instr.typeAssert (.iface 253 v) xT 260 true).run Tryz.prog w = .ok (.tuple #[.nilIface, .bool false]) w := run_typeAssert_lacksB Tryz.underlying260 (by kernel_rfl) (by kernel_rfl) v xT w
theorem noUnwrapE (v : Value) (xT : TypeId) (w : World) : (Instr.typeAssert (.iface 253 v) xT 263 true).run Tryz.prog w = .ok (.tuple #[.nilIface, .bool false]) w := run_typeAssert_lacksB Tryz.underlying263 (by kernel_rfl) (by kernel_rfl) v xT w
theorem noUnwrapsE (v : Value) (xT : TypeId) (w : World) : (Instr.typeAssert (.iface 253 v) xT 264 true).run Tryz.prog w = .ok (.tuple #[.nilIface, .bool false]) w := run_typeAssert_lacksB Tryz.underlying264 (by kernel_rfl) (by kernel_rfl) v xT w

theorem is_same (a : Addr) (w : World) :
    Calls Tryz.prog 118 #[.iface 253 (.pointer (some a)), .iface 253 (.pointer (some a))] w fun e w' => e = .returned (.bool true) ∧ w' = w := by
  obtain ⟨i, hi, hcmp⟩ := Option.map_eq_some_iff.1 isComp
  obtain ⟨j, hj, hjs⟩ := Option.map_eq_some_iff.1 isSize
  have h8 := @run_callFunc_extern Tryz.prog 156 _ Extern.ReflectliteType.typeOf Tryz.func156 (by kernel_rfl) (by kernel_rfl) (by kernel_rfl) (by kernel_rfl)
  have h32 := @run_callFunc_extern Tryz.prog 263 _ cmpX Tryz.func263 (by kernel_rfl) (by kernel_rfl) (by kernel_rfl) (by kernel_rfl)
  have tT := isTypeOf
  have cT := isComparable
  have mR := isMethodComparable
  have heq := run_eql_iface_ptr_same (P := Tryz.prog) w a Tryz.underlying131 Tryz.underlying253 hi hcmp hj
  go_enter Tryz.func118, Tryz.ntmps118
  go_wp2
  refine wp_loop_rounds 1 ?_
  rw [rounds_succ]
  go_wp2
  go_ret
  exact ⟨rfl, rfl⟩

theorem is_nil (b : Addr) (w : World) :
    Calls Tryz.prog 118 #[.nilIface, .iface 253 (.pointer (some b))] w fun e w' => e = .returned (.bool false) ∧ w' = w := by
  have hn := run_eql_iface_nil_left (P := Tryz.prog) w 253 (.pointer (some b)) Tryz.underlying131
  go_enter Tryz.func118, Tryz.ntmps118
  go_wp2
  go_ret
  exact ⟨rfl, rfl⟩

theorem is_other (a b : Addr) (ca cb : Array Value) (ta tb : TypeId) (w : World) (hne : a ≠ b) (ha : w.heap[a.block]? = some (.cells ca ta (0, 0))) (hb : w.heap[b.block]? = some (.cells cb tb (0, 0))) :
    Calls Tryz.prog 118 #[.iface 253 (.pointer (some a)), .iface 253 (.pointer (some b))] w fun e w' => e = .returned (.bool false) ∧ w' = w := by
  obtain ⟨i, hi, hcmp⟩ := Option.map_eq_some_iff.1 isComp
  obtain ⟨j, hj, hjs⟩ := Option.map_eq_some_iff.1 isSize
  have h8 := @run_callFunc_extern Tryz.prog 156 _ Extern.ReflectliteType.typeOf Tryz.func156 (by kernel_rfl) (by kernel_rfl) (by kernel_rfl) (by kernel_rfl)
  have h32 := @run_callFunc_extern Tryz.prog 263 _ cmpX Tryz.func263 (by kernel_rfl) (by kernel_rfl) (by kernel_rfl) (by kernel_rfl)
  have tT := isTypeOf
  have cT := isComparable
  have mR := isMethodComparable
  have nE := noIsE
  have uE := noUnwrapE
  have vE := noUnwrapsE
  have heq := run_eql_iface_ptr_other (P := Tryz.prog) w Tryz.underlying131 Tryz.underlying253 hi hcmp hj (by rw [hjs]; decide) hne ha hb
  go_enter Tryz.func118, Tryz.ntmps118
  go_wp2
  refine wp_loop_rounds 1 ?_
  rw [rounds_succ]
  go_wp2
  go_ret
  exact ⟨rfl, rfl⟩

def isX : List AV → H → Option AV
  | [.iface t (.sen b o), .iface t' (.sen b' o')], _ => if t = 253 ∧ t' = 253 then some (.bool (b == b' && o == o')) else none
  | [.nilI, .iface t' (.sen b' o')], _ => if t' = 253 then some (.bool false) else none
  | [.iface t (.ptr (.obj i) _), .iface t' (.sen _ _)], h => match h.get i with
    | some (.cells _) => if t = 253 ∧ t' = 253 then some (.bool false) else none
    | _ => none
  | _, _ => none
theorem xok_is : XOk Tryz.prog 118 isX := by
  intro vs hp v h
  unfold isX at h
  split at h
  · rename_i t b o t' b' o'
    split at h
    · rename_i hc
      obtain ⟨rfl, rfl⟩ := hc
      injection h with h; subst h
      refine ⟨fun u hu => by simp only [List.mem_cons, List.not_mem_nil, or_false] at hu; rcases hu with rfl | rfl <;> rfl, fun w G args hh hs hr => ?_⟩
      obtain ⟨l⟩ := args
      match l, hs with
      | [x, y], _ =>
        have h0 := hr 0 (by simp) (by simp)
        have h1 := hr 1 (by simp) (by simp)
        simp at h0 h1
        cases h0 with
        | iface _ _ v0 k0 =>
        cases h1 with
        | iface _ _ v1 k1 =>
        cases k0 with
        | sen _ _ c0 e0 p0 q0 =>
        cases k1 with
        | sen _ _ c1 e1 p1 q1 =>
        by_cases he : b = b' ∧ o = o'
        · obtain ⟨rfl, rfl⟩ := he
          refine (is_same ⟨b, o, none⟩ w).mono fun e w' ⟨h1, h2⟩ => ⟨h2, _, h1, ?_⟩
          simp only [beq_self_eq_true, Bool.and_self]; exact .bool true
        · refine (is_other ⟨b, o, none⟩ ⟨b', o', none⟩ c0 c1 e0 e1 w (fun e => he (by injection e with e1 e2 _; exact ⟨e1, e2⟩)) q0 q1).mono fun e w' ⟨h1, h2⟩ => ⟨h2, _, h1, ?_⟩
          have : (b == b' && o == o') = false := by
            cases hb : (b == b') <;> cases ho : (o == o') <;> first | rfl | (exact absurd ⟨beq_iff_eq.1 hb, beq_iff_eq.1 ho⟩ he)
          rw [this]; exact .bool false
    · cases h
  · rename_i t' b' o'
    split at h
    · rename_i hc
      subst hc
      injection h with h; subst h
      refine ⟨fun u hu => by simp only [List.mem_cons, List.not_mem_nil, or_false] at hu; rcases hu with rfl | rfl <;> rfl, fun w G args hh hs hr => ?_⟩
      obtain ⟨l⟩ := args
      match l, hs with
      | [x, y], _ =>
        have h0 := hr 0 (by simp) (by simp)
        have h1 := hr 1 (by simp) (by simp)
        simp at h0 h1
        cases h0 with
        | nilI =>
        cases h1 with
        | iface _ _ v1 k1 =>
        cases k1 with
        | sen _ _ c1 e1 p1 q1 =>
        exact (is_nil ⟨b', o', none⟩ w).mono fun e w' ⟨h1, h2⟩ => ⟨h2, _, h1, .bool false⟩
    · cases h
  · rename_i t i off t' b' o'
    split at h
    · rename_i cs hg
      split at h
      · rename_i hc
        obtain ⟨rfl, rfl⟩ := hc
        injection h with h; subst h
        refine ⟨fun u hu => by simp only [List.mem_cons, List.not_mem_nil, or_false] at hu; rcases hu with rfl | rfl <;> rfl, fun w G args hh hs hr => ?_⟩
        obtain ⟨l⟩ := args
        match l, hs with
        | [x, y], _ =>
          have h0 := hr 0 (by simp) (by simp)
          have h1 := hr 1 (by simp) (by simp)
          simp at h0 h1
          obtain ⟨th, t1, _, _, f0, _, vs0, q0, _⟩ := hh.box i _ hg
          cases h0 with
          | iface _ _ v0 k0 =>
          cases h1 with
          | iface _ _ v1 k1 =>
          cases k0 with
          | ref _ _ t2 hi2 =>
          have t1' : G.Fr.θ i = some th := t1
          rw [t1'] at hi2
          injection hi2 with hi2
          subst hi2
          cases k1 with
          | sen _ _ c1 e1 p1 q1 =>
          refine (is_other ⟨th.b, off, none⟩ ⟨b', o', none⟩ _ c1 _ e1 w (fun e => ?_) q0 q1).mono fun e w' ⟨h1, h2⟩ => ⟨h2, _, h1, .bool false⟩
          injection e with e1 _ _
          rw [← e1] at p1
          omega
      · cases h
    · cases h
  · cases h
end Go.Proofs.YticoldgiebmmgaaGreatDoor.Abs
