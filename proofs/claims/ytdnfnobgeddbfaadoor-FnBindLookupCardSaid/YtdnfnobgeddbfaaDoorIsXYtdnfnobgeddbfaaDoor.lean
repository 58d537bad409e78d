/- errors.Is of sentinels, by its contract: the same one, another one, none. -/
import Derived.Test.YtdnfnobgeddbfaaDoorA22
import Derived.Test.YtdnfnobgeddbfaaDoorProg
import Derived.Test.YtdnfnobgeddbfaaDoorChecked
import Derived.KernelRfl
import Derived.WalkKit
import Derived.LaidEql
import Derived.Stop.Asserts
import Derived.RowKitTokens
namespace Go.Proofs.YtdnfnobgeddbfaaDoor.Abs
set_option linter.all false
set_option maxRecDepth 100000
open Go Go.Proofs Go.RowKit Go.Extern.Stop Go.Stop Go.Extern

theorem isTypeOf (v : Value) (w : World) : (Extern.ReflectliteType.typeOf #[.iface 174 v]).run Tryd.prog w = .ok (.iface 155 (.agg #[.pointer (some ⟨5, 174, none⟩)])) w := by kernel_rfl
def cmpX : Array Value → Sem Value := Extern.ReflectliteType.method fun t => do Go.Extern.Rtype.noPackHeld "Comparable" t; pure (.bool (← typeInfo t).comparable)
theorem isComparable (w : World) : (cmpX #[.agg #[.pointer (some ⟨5, 174, none⟩)]]).run Tryd.prog w = .ok (.bool true) w := by kernel_rfl
theorem isMethodComparable (v : Value) (w : World) : (Go.method 318 155 v "Comparable").run Tryd.prog w = .ok (125, v) w := by kernel_rfl
theorem isComp : (Tryd.prog.info? 174).map (·.comparable) = some true := by kernel_rfl
theorem isSize : (Tryd.prog.info? 201).map (·.size) = some 1 := by kernel_rfl
theorem noIsE (v : Value) (xT : TypeId) (w : World) : (Instr.typeAssert (.iface 174 v) xT 157 true).run Tryd.prog w = .ok (.tuple #[.nilIface, .bool false]) w := run_typeAssert_lacksB Tryd.underlying157 (by kernel_rfl) (by kernel_rfl) v xT w
theorem noUnwrapE (v : Value) (xT : TypeId) (w : World) : (Instr.typeAssert (.iface 174 v) xT 160 true).run Tryd.prog w = .ok (.tuple #[.nilIface, .bool false]) w := run_typeAssert_lacksB Tryd.underlying160 (by kernel_rfl) (by kernel_rfl) v xT w
theorem noUnwrapsE (v : Value) (xT : TypeId) (w : World) : (Instr.typeAssert (.iface 174 v) xT 161 true).run Tryd.prog w = .ok (.tuple #[.nilIface, .bool false]) w := run_typeAssert_lacksB Tryd.underlying161 (by kernel_rfl) (by kernel_rfl) v xT w

theorem is_same (a : Addr) (w : World) :
    Calls Tryd.prog 52 #[.iface 174 (.pointer (some a)), .iface 174 (.pointer (some a))] w fun e w' => e = .returned (.bool true) ∧ w' = w := by
  obtain ⟨i, hi, hcmp⟩ := Option.map_eq_some_iff.1 isComp
  obtain ⟨j, hj, hjs⟩ := Option.map_eq_some_iff.1 isSize
  have h8 := @run_callFunc_extern Tryd.prog 67 _ Extern.ReflectliteType.typeOf Tryd.func67 (by kernel_rfl) (by kernel_rfl) (by kernel_rfl) (by kernel_rfl)
  have h32 := @run_callFunc_extern Tryd.prog 125 _ cmpX Tryd.func125 (by kernel_rfl) (by kernel_rfl) (by kernel_rfl) (by kernel_rfl)
  have tT := isTypeOf
  have cT := isComparable
  have mR := isMethodComparable
  have heq := run_eql_iface_ptr_same (P := Tryd.prog) w a Tryd.underlying68 Tryd.underlying174 hi hcmp hj
  go_enter Tryd.func52, Tryd.ntmps52
  go_wp2
  refine wp_loop_rounds 1 ?_
  rw [rounds_succ]
  go_wp2
  go_ret
  exact ⟨rfl, rfl⟩

theorem is_nil (b : Addr) (w : World) :
    Calls Tryd.prog 52 #[.nilIface, .iface 174 (.pointer (some b))] w fun e w' => e = .returned (.bool false) ∧ w' = w := by
  have hn := run_eql_iface_nil_left (P := Tryd.prog) w 174 (.pointer (some b)) Tryd.underlying68
  go_enter Tryd.func52, Tryd.ntmps52
  go_wp2
  go_ret
  exact ⟨rfl, rfl⟩

theorem is_other (a b : Addr) (ca cb : Array Value) (ta tb : TypeId) (w : World) (hne : a ≠ b) (ha : w.heap[a.block]? = some (.cells ca ta (0, 0))) (hb : w.heap[b.block]? = some (.cells cb tb (0, 0))) :
    Calls Tryd.prog 52 #[.iface 174 (.pointer (some a)), .iface 174 (.pointer (some b))] w fun e w' => e = .returned (.bool false) ∧ w' = w := by
  obtain ⟨i, hi, hcmp⟩ := Option.map_eq_some_iff.1 isComp
  obtain ⟨j, hj, hjs⟩ := Option.map_eq_some_iff.1 isSize
  have h8 := @run_callFunc_extern Tryd.prog 67 _ Extern.ReflectliteType.typeOf Tryd.func67 (by kernel_rfl) (by kernel_rfl) (by kernel_rfl) (by kernel_rfl)
  have h32 := @run_callFunc_extern Tryd.prog 125 _ cmpX Tryd.func125 (by kernel_rfl) (by kernel_rfl) (by kernel_rfl) (by kernel_rfl)
  have tT := isTypeOf
  have cT := isComparable
  have mR := isMethodComparable
  have nE := noIsE
  have uE := noUnwrapE
  have vE := noUnwrapsE
  have heq := run_eql_iface_ptr_other (P := Tryd.prog) w Tryd.underlying68 Tryd.underlying174 hi hcmp hj (by rw [hjs]; decide) hne ha hb
  go_enter Tryd.func52, Tryd.ntmps52
  go_wp2
  refine wp_loop_rounds 1 ?_
  rw [rounds_succ]
  go_wp2
  go_ret
  exact ⟨rfl, rfl⟩

/-- Whether two sentinels are the same. -/
def isX : List AV → Option AV
  | [.iface t (.sen b o), .iface t' (.sen b' o')] => if t = 174 ∧ t' = 174 then some (.bool (b == b' && o == o')) else none
  | [.nilI, .iface t' (.sen b' o')] => if t' = 174 then some (.bool false) else none
  | _ => none
theorem xok_is : XOk Tryd.prog 52 isX := by
  intro vs v h
  unfold isX at h
  split at h
  · rename_i t b o t' b' o'
    split at h
    · rename_i hc
      obtain ⟨rfl, rfl⟩ := hc
      injection h with h; subst h
      refine ⟨fun u hu => by simp only [List.mem_cons, List.not_mem_nil, or_false] at hu; rcases hu with rfl | rfl <;> rfl, fun w F args hs hr => ?_⟩
      obtain ⟨l⟩ := args
      match l, hs with
      | [x, y], _ =>
        have h0 := hr 0 (by simp) (by simp)
        have h1 := hr 1 (by simp) (by simp)
        simp at h0 h1
        cases h0 with
        | iface _ _ v0 k0 =>
        cases h1 with
        | iface _ _ v1 k1 =>
        cases k0 with
        | sen _ _ c0 e0 p0 q0 =>
        cases k1 with
        | sen _ _ c1 e1 p1 q1 =>
        by_cases he : b = b' ∧ o = o'
        · obtain ⟨rfl, rfl⟩ := he
          refine (is_same ⟨b, o, none⟩ w).mono fun e w' ⟨h1, h2⟩ => ⟨h2, _, h1, ?_⟩
          simp only [beq_self_eq_true, Bool.and_self]; exact .bool true
        · refine (is_other ⟨b, o, none⟩ ⟨b', o', none⟩ c0 c1 e0 e1 w (fun e => he (by injection e with e1 e2 _; exact ⟨e1, e2⟩)) q0 q1).mono fun e w' ⟨h1, h2⟩ => ⟨h2, _, h1, ?_⟩
          have : (b == b' && o == o') = false := by
            cases hb : (b == b') <;> cases ho : (o == o') <;> first | rfl | (exact absurd ⟨beq_iff_eq.1 hb, beq_iff_eq.1 ho⟩ he)
          rw [this]; exact .bool false
    · cases h
  · rename_i t' b' o'
    split at h
    · rename_i hc
      subst hc
      injection h with h; subst h
      refine ⟨fun u hu => by simp only [List.mem_cons, List.not_mem_nil, or_false] at hu; rcases hu with rfl | rfl <;> rfl, fun w F args hs hr => ?_⟩
      obtain ⟨l⟩ := args
      match l, hs with
      | [x, y], _ =>
        have h0 := hr 0 (by simp) (by simp)
        have h1 := hr 1 (by simp) (by simp)
        simp at h0 h1
        cases h0 with
        | nilI =>
        cases h1 with
        | iface _ _ v1 k1 =>
        cases k1 with
        | sen _ _ c1 e1 p1 q1 =>
        exact (is_nil ⟨b', o', none⟩ w).mono fun e w' ⟨h1, h2⟩ => ⟨h2, _, h1, .bool false⟩
    · cases h
  · cases h
end Go.Proofs.YtdnfnobgeddbfaaDoor.Abs
