/- What package variables hold where FnBindHex begins. -/
import Derived.Test.YtcipaobalemdoaaDoorEFnBindHex
import Derived.Test.YtcipaobalemdoaaDoorRows
import Derived.Test.YtcipaobalemdoaaDoorA25
import Derived.Test.YtcipaobalemdoaaDoorA28
import Derived.ProofKit
import Derived.MakeChecks
import Derived.OpenShut
import Derived.ChangeArms
import Derived.FnData
namespace Go.Proofs.YtcipaobalemdoaaDoor.Abs0
open Go Go.Proofs Go.Proofs.YtcipaobalemdoaaDoor.Abs Go.ChangeShapes
set_option linter.all false
set_option linter.unusedVariables false
set_option maxRecDepth 100000

def Γ0 : Nat → Option (List AV) := fun g => if g = 2 then some (byteCells (List.replicate 12 0)) else none
theorem gam : (⟨0, [], Γ0⟩ : Go.Proofs.YtcipaobalemdoaaDoor.Abs.H).Γ 2 = some (byteCells (List.replicate 12 0)) := rfl
theorem globs {W : World} (hL : laidMetH Tryd.prog Rows.fnBindHexRow.laid W) : ∀ g xs, Γ0 g = some xs → CR W ⟨allF W, fun _ => none⟩ (.eptr xs) (.pointer (some ⟨g, 0, none⟩)) := by
  intro g xs hg
  unfold Γ0 at hg
  split at hg
  · rename_i h; subst h
    injection hg with hg; subst hg
    rw [MakeChecks.laidMetH_plain _ _ _ (by kernel_rfl)] at hL
    obtain ⟨ps, ⟨g0, t0, cs0, f0, p0, q0, hg0, ht0, hv0, hd0, ⟨g1, t1, cs1, f1, p1, q1, hg1, ht1, hv1, hd1, ⟨g2, t2, cs2, f2, p2, q2, hg2, ht2, hv2, hd2, _, _⟩, _⟩, _⟩, _, _⟩ := hL
    obtain rfl := Option.some.inj ((show Tryd.prog.globalNamed "pub-gunnysack/pub/bson.NilObjectID" = some 2 by kernel_rfl).symm.trans hg2)
    obtain rfl := Option.some.inj ((show (Tryd.prog.globals[2]?).map (·.type) = some 85 by kernel_rfl).symm.trans ht2)
    obtain ⟨ys, m1, rfl, hx1, hlen, hn3, hel⟩ := DataW.trod_array Tryd.underlying85 hd2
    simp only [Prod.mk.injEq] at hx1
    have c1 : Tryd.prog.cellsOf 5 = 1 := by kernel_rfl
    have hcell : ∀ i, i < 12 → W.cell? ⟨2, i, none⟩ = some (.int .u8 0) := by
      intro i hi
      have h0 := hel i hi
      have hi' : i < ys.length := by omega
      rw [List.getElem?_eq_getElem hi'] at h0
      obtain ⟨k, e1, e2, _⟩ := DataW.trod_int Tryd.underlying5 h0
      have hk : k = 0 := by
        have h2 := hx1.1
        simp only [DataW.agg.injEq, Rows.laid_pub_gunnysack_pub_bson_NilObjectID] at h2
        have h3 : (ys.map (·.1))[i]? = some (.lit (.int .u8 k)) := by
          rw [List.getElem?_map, List.getElem?_eq_getElem hi', Option.map_some, e2]
        rw [← h2] at h3
        have : ∀ j : Fin 12, ([DataW.lit (Lit.int IntKind.u8 0), .lit (.int .u8 0), .lit (.int .u8 0), .lit (.int .u8 0), .lit (.int .u8 0), .lit (.int .u8 0), .lit (.int .u8 0), .lit (.int .u8 0), .lit (.int .u8 0), .lit (.int .u8 0), .lit (.int .u8 0), .lit (.int .u8 0)] : List (DataW Unit))[j.val]? = some (.lit (.int .u8 0)) := by
          intro j; rcases j with ⟨j, hj⟩
          match j, hj with
          | 0, _ | 1, _ | 2, _ | 3, _ | 4, _ | 5, _ | 6, _ | 7, _ | 8, _ | 9, _ | 10, _ | 11, _ => rfl
        rw [this ⟨i, hi⟩] at h3
        injection h3 with h3; injection h3 with h3; injection h3 with _ h3; exact h3.symm
      subst hk
      rw [World.var?_cell hg2 hv2 i]
      rw [c1, Nat.mul_one] at e1
      have h4 := congrArg (·[0]?) e1
      simp only [List.getElem?_cons_zero, List.getElem?_take, Nat.zero_lt_one, if_true, List.getElem?_drop, Nat.add_zero] at h4
      simpa using h4
    refine .eptr _ _ (fun _ => .int .u8 0) rfl (fun i hi => ?_) (fun i hi => ?_) (fun _ _ => rfl) (fun i hi => ?_)
    · exact allF_lt (by have := hcell i (by simpa [byteCells] using hi); simpa using this)
    · have := hcell i (by simpa [byteCells] using hi); simpa using this
    · have h2 := byteCells_get (List.replicate 12 (0 : UInt8)) i (by simpa [byteCells] using hi)
      rw [List.getElem?_eq_getElem hi, List.getElem_replicate] at h2
      injection h2 with h2
      rw [h2]; exact .int _ _
  · cases hg
end Go.Proofs.YtcipaobalemdoaaDoor.Abs0
