/- bytes.growSlice by its contract: a new row that begins with what was there, and has room. -/
import Derived.Test.YtpinoabhaaemfaaDoorA30
import Derived.Test.YtpinoabhaaemfaaDoorLayYtpinoabhaaemfaaDoor
import Derived.Shelf.Bytes.GrowSlice
namespace Go.Proofs.YtpinoabhaaemfaaDoor.Abs
set_option linter.all false
set_option linter.unusedVariables false
set_option maxRecDepth 100000
open Go Go.Proofs Go.RowKit

def growX : List AV → H → Option (T (AV × H))
  | [.hsl i 0 e1 1 l, .int .i64 n], h => (match h.get i with
    | some (.row e2 1 (some N) cs) => if e1 = 5 ∧ e2 = 5 ∧ l ≤ cs.length ∧ 1 ≤ n ∧ (l : Int) + n ≤ 140737488355328 ∧ N ≤ 140737488355328 then
        some (.pick (maxLen - (l + n.toNat)) fun d => .ret (.hsl h.n 0 5 1 l, h.push (.row 5 1 (some (l + n.toNat + d)) (cs.take l)))) else none
    | _ => none)
  | _, _ => none
theorem xok_grow : XOk Tryd.prog 25 growX := by
  intro vs h0 t ht R hR w G args hsz hargs hh hlt hfr
  unfold growX at ht
  split at ht
  · rename_i i e1 l n
    split at ht
    · rename_i e2 N cs hg
      split at ht
      · rename_i hc
        obtain ⟨rfl, rfl, h1, h2, h3, h4⟩ := hc
        injection ht with ht; subst ht
        obtain ⟨la⟩ := args
        match la, hsz with
        | [x, y], _ =>
        have a0 : CR w G.Fr (.hsl i 0 5 1 l) x := (hargs 0 (by simp) (by simp)).1
        have a1 : CR w G.Fr (.int .i64 n) y := (hargs 1 (by simp) (by simp)).1
        cases a1
        cases a0 with
        | hsl _ _ _ _ _ cap a th hth hz hcl ha =>
        obtain ⟨th', t1, t2, t3, f0, fr, fe, _, ⟨⟨cp, hcp1, hcp2⟩, hN⟩, hcs, _, vs, hw, hvs, hcell⟩ := hh.box i _ hg
        have t1' : G.Fr.θ i = some th' := t1
        rw [t1'] at hth; injection hth with hth; subst hth
        obtain ⟨rfl, hcap⟩ := ha (.inl rfl)
        have hN' := hN N rfl
        have hcc := hcap fr
        obtain ⟨n', rfl⟩ := Int.eq_ofNat_of_zero_le (show 0 ≤ n by omega)
        simp only [Int.toNat_natCast] at hR ⊢
        rw [fe] at hw
        have hev : ∀ v ∈ vs.toList.take l, v.oneCell' = true := fun v hv => by
          obtain ⟨k, hk, rfl⟩ := List.getElem_of_mem hv
          rw [List.length_take, Array.length_toList] at hk
          rw [List.getElem_take]
          simpa using (hcell k (by omega) (by omega)).1
        refine (Any.bytes_growSlice_row grL th'.b l cap n' vs w hw (by omega) hcl (by omega) (by omega) (by omega) hev).mono ?_
        rintro e w' ⟨cap2, cells, rfl, hnew, hcsz, htk, hle, hm2, hb⟩
        have hd : R (.hsl h0.n 0 5 1 l, h0.push (.row 5 1 (some (l + n' + (cap2 - (l + n')))) (cs.take l))) := hR (cap2 - (l + n')) (by omega)
        rw [show l + n' + (cap2 - (l + n')) = cap2 by omega] at hd
        refine ⟨_, hd, ?_⟩
        have hlen : (cs.take l).length = l := by rw [List.length_take]; omega
        refine post_row hh hlt hfr hb (by omega) (by omega) hm2 hnew hcsz (by omega) ⟨l, by omega⟩ (fun c h h' => ?_) (by omega)
        rw [hlen] at h
        have e1 : cells[c] = vs[c] := by
          have h5 := congrArg (·[c]?) htk
          simp only [List.getElem?_take_of_lt h, Array.getElem?_toList] at h5
          rw [Array.getElem?_eq_getElem h', Array.getElem?_eq_getElem (show c < vs.size by omega)] at h5
          injection h5
        rw [e1, List.getElem_take]
        exact hcell c (by omega) (by omega)
      · cases ht
    · cases ht
  · cases ht
end Go.Proofs.YtpinoabhaaemfaaDoor.Abs
