/- What package variables hold where FnTextQuote begins: the tables. -/
import Derived.Test.YtpinoabhaaemfaaDoorEFnTextQuote
import Derived.Test.YtpinoabhaaemfaaDoorRows
import Derived.Test.YtpinoabhaaemfaaDoorA25
import Derived.Test.YtpinoabhaaemfaaDoorA28
import Derived.Test.YtpinoabhaaemfaaDoorA31
import Derived.ProofKit
import Derived.MakeChecks
import Derived.OpenShut
import Derived.ChangeArms
import Derived.FnData
namespace Go.Proofs.YtpinoabhaaemfaaDoor.Abs0
open Go Go.Proofs Go.Proofs.YtpinoabhaaemfaaDoor.Abs Go.ChangeShapes
set_option linter.all false
set_option linter.unusedVariables false
set_option maxRecDepth 100000

def Γ0 : Nat → Option (List AV) := fun g => if g = 6 then some (accI.map (AV.int .u8)) else if g = 3 then some (boolT safeC) else if g = 2 then some (boolT htmlC) else if g = 1 then some (boolT safeC) else if g = 0 then some (boolT htmlC) else if g = 5 then some (firstI.map (AV.int .u8)) else none
theorem gam : Tabs 0 1 (⟨0, [], Γ0⟩ : Go.Proofs.YtpinoabhaaemfaaDoor.Abs.H).Γ ∧ Tabs 2 3 (⟨0, [], Γ0⟩ : Go.Proofs.YtpinoabhaaemfaaDoor.Abs.H).Γ := ⟨⟨rfl, rfl, rfl, rfl⟩, ⟨rfl, rfl, rfl, rfl⟩⟩
theorem globs {W : World} (hL : laidMetH Tryd.prog Rows.fnTextQuoteRow.laid W) : ∀ g xs, Γ0 g = some xs → CR W ⟨allF W, fun _ => none⟩ (.eptr xs) (.pointer (some ⟨g, 0, none⟩)) := by
  intro g xs hg
  rw [MakeChecks.laidMetH_plain _ _ _ (by kernel_rfl)] at hL
  obtain ⟨ps, hV, _, _⟩ := hL
  obtain ⟨g0, t0, c0, f0, p0, q0, a0, b0, d0, e0, ⟨g1, t1, c1, f1, p1, q1, a1, b1, d1, e1, ⟨g2, t2, c2, f2, p2, q2, a2, b2, d2, e2, ⟨g3, t3, c3, f3, p3, q3, a3, b3, d3, e3, ⟨g4, t4, c4, f4, p4, q4, a4, b4, d4, e4, ⟨g5, t5, c5, f5, p5, q5, a5, b5, d5, e5, ⟨g6, t6, c6, f6, p6, q6, a6, b6, d6, e6, _, _⟩, _⟩, _⟩, _⟩, _⟩, _⟩, _⟩ := hV
  unfold Γ0 at hg
  split at hg
  · rename_i h; subst h
    injection hg with hg; subst hg
    obtain rfl := Option.some.inj ((show Tryd.prog.globalNamed "unicode/utf8.acceptRanges" = some 6 by kernel_rfl).symm.trans a0)
    obtain rfl := Option.some.inj ((show (Tryd.prog.globals[6]?).map (·.type) = some 54 by kernel_rfl).symm.trans b0)
    obtain ⟨hl, hc⟩ := arr_pairs (ns := (List.range 16).map fun i => ((Lib.accLo i : Int), (Lib.accHi i : Int))) Tryd.underlying54 Tryd.underlying53 rfl rfl rfl rfl Tryd.underlying5 (by kernel_rfl) (by kernel_rfl) e0 (by kernel_rfl)
    refine eptr_of fun k hk => ?_
    have hk' : k < 32 := by simpa [accI] using hk
    have hc2 := hc (k / 2) (by simp; omega)
    rw [List.getElem_map, show accI[k]'(by simp [accI]; exact hk') = (if k % 2 = 0 then (Lib.accLo (k / 2) : Int) else (Lib.accHi (k / 2) : Int)) by simp [accI]]
    simp only [List.getElem_map, List.getElem_range] at hc2
    by_cases hev : k % 2 = 0
    · have e : 2 * (k / 2) = k := by omega
      rw [e] at hc2
      refine ⟨_, (World.var?_cell a0 d0 k).trans ((Array.getElem?_toList ..).symm.trans hc2.1), rfl, ?_⟩
      simp only [hev, if_true]; exact .int _ _
    · have e : 2 * (k / 2) + 1 = k := by omega
      rw [e] at hc2
      refine ⟨_, (World.var?_cell a0 d0 k).trans ((Array.getElem?_toList ..).symm.trans hc2.2), rfl, ?_⟩
      simp only [hev, if_false]; exact .int _ _
  split at hg
  · rename_i h; subst h
    injection hg with hg; subst hg
    obtain rfl := Option.some.inj ((show Tryd.prog.globalNamed "pub-gunnysack/pub/bsoncore.safeSet" = some 3 by kernel_rfl).symm.trans a2)
    obtain rfl := Option.some.inj ((show (Tryd.prog.globals[3]?).map (·.type) = some 41 by kernel_rfl).symm.trans b2)
    obtain ⟨hl, hc⟩ := arr_bools (ns := (List.range 128).map safeC) Tryd.underlying41 Tryd.underlying4 (by kernel_rfl) e2 (by kernel_rfl)
    refine eptr_of fun k hk => ?_
    have hk' : k < 128 := by simpa [boolT] using hk
    have hc2 := hc k (by simp; omega)
    refine ⟨_, (World.var?_cell a2 d2 k).trans ((Array.getElem?_toList ..).symm.trans hc2), rfl, ?_⟩
    simp only [boolT, List.getElem_map]; exact .bool _
  split at hg
  · rename_i h; subst h
    injection hg with hg; subst hg
    obtain rfl := Option.some.inj ((show Tryd.prog.globalNamed "pub-gunnysack/pub/bsoncore.htmlSafeSet" = some 2 by kernel_rfl).symm.trans a3)
    obtain rfl := Option.some.inj ((show (Tryd.prog.globals[2]?).map (·.type) = some 41 by kernel_rfl).symm.trans b3)
    obtain ⟨hl, hc⟩ := arr_bools (ns := (List.range 128).map htmlC) Tryd.underlying41 Tryd.underlying4 (by kernel_rfl) e3 (by kernel_rfl)
    refine eptr_of fun k hk => ?_
    have hk' : k < 128 := by simpa [boolT] using hk
    have hc2 := hc k (by simp; omega)
    refine ⟨_, (World.var?_cell a3 d3 k).trans ((Array.getElem?_toList ..).symm.trans hc2), rfl, ?_⟩
    simp only [boolT, List.getElem_map]; exact .bool _
  split at hg
  · rename_i h; subst h
    injection hg with hg; subst hg
    obtain rfl := Option.some.inj ((show Tryd.prog.globalNamed "pub-gunnysack/pub/bson.safeSet" = some 1 by kernel_rfl).symm.trans a4)
    obtain rfl := Option.some.inj ((show (Tryd.prog.globals[1]?).map (·.type) = some 41 by kernel_rfl).symm.trans b4)
    obtain ⟨hl, hc⟩ := arr_bools (ns := (List.range 128).map safeC) Tryd.underlying41 Tryd.underlying4 (by kernel_rfl) e4 (by kernel_rfl)
    refine eptr_of fun k hk => ?_
    have hk' : k < 128 := by simpa [boolT] using hk
    have hc2 := hc k (by simp; omega)
    refine ⟨_, (World.var?_cell a4 d4 k).trans ((Array.getElem?_toList ..).symm.trans hc2), rfl, ?_⟩
    simp only [boolT, List.getElem_map]; exact .bool _
  split at hg
  · rename_i h; subst h
    injection hg with hg; subst hg
    obtain rfl := Option.some.inj ((show Tryd.prog.globalNamed "pub-gunnysack/pub/bson.htmlSafeSet" = some 0 by kernel_rfl).symm.trans a5)
    obtain rfl := Option.some.inj ((show (Tryd.prog.globals[0]?).map (·.type) = some 41 by kernel_rfl).symm.trans b5)
    obtain ⟨hl, hc⟩ := arr_bools (ns := (List.range 128).map htmlC) Tryd.underlying41 Tryd.underlying4 (by kernel_rfl) e5 (by kernel_rfl)
    refine eptr_of fun k hk => ?_
    have hk' : k < 128 := by simpa [boolT] using hk
    have hc2 := hc k (by simp; omega)
    refine ⟨_, (World.var?_cell a5 d5 k).trans ((Array.getElem?_toList ..).symm.trans hc2), rfl, ?_⟩
    simp only [boolT, List.getElem_map]; exact .bool _
  split at hg
  · rename_i h; subst h
    injection hg with hg; subst hg
    obtain rfl := Option.some.inj ((show Tryd.prog.globalNamed "unicode/utf8.first" = some 5 by kernel_rfl).symm.trans a6)
    obtain rfl := Option.some.inj ((show (Tryd.prog.globals[5]?).map (·.type) = some 51 by kernel_rfl).symm.trans b6)
    obtain ⟨hl, hc⟩ := arr_ints (ns := firstI) Tryd.underlying51 Tryd.underlying5 (by kernel_rfl) e6 (by kernel_rfl)
    refine eptr_of fun k hk => ?_
    have hk' : k < firstI.length := by simpa using hk
    refine ⟨_, (World.var?_cell a6 d6 k).trans ((Array.getElem?_toList ..).symm.trans (hc k hk')), rfl, ?_⟩
    rw [List.getElem_map]; exact .int _ _
  · cases hg
end Go.Proofs.YtpinoabhaaemfaaDoor.Abs0
