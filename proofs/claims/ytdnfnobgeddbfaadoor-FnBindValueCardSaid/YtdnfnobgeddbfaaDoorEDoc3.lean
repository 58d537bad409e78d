/- Right values: what the reference says of them. -/
import Derived.Test.YtdnfnobgeddbfaaDoorEDoc2
namespace Go.Proofs.YtdnfnobgeddbfaaDoor.Abs
set_option linter.all false
open Go.Proofs
set_option linter.unusedVariables false
set_option linter.unusedSimpArgs false
set_option maxRecDepth 100000
set_option maxHeartbeats 8000000

theorem c_docBare (k : Int) (t m : List UInt8) (n bi hi : Int) (b : Option (List UInt8)) (kn : Bool) (ks : Ks) :
    ∀ hE : H, callω fns 65 [.agg (Tr.cells 5 53 (.mk k t m n bi hi b kn ks))] hE = some (.agg (Tr.cells 5 53 (.mk k (bareT k t) (bareM k m) (bareN k n) (bareL k bi) (bareH k hi) (bareB k b) (bareKn k kn) (bareK k ks))), hE) := by
  intro hE
  refine run65 (Nat.le_of_ble_eq_true rfl) ?_
  have e1 : bAV 5 none = AV.slice .nil 0 1 [] := rfl
  have e2 : Ks.av 5 53 .nil true = AV.slice .nil 0 1 [] := rfl
  simp [Tr.cells]
  by_cases c1 : k = 1
  · subst c1; simp [bareT, bareM, bareN, bareL, bareH, bareB, bareK, bareKn, e1, e2]
  simp [c1]
  by_cases c17 : k = 17
  · subst c17; simp [bareT, bareM, bareN, bareL, bareH, bareB, bareK, bareKn, e1, e2]
  simp [c17]
  by_cases c2 : k = 2
  · subst c2; simp [bareT, bareM, bareN, bareL, bareH, bareB, bareK, bareKn, e1, e2]
  simp [c2]
  by_cases c13 : k = 13
  · subst c13; simp [bareT, bareM, bareN, bareL, bareH, bareB, bareK, bareKn, e1, e2]
  simp [c13]
  by_cases c14 : k = 14
  · subst c14; simp [bareT, bareM, bareN, bareL, bareH, bareB, bareK, bareKn, e1, e2]
  simp [c14]
  by_cases c3 : k = 3
  · subst c3; simp [bareT, bareM, bareN, bareL, bareH, bareB, bareK, bareKn, e1, e2]
  simp [c3]
  by_cases c4 : k = 4
  · subst c4; simp [bareT, bareM, bareN, bareL, bareH, bareB, bareK, bareKn, e1, e2]
  simp [c4]
  by_cases c5 : k = 5
  · subst c5; simp [bareT, bareM, bareN, bareL, bareH, bareB, bareK, bareKn, e1, e2]
  simp [c5]
  by_cases c7 : k = 7
  · subst c7; simp [bareT, bareM, bareN, bareL, bareH, bareB, bareK, bareKn, e1, e2]
  simp [c7]
  by_cases c8 : k = 8
  · subst c8; simp [bareT, bareM, bareN, bareL, bareH, bareB, bareK, bareKn, e1, e2]
  simp [c8]
  by_cases c9 : k = 9
  · subst c9; simp [bareT, bareM, bareN, bareL, bareH, bareB, bareK, bareKn, e1, e2]
  simp [c9]
  by_cases c16 : k = 16
  · subst c16; simp [bareT, bareM, bareN, bareL, bareH, bareB, bareK, bareKn, e1, e2]
  simp [c16]
  by_cases c18 : k = 18
  · subst c18; simp [bareT, bareM, bareN, bareL, bareH, bareB, bareK, bareKn, e1, e2]
  simp [c18]
  by_cases c11 : k = 11
  · subst c11; simp [bareT, bareM, bareN, bareL, bareH, bareB, bareK, bareKn, e1, e2]
  simp [c11]
  by_cases c12 : k = 12
  · subst c12; simp [bareT, bareM, bareN, bareL, bareH, bareB, bareK, bareKn, e1, e2]
  simp [c12]
  by_cases c15 : k = 15
  · subst c15; simp [bareT, bareM, bareN, bareL, bareH, bareB, bareK, bareKn, e1, e2]
  simp [c15]
  by_cases c19 : k = 19
  · subst c19; simp [bareT, bareM, bareN, bareL, bareH, bareB, bareK, bareKn, e1, e2]
  simp [c19]
  simp [bareT, bareM, bareN, bareL, bareH, bareB, bareK, bareKn, c1, c17, c2, c13, c14, c3, c4, c5, c7, c8, c9, c16, c18, c11, c12, c15, c19]

theorem r_docRight4 {st : St} {k' : Int} {T M : List UInt8} {N L H : Int} {B : Option (List UInt8)} {K : Ks} {kn : Bool} {c : ACode} {s : List Fr} {Q : Ex × St → Prop}
    (h5 : st.s 5 = .ptr (.loc 5) 0) (hb : st.b 5 = some (.cells (Tr.cells 5 53 (.mk k' T M N L H B kn K))))
    (h : ∀ st' : St, st'.h = st.h → st'.s 52 = .bool (!(T.isEmpty && (M.isEmpty && (decide (N = 0) && (decide (L = 0) && (decide (H = 0) && (decide ((bl B).length = 0) && decide (K.len = 0)))))))) → st'.s 1 = st.s 1 → st'.s 2 = st.s 2 → st'.b 2 = st.b 2 → GoC fns Q s c st') :
    GoO fns Q s rg48_4 c st := by
  rw [org48_4]
  simp only [Tr.cells] at hb
  simp [h5, hb]
  cases hT : T.isEmpty
  · simp [hb, h5]; refine h _ rfl ?_ ?_ ?_ ?_ <;> simp [hT]
  simp [hb, h5]
  cases hM : M.isEmpty
  · simp [hb, h5]; refine h _ rfl ?_ ?_ ?_ ?_ <;> simp [hT, hM]
  simp [hb, h5]
  by_cases hN : N = 0
  case neg => simp [hb, h5, hN]; refine h _ rfl ?_ ?_ ?_ ?_ <;> simp [hT, hM, hN]
  simp [hb, h5, hN]
  by_cases hL : L = 0
  case neg => simp [hb, h5, hL]; refine h _ rfl ?_ ?_ ?_ ?_ <;> simp [hT, hM, hN, hL]
  simp [hb, h5, hL]
  by_cases hH : H = 0
  case neg => simp [hb, h5, hH]; refine h _ rfl ?_ ?_ ?_ ?_ <;> simp [hT, hM, hN, hL, hH]
  simp [hb, h5, hH]
  by_cases hB : bl B = []
  case neg => simp [hb, h5, hB]; refine h _ rfl ?_ ?_ ?_ ?_ <;> simp [hT, hM, hN, hL, hH, hB]
  simp [hb, h5, hB]
  by_cases hK : K.len = 0
  case neg => simp [hb, h5, hK]; refine h _ rfl ?_ ?_ ?_ ?_ <;> simp [hT, hM, hN, hL, hH, hB, hK]
  simp [hb, h5, hK]; refine h _ rfl ?_ ?_ ?_ ?_ <;> simp [hT, hM, hN, hL, hH, hB, hK]
end Go.Proofs.YtdnfnobgeddbfaaDoor.Abs
