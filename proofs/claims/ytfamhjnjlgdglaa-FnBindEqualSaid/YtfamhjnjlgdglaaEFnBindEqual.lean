/- What the functions that FnBindEqual reaches compute, by the interpreter. -/
import Derived.Test.YtfamhjnjlgdglaaA26
import Derived.Test.YtfamhjnjlgdglaaFFnBindEqual
namespace Go.Proofs.Ytfamhjnjlgdglaa.Abs
set_option linter.all false
open Go.Proofs
set_option linter.unusedVariables false
set_option linter.unusedSimpArgs false
set_option maxRecDepth 100000
set_option maxHeartbeats 4000000

theorem c38 (e : Nat) (x y : Option (List UInt8)) : callω fns 38 [bAV e x, bAV e y] = some (.bool (bl x == bl y)) := by
  refine callω_of fns (af := af38) rfl (Nat.le_of_ble_eq_true rfl) ?_
  simp [xbody, af38, xexec, opsK, opK, take, give, peek, copy, upd, St.put, St.set, St.box, argsK, ldV, stV, cvInt, aInt, aBin, aEq, aStr, fillK, fillV, splice, xend, xresults, xres, pln, oneOrTup]

def rawE (e : Nat) (k : IntKind) (n : Int) (o : Option (List UInt8)) : AV := .agg [.int k n, bAV e o]

theorem c27 (e : Nat) (n m : Int) (x y : Option (List UInt8)) : callω fns 27 [rawE e .u8 n x, rawE e .u8 m y] = some (.bool (n == m && bl x == bl y)) := by
  refine callω_of fns (af := af27) rfl (Nat.le_of_ble_eq_true rfl) ?_
  have h38 := c38 e x y
  cases hnm : (n == m) <;> cases hxy : (bl x == bl y) <;> rw [hxy] at h38 <;>
  simp [xbody, af27, xexec, opsK, opK, take, give, peek, copy, upd, St.put, St.set, St.box, argsK, ldV, stV, cvInt, aInt, aBin, aEq, aStr, fillK, fillV, splice, xend, xresults, xres, pln, oneOrTup, rawE, h38, bne, hnm]

theorem c26 (e : Nat) (n : Int) (x : Option (List UInt8)) : callω fns 26 [rawE e .i64 n x] = some (rawE e .u8 (IntKind.u8.wrap n) x) := by
  refine callω_of fns (af := af26) rfl (Nat.le_of_ble_eq_true rfl) ?_
  simp [xbody, af26, xexec, opsK, opK, take, give, peek, copy, upd, St.put, St.set, St.box, argsK, ldV, stV, cvInt, aInt, aBin, aEq, aStr, fillK, fillV, splice, xend, xresults, xres, pln, oneOrTup, rawE]

theorem c9 (e : Nat) (n m : Int) (x y : Option (List UInt8)) : callω fns 9 [rawE e .i64 n x, rawE e .i64 m y] = some (.bool (IntKind.u8.wrap n == IntKind.u8.wrap m && bl x == bl y)) := by
  refine callω_of fns (af := af9) rfl (Nat.le_of_ble_eq_true rfl) ?_
  have h27 := c27 e (IntKind.u8.wrap n) (IntKind.u8.wrap m) x y
  have h26 := c26 e n x
  have h26' := c26 e m y
  simp only [rawE] at h26 h26' h27
  simp [xbody, af9, xexec, opsK, opK, take, give, peek, copy, upd, St.put, St.set, St.box, argsK, ldV, stV, cvInt, aInt, aBin, aEq, aStr, fillK, fillV, splice, xend, xresults, xres, pln, oneOrTup, rawE, h26, h26', h27]

theorem c10 (e : Nat) (n m : Int) (x y : Option (List UInt8)) : callω fns 10 [rawE e .i64 n x, rawE e .i64 m y] = some (.bool (n == m && bl x == bl y)) := by
  refine callω_of fns (af := af10) rfl (Nat.le_of_ble_eq_true rfl) ?_
  cases hnm : (n == m) <;>
  simp [xbody, af10, xexec, opsK, opK, take, give, peek, copy, upd, St.put, St.set, St.box, argsK, ldV, stV, cvInt, aInt, aBin, aEq, aStr, fillK, fillV, splice, xend, xresults, xres, pln, oneOrTup, rawE, bne, hnm]

theorem c8 (e : Nat) (n : Int) (x : Option (List UInt8)) : callω fns 8 [rawE e .i64 n x] = some (.bool (decide ((bl x).length ≤ 2147483647))) := by
  refine callω_of fns (af := af8) rfl (Nat.le_of_ble_eq_true rfl) ?_
  by_cases h : (bl x).length ≤ 2147483647
  · have h1 : ¬ ((2147483647 : Int) < (bl x).length) := by omega
    simp [xbody, af8, xexec, opsK, opK, take, give, peek, copy, upd, St.put, St.set, St.box, argsK, ldV, stV, cvInt, aInt, aBin, aEq, aStr, fillK, fillV, splice, xend, xresults, xres, pln, oneOrTup, rawE, h, h1]
  · have h1 : ((2147483647 : Int) < (bl x).length) := by omega
    simp [xbody, af8, xexec, opsK, opK, take, give, peek, copy, upd, St.put, St.set, St.box, argsK, ldV, stV, cvInt, aInt, aBin, aEq, aStr, fillK, fillV, splice, xend, xresults, xres, pln, oneOrTup, rawE, h, h1]

theorem wrap_u8 {n : Int} (h0 : 0 ≤ n) (h1 : n ≤ 255) : IntKind.u8.wrap n = n := by
  simp [IntKind.wrap, IntKind.signed, IntKind.bits]; omega

theorem c3 (e : Nat) (n m : Int) (x y : Option (List UInt8)) : callω fns 3 [rawE e .i64 n x, rawE e .i64 m y] = some (.bool true) := by
  refine callω_of fns (af := af3) rfl (Nat.le_of_ble_eq_true rfl) ?_
  have h8a := c8 e n x
  have h8b := c8 e m y
  have h9 := c9 e n m x y
  have h10 := c10 e n m x y
  simp only [rawE] at h8a h8b h9 h10
  by_cases ha : (bl x).length ≤ 2147483647
  case neg => rw [decide_eq_false ha] at h8a; simp [xbody, af3, xexec, opsK, opK, take, give, peek, copy, upd, St.put, St.set, St.box, argsK, ldV, stV, cvInt, aInt, aBin, aEq, aStr, fillK, fillV, splice, xend, xresults, xres, pln, oneOrTup, rawE, bne, h8a]
  rw [decide_eq_true ha] at h8a
  by_cases hb : (bl y).length ≤ 2147483647
  case neg => rw [decide_eq_false hb] at h8b; simp [xbody, af3, xexec, opsK, opK, take, give, peek, copy, upd, St.put, St.set, St.box, argsK, ldV, stV, cvInt, aInt, aBin, aEq, aStr, fillK, fillV, splice, xend, xresults, xres, pln, oneOrTup, rawE, bne, h8a, h8b]
  rw [decide_eq_true hb] at h8b
  by_cases n0 : n < 0
  · simp [xbody, af3, xexec, opsK, opK, take, give, peek, copy, upd, St.put, St.set, St.box, argsK, ldV, stV, cvInt, aInt, aBin, aEq, aStr, fillK, fillV, splice, xend, xresults, xres, pln, oneOrTup, rawE, bne, h8a, h8b, n0]
  by_cases n1 : 255 < n
  · simp [xbody, af3, xexec, opsK, opK, take, give, peek, copy, upd, St.put, St.set, St.box, argsK, ldV, stV, cvInt, aInt, aBin, aEq, aStr, fillK, fillV, splice, xend, xresults, xres, pln, oneOrTup, rawE, bne, h8a, h8b, n0, n1]
  by_cases m0 : m < 0
  · simp [xbody, af3, xexec, opsK, opK, take, give, peek, copy, upd, St.put, St.set, St.box, argsK, ldV, stV, cvInt, aInt, aBin, aEq, aStr, fillK, fillV, splice, xend, xresults, xres, pln, oneOrTup, rawE, bne, h8a, h8b, n0, n1, m0]
  by_cases m1 : 255 < m
  · simp [xbody, af3, xexec, opsK, opK, take, give, peek, copy, upd, St.put, St.set, St.box, argsK, ldV, stV, cvInt, aInt, aBin, aEq, aStr, fillK, fillV, splice, xend, xresults, xres, pln, oneOrTup, rawE, bne, h8a, h8b, n0, n1, m0, m1]
  rw [wrap_u8 (by omega) (by omega), wrap_u8 (by omega) (by omega)] at h9
  cases hr : (n == m && bl x == bl y) <;> rw [hr] at h9 h10 <;>
  simp [xbody, af3, xexec, opsK, opK, take, give, peek, copy, upd, St.put, St.set, St.box, argsK, ldV, stV, cvInt, aInt, aBin, aEq, aStr, fillK, fillV, splice, xend, xresults, xres, pln, oneOrTup, rawE, bne, h8a, h8b, n0, n1, m0, m1, h9, h10]

end Go.Proofs.Ytfamhjnjlgdglaa.Abs
