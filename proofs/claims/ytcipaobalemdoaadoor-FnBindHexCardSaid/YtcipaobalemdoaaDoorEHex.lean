/- Identifiers in hexadecimal digits. -/
import Derived.Test.YtcipaobalemdoaaDoorTR6
import Derived.Test.YtcipaobalemdoaaDoorFFnBindHex
namespace Go.Proofs.YtcipaobalemdoaaDoor.Abs
set_option linter.all false
open Go.Proofs
set_option linter.unusedVariables false
set_option linter.unusedSimpArgs false
set_option maxRecDepth 100000
set_option maxHeartbeats 4000000

def hexD (n : Nat) : UInt8 := if n < 10 then UInt8.ofNat (48 + n) else UInt8.ofNat (87 + n)
def hexB (b : UInt8) : List UInt8 := [hexD (b.toNat / 16), hexD (b.toNat % 16)]
def hexL (l : List UInt8) : List UInt8 := l.flatMap hexB
theorem hexL_length (l : List UInt8) : (hexL l).length = 2 * l.length := by
  induction l with
  | nil => rfl
  | cons b l ih => simp [hexL, hexB] at *; omega
theorem hexL_append (a b : List UInt8) : hexL (a ++ b) = hexL a ++ hexL b := by simp [hexL]
theorem ix_hex {n : Nat} (h : n < 16) : ixStr (.str [48, 49, 50, 51, 52, 53, 54, 55, 56, 57, 97, 98, 99, 100, 101, 102]) (.int .u8 (n : Int)) = some (.int .u8 ((hexD n).toNat : Int)) := by
  have : ∀ m : Fin 16, ([48, 49, 50, 51, 52, 53, 54, 55, 56, 57, 97, 98, 99, 100, 101, 102] : List UInt8)[m.val]? = some (hexD m.val) := by decide
  have h2 := this ⟨n, h⟩
  simp only at h2
  simp [ixStr, h2]

theorem l_encode {i j k e : Nat} {D l : List UInt8} (hij : i ≠ j) (hk : k + 2 * l.length ≤ D.length) (hl : l.length ≤ 1000000) : ∀ (r pre : List UInt8) (st : St), l = pre ++ r →
    st.h.get i = some (.cells (byteCells (setL D k (hexL pre)))) → st.h.get j = some (.cells (byteCells l)) → st.s 0 = .hsl i k 5 1 e → 2 * l.length ≤ e → st.s 5 = .int .i64 (2 * pre.length : Int) → st.s 8 = .hsl j 0 5 1 l.length → st.s 9 = .int .i64 (l.length : Int) → st.s 10 = .int .i64 (pre.length : Int) → st.s 1 = .hsl j 0 5 1 l.length →
    ∀ Q : Ex × St → Prop, (∀ st' : St, st'.h = st.h.set i (.cells (byteCells (setL D k (hexL l)))) → st'.s 1 = .hsl j 0 5 1 l.length → Q (.exit 0, st')) → LoopR fns lc65_0 st Q := by
  intro r
  induction r with
  | nil =>
    intro pre st he hi hj s0 hle s5 s8 s9 s10 s1 Q hQ
    refine loopω_run fns ?_
    have hp : l = pre := by rw [he]; simp
    subst hp
    simp [s9, s10]
    exact hQ _ (by simp [H.set_get hi]) (by simp [s1])
  | cons b r ih =>
    intro pre st he hi hj s0 hle s5 s8 s9 s10 s1 Q hQ
    refine loopω_run fns ?_
    have hlen : l.length = pre.length + (r.length + 1) := by rw [he]; simp
    have hlt : (pre.length : Int) < (l.length : Int) := by omega
    have hlt' : pre.length < l.length := by omega
    have hb : l[pre.length] = b := by subst he; simp
    have hg := byteCells_get l pre.length hlt'
    rw [hb] at hg
    have hg' : (byteCells l)[pre.length]'(by simp [byteCells]; omega) = .int .u8 (b.toNat : Int) := by rw [List.getElem?_eq_getElem (by simp [byteCells]; omega)] at hg; exact Option.some.inj hg
    have hsp : splice (byteCells l) pre.length [.int .u8 (b.toNat : Int)] = byteCells l := by rw [splice_one _ _ _ (by simp [byteCells]; omega), ← hg', set_self']
    have q1 := ix_hex (n := b.toNat / 16) (by have := UInt8.toNat_lt b; omega)
    have q2 := ix_hex (n := b.toNat % 16) (by omega)
    simp only [Int.natCast_ediv, Int.natCast_emod, Int.cast_ofNat_Int] at q1 q2
    have hsh : (b.toNat : Int).fdiv 16 = (b.toNat : Int) / 16 := Int.fdiv_eq_ediv_of_nonneg _ (by omega)
    have hwa : andI .u8 (b.toNat : Int) 15 = (b.toNat : Int) % 16 := by
      have : ∀ x : Fin 256, andI .u8 ((x.val : Nat) : Int) 15 = ((x.val : Nat) : Int) % 16 := by decide +kernel
      exact this ⟨b.toNat, UInt8.toNat_lt b⟩
    have x1 : ((2 * (pre.length : Int))).toNat = 2 * pre.length := by omega
    have x2 : ((2 * (pre.length : Int) + 1)).toNat = 2 * pre.length + 1 := by omega
    have w1 : IntKind.i64.wrap (2 * (pre.length : Int) + 1) = 2 * (pre.length : Int) + 1 := wrap_i64 (by omega) (by omega)
    have w2 : IntKind.i64.wrap (2 * (pre.length : Int) + 2) = 2 * (pre.length : Int) + 2 := wrap_i64 (by omega) (by omega)
    have w3 : IntKind.i64.wrap ((pre.length : Int) + 1) = (pre.length : Int) + 1 := wrap_i64 (by omega) (by omega)
    have b1 : 2 * (pre.length : Int) < (e : Int) := by omega
    have b2 : 2 * (pre.length : Int) + 1 < (e : Int) := by omega
    have b3 : (0 : Int) ≤ 2 * (pre.length : Int) := by omega
    have b4 : (0 : Int) ≤ 2 * (pre.length : Int) + 1 := by omega
    have hD : (setL D k (hexL pre)).length = D.length := setL_length _ _ _ (by rw [hexL_length]; omega)
    have hD1 : (setL (setL D k (hexL pre)) (k + 2 * pre.length) [hexD (b.toNat / 16)]).length = D.length := by rw [setL_length _ _ _ (by simp; omega), hD]
    have c1 : k + 2 * pre.length + 1 ≤ D.length := by omega
    have c2 : k + (2 * pre.length + 1) + 1 ≤ D.length := by omega
    have e1 : setL (setL (setL D k (hexL pre)) (k + 2 * pre.length) [hexD (b.toNat / 16)]) (k + (2 * pre.length + 1)) [hexD (b.toNat % 16)] = setL D k (hexL (pre ++ [b])) := by
      have a1 := setL_setL D k (hexL pre) [hexD (b.toNat / 16)] (by rw [hexL_length]; simp; omega)
      rw [hexL_length] at a1
      have a2 := setL_setL D k (hexL pre ++ [hexD (b.toNat / 16)]) [hexD (b.toNat % 16)] (by simp [hexL_length]; omega)
      simp only [List.length_append, hexL_length, List.length_cons, List.length_nil] at a2
      rw [a1, show k + (2 * pre.length + 1) = k + (2 * pre.length + (0 + 1)) by omega, a2, hexL_append]
      simp [hexL, hexB]
    have g1 := H.set_get hj
    simp [-ixStr, ixV, s0, s1, s5, s8, s9, s10, hlt, hlt', hj, hg, hg', hsp, hi, ldO, H.set_get hj, -splice, stO, splice_byte, H.get_set_same hi, AV.isOwn, aShift, IntKind.bits, hsh, hwa, q1, q2, x1, x2, w1, w2, w3, b1, b2, b3, b4, hD, hD1, c1, c2, e1]
    refine ih (pre ++ [b]) _ (by rw [he]; simp) ?_ ?_ ?_ hle ?_ ?_ ?_ ?_ ?_ Q (fun st' h1 h2 => hQ st' (by simpa using h1) h2)
    · simp [H.get_set_same hi]
    · simp only; rw [H.get_set_ne _ _ (Ne.symm hij)]; exact hj
    · simp [s0]
    · simp; omega
    · simp
    · simp [s9]
    · simp
    · simp [s1]
theorem setL_nil (D : List UInt8) (k : Nat) : setL D k [] = D := by simp [setL]
theorem c_Encode {h : H} {i j k e : Nat} {D l : List UInt8} (hij : i ≠ j) (hi : h.get i = some (.cells (byteCells D))) (hj : h.get j = some (.cells (byteCells l))) (hk : k + 2 * l.length ≤ D.length) (he : 2 * l.length ≤ e) (hl : l.length ≤ 1000000) :
    callω fns 65 [.hsl i k 5 1 e, .hsl j 0 5 1 l.length] h = some (.int .i64 (2 * l.length : Int), h.set i (.cells (byteCells (setL D k (hexL l))))) := by
  refine run65 (Nat.le_of_ble_eq_true rfl) ?_
  have w : IntKind.i64.wrap ((l.length : Int) * 2) = 2 * l.length := by rw [wrap_i64 (by omega) (by omega)]; omega
  simp
  refine l_encode (D := D) hij hk hl l [] _ rfl ?_ ?_ ?_ he ?_ ?_ ?_ ?_ ?_ _ (fun st' h1 h2 => ?_)
  · simp [hexL, setL_nil, hi]
  · simp [hj]
  · simp
  · simp
  · simp
  · simp
  · simp
  · simp
  · simp [h1, h2, w]

theorem z12 : ([.int .u8 0, .int .u8 0, .int .u8 0, .int .u8 0, .int .u8 0, .int .u8 0, .int .u8 0, .int .u8 0, .int .u8 0, .int .u8 0, .int .u8 0, .int .u8 0] : List AV) = byteCells (List.replicate 12 0) := rfl
theorem z24 : ([.int .u8 0, .int .u8 0, .int .u8 0, .int .u8 0, .int .u8 0, .int .u8 0, .int .u8 0, .int .u8 0, .int .u8 0, .int .u8 0, .int .u8 0, .int .u8 0, .int .u8 0, .int .u8 0, .int .u8 0, .int .u8 0, .int .u8 0, .int .u8 0, .int .u8 0, .int .u8 0, .int .u8 0, .int .u8 0, .int .u8 0, .int .u8 0] : List AV) = byteCells (List.replicate 24 0) := rfl
theorem z26 : ([.int .u8 0, .int .u8 0, .int .u8 0, .int .u8 0, .int .u8 0, .int .u8 0, .int .u8 0, .int .u8 0, .int .u8 0, .int .u8 0, .int .u8 0, .int .u8 0, .int .u8 0, .int .u8 0, .int .u8 0, .int .u8 0, .int .u8 0, .int .u8 0, .int .u8 0, .int .u8 0, .int .u8 0, .int .u8 0, .int .u8 0, .int .u8 0, .int .u8 0, .int .u8 0] : List AV) = byteCells (List.replicate 26 0) := rfl
theorem cpRow_arr {st : St} {i n e : Nat} {D l : List UInt8} (hg : st.h.get i = some (.cells (byteCells D))) (hD : D.length = n) (hl : l.length = n) :
    cpRow 1 false (.hsl i 0 e 1 n) (bAV 5 (some l)) st = some (.int .i64 (n : Int), ⟨st.s, st.b, st.h.set i (.cells (byteCells l))⟩) := by
  have h1 : (byteCells D).length = n := by simp [byteCells, hD]
  have h2 : (byteCells l).length = n := by simp [byteCells, hl]
  have h3 : splice (byteCells D) 0 ((byteCells l).take n) = byteCells l := by
    rw [show (byteCells l).take n = byteCells l by rw [← h2, List.take_length]]
    simp [splice, h2, List.drop_of_length_le, h1]
  simp [cpRow, moreV, bAV, hg, h1, h2, h3, -splice]
theorem stO_arr {n : Nat} {D l : List UInt8} (hD : D.length = n) (hl : l.length = n) : stO n 0 (.agg (byteCells l)) (.cells (byteCells D)) = some (.cells (byteCells l)) := by
  have h1 : (byteCells D).length = n := by simp [byteCells, hD]
  have h2 : (byteCells l).length = n := by simp [byteCells, hl]
  have h3 : splice (byteCells D) 0 (byteCells l) = byteCells l := by simp [splice, h2, List.drop_of_length_le, h1]
  simp [stO, AV.plain, AV.cells, h1, h2, h3, -splice]
section
variable {l : List UInt8} (hl : l.length = 12)
theorem c_id (hl : l.length = 12) : ∀ hE : H, callv fns 43 [bAV 5 (some l)] hE = some (.agg (byteCells l)) := by
  intro hE
  refine runv43 (Nat.le_of_ble_eq_true rfl) ?_
  have hcp : ∀ (s : Nat → AV) (b : Nat → Option Obj), cpRow 1 false (.hsl hE.n 0 5 1 12) (bAV 5 (some l)) ⟨s, b, hE.push (.cells (byteCells (List.replicate 12 0)))⟩ = some (.int .i64 12, ⟨s, b, (hE.push (.cells (byteCells (List.replicate 12 0)))).set hE.n (.cells (byteCells l))⟩) := fun s b =>
    cpRow_arr (st := ⟨s, b, _⟩) (D := List.replicate 12 0) (H.get_push_n _ _) (by simp) hl
  have hld := ldO_arr (m := .take) hl
  have hst := stO_arr (D := l) (l := l) hl hl
  rw [← z12] at hcp
  simp [hcp, hld, hst, -ldO_ct, -stO_c, -splice, noHeap_old]
theorem c_Hex (hl : l.length = 12) : ∀ hE : H, callv fns 44 [.agg (byteCells l)] hE = some (.str (hexL l)) := by
  intro hE
  refine runv44 (Nat.le_of_ble_eq_true rfl) ?_
  have henc := c_Encode (h := hE.app [.cells (byteCells l), .cells (byteCells (List.replicate 24 0))]) (i := hE.n + 1) (j := hE.n) (k := 0) (e := 24) (D := List.replicate 24 0) (l := l) (by omega) (by simp) (by simp) (by simp; omega) (by omega) (by omega)
  have hfull : setL (List.replicate 24 0) 0 (hexL l) = hexL l := by simp [setL, hexL_length, hl]
  have hx := hexL_length l
  rw [hl] at hx henc
  rw [hfull, H.set_app _ _ (by simp), ← z24] at henc
  simp at henc
  have hcv := cvBS_arr (h := hE.app [.cells (byteCells l), .cells (byteCells (hexL l))]) (i := hE.n + 1) (k := 0) (e := 5) (m := 24) (l := hexL l) (by simp) (by omega)
  simp [hx, List.take_of_length_le] at hcv
  simp [H.push_app, H.app_app, henc, hcv, noHeap_old]
theorem c_MarshalText (hl : l.length = 12) : ∀ hE : H, callω fns 45 [.agg (byteCells l)] hE = some (.tup [.hsl (hE.n + 1) 0 5 1 24, .nilI], hE.app [.cells (byteCells l), .cells (byteCells (hexL l))]) := by
  intro hE
  refine run45 (Nat.le_of_ble_eq_true rfl) ?_
  have henc := c_Encode (h := hE.app [.cells (byteCells l), .cells (byteCells (List.replicate 24 0))]) (i := hE.n + 1) (j := hE.n) (k := 0) (e := 24) (D := List.replicate 24 0) (l := l) (by omega) (by simp) (by simp) (by simp; omega) (by omega) (by omega)
  have hfull : setL (List.replicate 24 0) 0 (hexL l) = hexL l := by simp [setL, hexL_length, hl]
  have hx := hexL_length l
  rw [hl] at hx henc
  rw [hfull, H.set_app _ _ (by simp), ← z24] at henc
  simp at henc
  simp [H.push_app, H.app_app, henc]
def jsonL (l : List UInt8) : List UInt8 := 34 :: (hexL l ++ [34])
theorem z26' : ([.int .u8 34, .int .u8 0, .int .u8 0, .int .u8 0, .int .u8 0, .int .u8 0, .int .u8 0, .int .u8 0, .int .u8 0, .int .u8 0, .int .u8 0, .int .u8 0, .int .u8 0, .int .u8 0, .int .u8 0, .int .u8 0, .int .u8 0, .int .u8 0, .int .u8 0, .int .u8 0, .int .u8 0, .int .u8 0, .int .u8 0, .int .u8 0, .int .u8 0, .int .u8 0] : List AV) = byteCells (34 :: List.replicate 25 0) := rfl
theorem c_MarshalJSON (hl : l.length = 12) : ∀ hE : H, callω fns 46 [.agg (byteCells l)] hE = some (.tup [.hsl (hE.n + 1) 0 5 1 26, .nilI], hE.app [.cells (byteCells l), .cells (byteCells (jsonL l))]) := by
  intro hE
  refine run46 (Nat.le_of_ble_eq_true rfl) ?_
  have henc := c_Encode (h := hE.app [.cells (byteCells l), .cells (byteCells (34 :: List.replicate 25 0))]) (i := hE.n + 1) (j := hE.n) (k := 1) (e := 24) (D := 34 :: List.replicate 25 0) (l := l) (by omega) (by simp) (by simp) (by simp; omega) (by omega) (by omega)
  have hfull : setL (34 :: List.replicate 25 0) 1 (hexL l) = 34 :: (hexL l ++ [0]) := by simp [setL, hexL_length, hl]
  have hx := hexL_length l
  rw [hl] at hx henc
  rw [hfull, H.set_app _ _ (by simp), ← z26'] at henc
  simp at henc
  have hst : stO 1 25 (.int .u8 34) (.cells (byteCells (34 :: (hexL l ++ [0])))) = some (.cells (byteCells (jsonL l))) := by
    have h1 : (byteCells (34 :: (hexL l ++ [0]))).length = 26 := by simp [byteCells, hx]
    have h2 : splice (byteCells (34 :: (hexL l ++ [0]))) 25 [.int .u8 34] = byteCells (jsonL l) := by
      have h3 := splice_byte (34 :: (hexL l ++ [0])) 25 34
      have h4 : setL (34 :: (hexL l ++ [0])) 25 [34] = jsonL l := by simp [setL, jsonL, hx, List.take_append_of_le_length, List.take_of_length_le]
      rw [h4] at h3; exact h3
    simp [stO, h1, h2, -splice]
  have hst0 : stO 1 0 (.int .u8 34) (.cells [.int .u8 0, .int .u8 0, .int .u8 0, .int .u8 0, .int .u8 0, .int .u8 0, .int .u8 0, .int .u8 0, .int .u8 0, .int .u8 0, .int .u8 0, .int .u8 0, .int .u8 0, .int .u8 0, .int .u8 0, .int .u8 0, .int .u8 0, .int .u8 0, .int .u8 0, .int .u8 0, .int .u8 0, .int .u8 0, .int .u8 0, .int .u8 0, .int .u8 0, .int .u8 0]) = some (.cells [.int .u8 34, .int .u8 0, .int .u8 0, .int .u8 0, .int .u8 0, .int .u8 0, .int .u8 0, .int .u8 0, .int .u8 0, .int .u8 0, .int .u8 0, .int .u8 0, .int .u8 0, .int .u8 0, .int .u8 0, .int .u8 0, .int .u8 0, .int .u8 0, .int .u8 0, .int .u8 0, .int .u8 0, .int .u8 0, .int .u8 0, .int .u8 0, .int .u8 0, .int .u8 0]) := rfl
  have sa : ∀ (os : List Obj) (j : Nat) (o : Obj), j < os.length → (hE.app os).set (hE.n + j) o = hE.app (os.set j o) := fun os j o h => H.set_app _ _ h _
  simp [H.push_app, H.app_app, henc, hst, hst0, -stO_c, -splice, sa]
theorem c_ownArr {h : H} {i n : Nat} {l : List UInt8} (hg : h.get i = some (.cells (byteCells l))) (hn : l.length = n) (hm : n ≤ 1073741824) :
    callω fns 33 [.hsl i 0 5 1 n] h = some ((BS.mk l).av 5, h) := by
  refine run33 (Nat.le_of_ble_eq_true rfl) ?_
  have h1 := apV_arr (h := h) (e := 5) (i := i) (k := 0) (m := n) hg (by omega) hm
  simp only [List.drop_zero, List.take_of_length_le (Nat.le_of_eq hn)] at h1
  simp [h1]
theorem c_IDText (hl : l.length = 12) : ∀ hE : H, callv fns 20 [bAV 5 (some l)] hE = some (.tup [(BS.mk (hexL l)).av 5, .bool true]) := by
  intro hE
  refine runv20 (Nat.le_of_ble_eq_true rfl) ?_
  have h1 := c_id hl
  have h2 := c_MarshalText hl
  have hx := hexL_length l
  rw [hl] at hx
  have h3 := c_ownArr (h := hE.app [.cells (byteCells l), .cells (byteCells (hexL l))]) (i := hE.n + 1) (n := 24) (l := hexL l) (by simp) (by omega) (by omega)
  simp [h1, h2, h3, exV, noHeap_old]
theorem c_IDJSON (hl : l.length = 12) : ∀ hE : H, callv fns 21 [bAV 5 (some l)] hE = some (.tup [(BS.mk (jsonL l)).av 5, .bool true]) := by
  intro hE
  refine runv21 (Nat.le_of_ble_eq_true rfl) ?_
  have h1 := c_id hl
  have h2 := c_MarshalJSON hl
  have hx := hexL_length l
  rw [hl] at hx
  have h3 := c_ownArr (h := hE.app [.cells (byteCells l), .cells (byteCells (jsonL l))]) (i := hE.n + 1) (n := 26) (l := jsonL l) (by simp) (by simp [jsonL, hx]) (by omega)
  simp [h1, h2, h3, exV, noHeap_old]
theorem c_IDHex (hl : l.length = 12) : ∀ hE : H, callv fns 19 [bAV 5 (some l)] hE = some (.str (hexL l)) := by
  intro hE
  refine runv19 (Nat.le_of_ble_eq_true rfl) ?_
  simp [c_id hl, c_Hex hl, noHeap_old]
end

/-! ### Read -/
theorem rev_hex {n : Nat} (h : n < 16) : ixStr (.str [255, 255, 255, 255, 255, 255, 255, 255, 255, 255, 255, 255, 255, 255, 255, 255, 255, 255, 255, 255, 255, 255, 255, 255, 255, 255, 255, 255, 255, 255, 255, 255, 255, 255, 255, 255, 255, 255, 255, 255, 255, 255, 255, 255, 255, 255, 255, 255, 0, 1, 2, 3, 4, 5, 6, 7, 8, 9, 255, 255, 255, 255, 255, 255, 255, 10, 11, 12, 13, 14, 15, 255, 255, 255, 255, 255, 255, 255, 255, 255, 255, 255, 255, 255, 255, 255, 255, 255, 255, 255, 255, 255, 255, 255, 255, 255, 255, 10, 11, 12, 13, 14, 15, 255, 255, 255, 255, 255, 255, 255, 255, 255, 255, 255, 255, 255, 255, 255, 255, 255, 255, 255, 255, 255, 255, 255, 255, 255, 255, 255, 255, 255, 255, 255, 255, 255, 255, 255, 255, 255, 255, 255, 255, 255, 255, 255, 255, 255, 255, 255, 255, 255, 255, 255, 255, 255, 255, 255, 255, 255, 255, 255, 255, 255, 255, 255, 255, 255, 255, 255, 255, 255, 255, 255, 255, 255, 255, 255, 255, 255, 255, 255, 255, 255, 255, 255, 255, 255, 255, 255, 255, 255, 255, 255, 255, 255, 255, 255, 255, 255, 255, 255, 255, 255, 255, 255, 255, 255, 255, 255, 255, 255, 255, 255, 255, 255, 255, 255, 255, 255, 255, 255, 255, 255, 255, 255, 255, 255, 255, 255, 255, 255, 255, 255, 255, 255, 255, 255, 255, 255, 255, 255, 255, 255, 255, 255, 255, 255, 255, 255, 255, 255, 255, 255, 255, 255]) (.int .u8 ((hexD n).toNat : Int)) = some (.int .u8 (n : Int)) := by
  have : ∀ m : Fin 16, ([255, 255, 255, 255, 255, 255, 255, 255, 255, 255, 255, 255, 255, 255, 255, 255, 255, 255, 255, 255, 255, 255, 255, 255, 255, 255, 255, 255, 255, 255, 255, 255, 255, 255, 255, 255, 255, 255, 255, 255, 255, 255, 255, 255, 255, 255, 255, 255, 0, 1, 2, 3, 4, 5, 6, 7, 8, 9, 255, 255, 255, 255, 255, 255, 255, 10, 11, 12, 13, 14, 15, 255, 255, 255, 255, 255, 255, 255, 255, 255, 255, 255, 255, 255, 255, 255, 255, 255, 255, 255, 255, 255, 255, 255, 255, 255, 255, 10, 11, 12, 13, 14, 15, 255, 255, 255, 255, 255, 255, 255, 255, 255, 255, 255, 255, 255, 255, 255, 255, 255, 255, 255, 255, 255, 255, 255, 255, 255, 255, 255, 255, 255, 255, 255, 255, 255, 255, 255, 255, 255, 255, 255, 255, 255, 255, 255, 255, 255, 255, 255, 255, 255, 255, 255, 255, 255, 255, 255, 255, 255, 255, 255, 255, 255, 255, 255, 255, 255, 255, 255, 255, 255, 255, 255, 255, 255, 255, 255, 255, 255, 255, 255, 255, 255, 255, 255, 255, 255, 255, 255, 255, 255, 255, 255, 255, 255, 255, 255, 255, 255, 255, 255, 255, 255, 255, 255, 255, 255, 255, 255, 255, 255, 255, 255, 255, 255, 255, 255, 255, 255, 255, 255, 255, 255, 255, 255, 255, 255, 255, 255, 255, 255, 255, 255, 255, 255, 255, 255, 255, 255, 255, 255, 255, 255, 255, 255, 255, 255, 255, 255, 255, 255, 255, 255, 255, 255] : List UInt8)[(hexD m.val).toNat]? = some (UInt8.ofNat m.val) := by decide +kernel
  have h2 := this ⟨n, h⟩
  simp only at h2
  simp only [ixStr, Int.toNat_natCast, h2]
  simp; omega
theorem hexL_get (l : List UInt8) (k : Nat) (hk : k < l.length) : (hexL l)[2 * k]? = some (hexD (l[k].toNat / 16)) ∧ (hexL l)[2 * k + 1]? = some (hexD (l[k].toNat % 16)) := by
  have hs : l = l.take k ++ l[k] :: l.drop (k + 1) := by rw [List.getElem_cons_drop, List.take_append_drop]
  have hl : (hexL (l.take k)).length = 2 * k := by rw [hexL_length]; simp; omega
  have he : hexL l = hexL (l.take k) ++ (hexD (l[k].toNat / 16) :: hexD (l[k].toNat % 16) :: hexL (l.drop (k + 1))) := by
    have h1 : hexL l = hexL (l.take k) ++ hexL (l.drop k) := by rw [← hexL_append, List.take_append_drop]
    rw [h1, List.drop_eq_getElem_cons hk]; rfl
  rw [he]
  constructor
  · rw [List.getElem?_append_right (by omega)]; simp [hl]
  · rw [List.getElem?_append_right (by omega)]; simp [hl]
theorem l_decode {i e : Nat} {D l : List UInt8} (hk : l.length ≤ D.length) (he' : l.length ≤ e) (hl : l.length ≤ 1000000) : ∀ (r pre : List UInt8) (st : St), l = pre ++ r →
    st.h.get i = some (.cells (byteCells (setL D 0 pre))) → st.s 0 = .hsl i 0 5 1 e → st.s 1 = bAV 5 (some (hexL l)) → st.s 6 = .int .i64 (pre.length : Int) → st.s 7 = .int .i64 (2 * pre.length : Int) →
    ∀ Q : Ex × St → Prop, (∀ st' : St, st'.h = st.h.set i (.cells (byteCells (setL D 0 l))) → st'.s 1 = bAV 5 (some (hexL l)) → st'.s 6 = .int .i64 (l.length : Int) → Q (.exit 0, st')) → LoopR fns lc66_0 st Q := by
  intro r
  induction r with
  | nil =>
    intro pre st he hi s0 s1 s6 s7 Q hQ
    refine loopω_run fns ?_
    have hp : l = pre := by rw [he]; simp
    subst hp
    have hlen := bAV_len 5 (hexL l)
    rw [bl_some, hexL_length] at hlen
    have w : IntKind.i64.wrap (((2 * l.length : Nat) : Int) - 1) = ((2 * l.length : Nat) : Int) - 1 := wrap_i64 (by omega) (by omega)
    have hn : ¬ (2 * (l.length : Int) < ((2 * l.length : Nat) : Int) - 1) := by omega
    simp [s0, s1, s6, s7, hlen, -bAV_len]
    have w' : IntKind.i64.wrap (2 * (l.length : Int) - 1) = 2 * (l.length : Int) - 1 := wrap_i64 (by omega) (by omega)
    simp [w', show ¬ (2 * (l.length : Int) < 2 * (l.length : Int) - 1) by omega]
    exact hQ _ (by simp [H.set_get hi]) (by simp [s1]) (by simp [s6])
  | cons b r ih =>
    intro pre st he hi s0 s1 s6 s7 Q hQ
    refine loopω_run fns ?_
    have hlen0 : l.length = pre.length + (r.length + 1) := by rw [he]; simp
    have hlt' : pre.length < l.length := by omega
    have hb : l[pre.length] = b := by subst he; simp
    obtain ⟨k1, k2⟩ := hexL_get l pre.length hlt'
    rw [hb] at k1 k2
    have hx := hexL_length l
    have i1 := bAV_at (e := 5) (l := hexL l) (k := 2 * pre.length) (by omega)
    have i2 := bAV_at (e := 5) (l := hexL l) (k := 2 * pre.length + 1) (by omega)
    rw [List.getElem?_eq_getElem (by omega)] at k1 k2
    rw [Option.some.inj k1] at i1
    rw [Option.some.inj k2] at i2
    have hlen := bAV_len 5 (hexL l)
    rw [bl_some, hexL_length] at hlen
    have q1 := rev_hex (n := b.toNat / 16) (by have := UInt8.toNat_lt b; omega)
    have q2 := rev_hex (n := b.toNat % 16) (by omega)
    have hor : orI .u8 (IntKind.u8.wrap ((b.toNat : Int) / 16 * 16)) ((b.toNat : Int) % 16) = (b.toNat : Int) := by
      have : ∀ x : Fin 256, orI .u8 (IntKind.u8.wrap (((x.val : Nat) : Int) / 16 * 16)) (((x.val : Nat) : Int) % 16) = ((x.val : Nat) : Int) := by decide +kernel
      exact this ⟨b.toNat, UInt8.toNat_lt b⟩
    have hd1 : ¬ (15 : Int) < (b.toNat : Int) / 16 := by have := UInt8.toNat_lt b; omega
    have hd2 : ¬ (15 : Int) < (b.toNat : Int) % 16 := by omega
    have w0 : IntKind.i64.wrap (2 * (l.length : Int) - 1) = 2 * (l.length : Int) - 1 := wrap_i64 (by omega) (by omega)
    have w1 : IntKind.i64.wrap (2 * (pre.length : Int) + 1) = 2 * (pre.length : Int) + 1 := wrap_i64 (by omega) (by omega)
    have w2 : IntKind.i64.wrap (2 * (pre.length : Int) + 2) = 2 * (pre.length : Int) + 2 := wrap_i64 (by omega) (by omega)
    have w3 : IntKind.i64.wrap ((pre.length : Int) + 1) = (pre.length : Int) + 1 := wrap_i64 (by omega) (by omega)
    have hgo : 2 * (pre.length : Int) < 2 * (l.length : Int) - 1 := by omega
    have b1 : (pre.length : Int) < (e : Int) := by omega
    have b1' : pre.length < e := by omega
    have hD : (setL D 0 pre).length = D.length := setL_length _ _ _ (by omega)
    have c1 : pre.length + 1 ≤ D.length := by omega
    have e1 : setL (setL D 0 pre) pre.length [b] = setL D 0 (pre ++ [b]) := by
      have a1 := setL_setL D 0 pre [b] (by simp; omega)
      simpa using a1
    have hsp : splice (byteCells (setL D 0 pre)) pre.length [.int .u8 (b.toNat : Int)] = byteCells (setL D 0 (pre ++ [b])) := by rw [splice_byte, e1]
    have hix : ixV 1 (.hsl i 0 5 1 e) (.int .i64 (pre.length : Int)) = some (.ptr (.obj i) pre.length) := by simp [ixV, b1, b1']
    simp only [Int.natCast_mul, Int.natCast_add, Int.cast_ofNat_Int, Int.natCast_ediv, Int.natCast_emod] at i1 i2 q1 q2 hlen
    simp [-ixStr, -splice, s0, s1, s6, s7, hlen, w0, w1, w2, w3, hgo, i1, i2, q1, q2, hor, hd1, hd2, hix, hi, stO, AV.isOwn, hD, c1, hsp, aShift, IntKind.bits]
    refine ih (pre ++ [b]) _ (by rw [he]; simp) ?_ ?_ ?_ ?_ ?_ Q (fun st' h1 h2 h3 => hQ st' (by simpa using h1) h2 h3)
    · simp [H.get_set_same hi]
    · simp [s0]
    · simp [s1]
    · simp
    · simp; omega
theorem c_Decode {h : H} {i e : Nat} {D l : List UInt8} (hi : h.get i = some (.cells (byteCells D))) (hk : l.length ≤ D.length) (he : l.length ≤ e) (hl : l.length ≤ 1000000) :
    callω fns 66 [.hsl i 0 5 1 e, bAV 5 (some (hexL l))] h = some (.tup [.int .i64 (l.length : Int), .nilI], h.set i (.cells (byteCells (setL D 0 l)))) := by
  refine run66 (Nat.le_of_ble_eq_true rfl) ?_
  have hlen := bAV_len 5 (hexL l)
  rw [bl_some, hexL_length] at hlen
  simp only [Int.natCast_mul, Int.cast_ofNat_Int] at hlen
  have hm : (2 * (l.length : Int)).tmod 2 = 0 := by rw [Int.tmod_eq_emod_of_nonneg (by omega)]; omega
  simp
  refine l_decode (i := i) (D := D) hk he hl l [] _ rfl ?_ ?_ ?_ ?_ ?_ _ (fun st' h1 h2 h3 => ?_)
  · simp [setL_nil, hi]
  · simp
  · simp
  · simp
  · simp
  · simp [h1, h2, h3, hlen, hm]
section
variable {l : List UInt8}
theorem cvSB_b (e : Nat) (s : List UInt8) (hs : s.length ≤ 1000000) : cvSB e (.str s) = some (bAV e (some s)) := by
  have : s.length ≤ tooLong := by simp only [tooLong]; omega
  simp [cvSB, bAV, this]
theorem c_FromHex (hl : l.length = 12) : ∀ hE : H, callω fns 47 [.str (hexL l)] hE = some (.tup [.agg (byteCells l), .nilI], hE.push (.cells (byteCells l))) := by
  intro hE
  refine run47 (Nat.le_of_ble_eq_true rfl) ?_
  have hx := hexL_length l
  rw [hl] at hx
  have hcv := cvSB_b 5 (hexL l) (by omega)
  have hd := c_Decode (h := hE.push (.cells (byteCells (List.replicate 12 0)))) (i := hE.n) (e := 12) (D := List.replicate 12 0) (l := l) (by simp) (by simp; omega) (by omega) (by omega)
  have hfull : setL (List.replicate 12 0) 0 l = l := by simp [setL, hl]
  rw [hfull, H.push_set_n, hl, ← z12] at hd
  have hld := ldO_arr (m := .take) hl
  have hst := stO_arr (n := 12) (D := List.replicate 12 0) (l := l) (by simp) hl
  rw [← z12] at hst
  have hlen : ((hexL l).length : Int) = 24 := by omega
  simp at hd
  simp [hlen, hx, hcv, hd, ex2_0, ex2_1, hld, hst, -ldO_ct, -stO_c, -splice, H.set_get]
theorem c_IDFromHex (hl : l.length = 12) : ∀ hE : H, callv fns 22 [.str (hexL l)] hE = some (.tup [(BS.mk l).av 5, .bool true]) := by
  intro hE
  refine runv22 (Nat.le_of_ble_eq_true rfl) ?_
  have h1 := c_FromHex hl
  have hst := stO_arr (n := 12) (D := List.replicate 12 0) (l := l) (by simp) hl
  rw [← z12] at hst
  have h3 := c_ownArr (h := hE.app [.cells (byteCells l), .cells (byteCells l)]) (i := hE.n + 1) (n := 12) (l := l) (by simp) (by omega) (by omega)
  have sa : ∀ (os : List Obj) (j : Nat) (o : Obj), j < os.length → (hE.app os).set (hE.n + j) o = hE.app (os.set j o) := fun os j o h => H.set_app _ _ h _
  simp [h1, H.push_app, H.app_app, ex2_0, ex2_1, hst, -stO_c, -splice, sa, h3, noHeap_old]
theorem c_Unmarshal (hl : l.length = 12) {h : H} {i : Nat} {D : List UInt8} (hi : h.get i = some (.cells (byteCells D))) (hD : D.length = 12) :
    callω fns 48 [.ptr (.obj i) 0, bAV 5 (some (hexL l))] h = some (.nilI, (h.push (.cells (byteCells l))).set i (.cells (byteCells l))) := by
  refine run48 (Nat.le_of_ble_eq_true rfl) ?_
  have h1 := c_FromHex hl
  have hx := hexL_length l
  rw [hl] at hx
  have hlen := bAV_len 5 (hexL l)
  rw [bl_some, hx] at hlen
  have hst := stO_arr (n := 12) (D := List.replicate 12 0) (l := l) (by simp) hl
  rw [← z12] at hst
  have hst2 := stO_arr (n := 12) (D := D) (l := l) hD hl
  have hld := ldO_arr (m := .take) hl
  simp [hlen, h1, ex2_0, ex2_1, hst, hst2, hld, -ldO_ct, -stO_c, -splice, H.get_push_old hi, nnV]
theorem c_IDFromText (hl : l.length = 12) {D : List UInt8} (hD : D.length = 12) : ∀ hE : H, callv fns 23 [bAV 5 (some D), bAV 5 (some (hexL l))] hE = some (.tup [(BS.mk l).av 5, .bool true]) := by
  intro hE
  refine runv23 (Nat.le_of_ble_eq_true rfl) ?_
  have h1 := c_id hD
  have hst := stO_arr (n := 12) (D := List.replicate 12 0) (l := D) (by simp) hD
  rw [← z12] at hst
  have h2 := c_Unmarshal hl (h := hE.app [.cells (byteCells D)]) (i := hE.n) (D := D) (by simp) hD
  rw [H.push_app, H.app_app] at h2
  simp at h2
  have h3 := c_ownArr (h := hE.app [.cells (byteCells l), .cells (byteCells l)]) (i := hE.n) (n := 12) (l := l) (by simp) (by omega) (by omega)
  simp [h1, H.push_app, H.app_app, ex2_0, ex2_1, hst, -stO_c, -splice, h2, h3, noHeap_old]

/-! ### What is to be written -/
theorem l_BindHex {l : List UInt8} (hl : l.length ≤ 1000000) : ∀ (r pre : List UInt8) (st : St) (b : BS), l = pre ++ r → b.l = hexL pre → st.s 0 = bAV 5 (some l) → st.s 3 = .str [48, 49, 50, 51, 52, 53, 54, 55, 56, 57, 97, 98, 99, 100, 101, 102] → st.s 4 = b.av 5 → st.s 5 = .int .i64 (pre.length : Int) →
    ∀ Q : Ex × St → Prop, (∀ (st' : St) (b' : BS), st'.h = st.h → b'.l = hexL l → st'.s 4 = b'.av 5 → Q (.exit 0, st')) → LoopR fns lc24_0 st Q := by
  intro r
  induction r with
  | nil =>
    intro pre st b he hb s0 s3 s4 s5 Q hQ
    refine loopω_run fns ?_
    have hp : l = pre := by rw [he]; simp
    subst hp
    have hlen := bAV_len 5 l
    rw [bl_some] at hlen
    simp [s0, s5, hlen]
    exact hQ _ b rfl hb (by simp [s4])
  | cons c r ih =>
    intro pre st b he hb s0 s3 s4 s5 Q hQ
    refine loopω_run fns ?_
    have hlen0 : l.length = pre.length + (r.length + 1) := by rw [he]; simp
    have hlt' : pre.length < l.length := by omega
    have hlt : (pre.length : Int) < (l.length : Int) := by omega
    have hc : l[pre.length] = c := by subst he; simp
    have i1 := bAV_at (e := 5) hlt'
    rw [hc] at i1
    have hlen := bAV_len 5 l
    rw [bl_some] at hlen
    have q1 := ix_hex (n := c.toNat / 16) (by have := UInt8.toNat_lt c; omega)
    have q2 := ix_hex (n := c.toNat % 16) (by omega)
    have hq : IntKind.u8.wrap ((c.toNat : Int).tdiv 16) = (c.toNat : Int) / 16 := by
      have : ∀ x : Fin 256, IntKind.u8.wrap (((x.val : Nat) : Int).tdiv 16) = ((x.val : Nat) : Int) / 16 := by decide +kernel
      exact this ⟨c.toNat, UInt8.toNat_lt c⟩
    have hq2 : IntKind.u8.wrap ((c.toNat : Int) / 16) = (c.toNat : Int) / 16 := by
      have : ∀ x : Fin 256, IntKind.u8.wrap (((x.val : Nat) : Int) / 16) = ((x.val : Nat) : Int) / 16 := by decide +kernel
      exact this ⟨c.toNat, UInt8.toNat_lt c⟩
    have hm : (c.toNat : Int).tmod 16 = (c.toNat : Int) % 16 := Int.tmod_eq_emod_of_nonneg (by omega)
    have w3 : IntKind.i64.wrap ((pre.length : Int) + 1) = (pre.length : Int) + 1 := wrap_i64 (by omega) (by omega)
    have hap : ∀ hp : H, apV hp 5 1 1 false (b.av 5) (.slice (.own true) 5 1 [.int .u8 ((hexD (c.toNat / 16)).toNat : Int), .int .u8 ((hexD (c.toNat % 16)).toNat : Int)]) = some ((b.app (hexB c)).av 5) := fun hp =>
      apV_bytes b (.lit true _ (hexB c) rfl) (by rw [hb, hexL_length]; simp [hexB, tooLong]; omega)
    simp only [Int.natCast_ediv, Int.natCast_emod, Int.cast_ofNat_Int] at q1 q2
    simp [-ixStr, s0, s3, s4, s5, hlen, hlt, i1, q1, q2, hq, hq2, hm, w3, hap]
    refine ih (pre ++ [c]) _ (b.app (hexB c)) (by rw [he]; simp) (by rw [BS.l_app, hb, hexL_append]; simp [hexL]) ?_ ?_ ?_ ?_ Q (fun st' b' h1 h2 h3 => hQ st' b' (by simpa using h1) h2 h3)
    · simp [s0]
    · simp [s3]
    · simp
    · simp
theorem c_BindHex {l : List UInt8} (hl : l.length ≤ 1000000) : ∀ hE : H, callω fns 24 [bAV 5 (some l)] hE = some (.str (hexL l), hE) := by
  intro hE
  refine run24 (Nat.le_of_ble_eq_true rfl) ?_
  simp
  refine l_BindHex hl l [] _ .nil rfl rfl ?_ ?_ ?_ ?_ _ (fun st' b' h1 h2 h3 => ?_)
  · simp
  · simp
  · simp [BS.av_nil]
  · simp
  · have hb : ∀ h : H, cvBS h (bAV 5 b'.opt) = some (.str (hexL l)) := fun h => by rw [bAV_str]; cases b' <;> simp_all [BS.opt, BS.l]
    simp [h1, h3, hb]
theorem c_bindBytes (o1 o2 : Option (List UInt8)) (h : bl o1 = bl o2) : ∀ hE : H, callω fns 25 [bAV 5 o1, .bool true, bAV 5 o2] hE = some (.bool true, hE) := by
  intro hE
  refine run25 (Nat.le_of_ble_eq_true rfl) ?_
  simp [h, pkV, AV.several]
theorem intsOf_bytes (l : List UInt8) : intsOf .u8 (byteCells l) = some (l.map fun b => (b.toNat : Int)) := by
  induction l with
  | nil => rfl
  | cons b l ih => simp only [byteCells, List.map_cons] at ih ⊢; simp [intsOf, ih]
theorem eqaV_bytes {l m : List UInt8} {n : Nat} (hl : l.length = n) (hm : m.length = n) : eqaV false n .u8 (.agg (byteCells l)) (.agg (byteCells m)) = some (.bool (l == m)) := by
  have h1 : (byteCells l).length = n := by simp [byteCells, hl]
  have h2 : (byteCells m).length = n := by simp [byteCells, hm]
  have h3 : ((l.map fun b => (b.toNat : Int)) == (m.map fun b => (b.toNat : Int))) = (l == m) := by
    rw [Bool.eq_iff_iff, beq_iff_eq, beq_iff_eq]
    constructor
    · intro h
      exact (List.map_inj_right fun a b hab => UInt8.toNat_inj.1 (by have h2 : (a.toNat : Int) = b.toNat := hab; omega)).1 h
    · rintro rfl; rfl
  simp [eqaV, h1, h2, intsOf_bytes, h3]
theorem c_IDIsZero {l Z : List UInt8} (hl : l.length = 12) (hZ : Z.length = 12) {hE : H} (hΓ : hE.Γ 2 = some (byteCells (Z))) : callv fns 26 [bAV 5 (some l)] hE = some (.bool (l == Z)) := by
  have hz : ∀ h : H, h.Γ 2 = some (byteCells (Z)) → callv fns 49 [.agg (byteCells l)] h = some (.bool (l == Z)) := by
    intro h hg
    refine runv49 (Nat.le_of_ble_eq_true rfl) ?_
    have hld := ldO_arr (m := .head) hl
    have he := eqaV_bytes (m := Z) hl hZ
    have hgl : glV true 12 (some (byteCells (Z))) = some (.agg (byteCells (Z))) := by
      have h1 : (byteCells Z).length = 12 := by simp [byteCells, hZ]
      simp only [glV, h1, Nat.le_refl, if_true]
      rw [← h1, List.take_length]
    simp [hg, hld, he, hgl, -ldO_ct, -eqaV, -glV, -splice, noHeap_old]
  refine runv26 (Nat.le_of_ble_eq_true rfl) ?_
  have h2 := hz hE.mask (by simpa using hΓ)
  simp [c_id hl, h2, noHeap_old]
theorem hexD_inj {a b : Nat} (ha : a < 16) (hb : b < 16) (h : hexD a = hexD b) : a = b := by
  have : ∀ x y : Fin 16, hexD x.val = hexD y.val → x = y := by decide +kernel
  have := this ⟨a, ha⟩ ⟨b, hb⟩ h
  simpa using this
theorem hexL_inj : ∀ {l m : List UInt8}, hexL l = hexL m → l = m
  | [], [], _ => rfl
  | [], b :: m, h => by simp [hexL, hexB] at h
  | b :: l, [], h => by simp [hexL, hexB] at h
  | b :: l, c :: m, h => by
    simp only [hexL, hexB, List.flatMap_cons, List.cons_append, List.nil_append, List.cons.injEq] at h
    have b1 := UInt8.toNat_lt b
    have c1 := UInt8.toNat_lt c
    have e1 := hexD_inj (by omega) (by omega) h.1
    have e2 := hexD_inj (by omega) (by omega) h.2.1
    have : b = c := UInt8.toNat_inj.1 (by omega)
    rw [this, hexL_inj (l := l) (m := m) h.2.2]
theorem hexL_zero (l : List UInt8) : (hexL l == [48, 48, 48, 48, 48, 48, 48, 48, 48, 48, 48, 48, 48, 48, 48, 48, 48, 48, 48, 48, 48, 48, 48, 48]) = (l == List.replicate 12 0) := by
  have h0 : hexL (List.replicate 12 0) = [48, 48, 48, 48, 48, 48, 48, 48, 48, 48, 48, 48, 48, 48, 48, 48, 48, 48, 48, 48, 48, 48, 48, 48] := by decide +kernel
  rw [← h0, Bool.eq_iff_iff, beq_iff_eq, beq_iff_eq]
  exact ⟨hexL_inj, fun h => by rw [h]⟩
end
end Go.Proofs.YtcipaobalemdoaaDoor.Abs
