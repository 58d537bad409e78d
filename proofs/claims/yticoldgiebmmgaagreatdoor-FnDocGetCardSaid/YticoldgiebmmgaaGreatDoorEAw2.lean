/- A document built by its builder; that what is said is not empty. -/
import Derived.Test.YticoldgiebmmgaaGreatDoorEAw1
import Derived.Test.YticoldgiebmmgaaGreatDoorEB11
namespace Go.Proofs.YticoldgiebmmgaaGreatDoor.Abs
set_option linter.all false
open Go.Proofs
set_option linter.unusedVariables false
set_option linter.unusedSimpArgs false
set_option maxRecDepth 100000
set_option maxHeartbeats 8000000

def dbO (l : List UInt8) : Obj := .cells [(BS.own true l).av 5, .slice (.own true) 21 1 [.int .i32 0]]
theorem c_startDoc (h : H) : callω fns 82 [.ptr (.obj h.n) 0] (h.app [.cells [.slice .nil 0 1 [], .slice .nil 0 1 []]]) = some (.ptr (.obj h.n) 0, h.app [dbO [0, 0, 0, 0]]) := by
  have hs : ∀ hE : H, callω fns 125 [.slice .nil 0 1 []] hE = some (.tup [.int .i32 0, (BS.own true [0, 0, 0, 0]).av 5], hE) := c_DocStart .nil (by simp [BS.l])
  have ha : ∀ hp : H, apV hp 21 1 4 false (.slice .nil 0 1 []) (.slice (.own true) 21 1 [.int .i32 0]) = some (.slice (.own true) 21 1 [.int .i32 0]) := fun hp => RS.apV (b := .nil) (by simp [RS.l, tooLong]) (by simp [RS.l, tooLong])
  refine run82 (Nat.le_of_ble_eq_true rfl) ?_
  simp [hs, ha, nnV, ex2_0, ex2_1]
  rfl
theorem c_NewDB (h : H) : callω fns 62 [] h = some (.ptr (.obj h.n) 0, h.app [dbO [0, 0, 0, 0]]) := by
  have hs := c_startDoc h
  refine run62 (Nat.le_of_ble_eq_true rfl) ?_
  simp [H.push_app, hs]
theorem c_DBAppI32 (h : H) (L s : List UInt8) (n : Int) (hp : plainL s = true) (hl : L.length + s.length ≤ 1000) : callω fns 102 [.ptr (.obj h.n) 0, .str s, .int .i32 n] (h.app [dbO L]) = some (.ptr (.obj h.n) 0, h.app [dbO (L ++ (hdL 16 s ++ le32 n))]) := by
  have ha : ∀ hE : H, callω fns 144 [(BS.own true L).av 5, .str s, .int .i32 n] hE = some ((BS.own true (L ++ (hdL 16 s ++ le32 n))).av 5, hE) := c_AppendInt32Element (.own true L) s hp n (by simp [BS.l]; omega)
  refine run102 (Nat.le_of_ble_eq_true rfl) ?_
  simp [dbO, ha, nnV]
def k1A : List AV := [.str [97], .int .i64 16, .str [], .str [], .int .i64 7, .int .u64 0, .int .u64 0, .slice .nil 0 1 [], .slice .nil 0 1 []]
theorem c_build1 (h : H) : callω fns 63 [.ptr (.obj h.n) 0, .slice .frz 86 9 k1A] (h.app [dbO [0, 0, 0, 0]]) = some (.tup [], h.app [dbO [0, 0, 0, 0, 16, 97, 0, 7, 0, 0, 0]]) := by
  have ha := c_DBAppI32 h [0, 0, 0, 0] [97] 7 (by rfl) (by simp)
  have el : ([0, 0, 0, 0] ++ (hdL 16 [97] ++ le32 7) : List UInt8) = [0, 0, 0, 0, 16, 97, 0, 7, 0, 0, 0] := by decide
  rw [el] at ha
  have w : IntKind.i32.wrap 7 = 7 := rfl
  have w1 : IntKind.i64.wrap 1 = 1 := rfl
  refine run63 (Nat.le_of_ble_eq_true rfl) ?_
  simp [k1A]
  refine loopω_run fns ?_
  simp [ha, w, w1, ixV]
  refine loopω_run fns ?_
  simp
theorem c_DBBuild (h : H) : callω fns 64 [.ptr (.obj h.n) 0] (h.app [dbO [0, 0, 0, 0, 16, 97, 0, 7, 0, 0, 0]]) = some ((BS.own true [12, 0, 0, 0, 16, 97, 0, 7, 0, 0, 0, 0]).av 5, h.app [.cells [(BS.own true [12, 0, 0, 0, 16, 97, 0, 7, 0, 0, 0, 0]).lv 5, .slice .frz 21 1 []]]) := by
  have hd := c_DocEnd [0, 0, 0, 0, 16, 97, 0, 7, 0, 0, 0] 0 (by simp) (by simp)
  have el : setL ([0, 0, 0, 0, 16, 97, 0, 7, 0, 0, 0] ++ [0]) 0 (le32 ((([0, 0, 0, 0, 16, 97, 0, 7, 0, 0, 0] : List UInt8).length + 1 - 0 : Nat) : Int)) = [12, 0, 0, 0, 16, 97, 0, 7, 0, 0, 0, 0] := by decide
  rw [el] at hd
  have w0 : IntKind.i64.wrap (1 - 1) = 0 := rfl
  have w1 : IntKind.i64.wrap 0 = 0 := rfl
  refine run64 (Nat.le_of_ble_eq_true rfl) ?_
  simp only [Int.ofNat_zero] at hd
  simp [dbO, hd, nnV, w0, w1, ixV, slSl, ex2_0, ex2_1]
theorem c_Built1 (h : H) : callv fns 39 [.slice .frz 86 9 k1A] h = some ((BS.own true [12, 0, 0, 0, 16, 97, 0, 7, 0, 0, 0, 0]).av 5) := by
  have h1 := c_NewDB h
  have h2 := c_build1 h
  have h3 := c_DBBuild h
  refine runv39 (Nat.le_of_ble_eq_true rfl) ?_
  simp [h1, h2, h3]
theorem c_Read1 : ∀ hE : H, callω fns 40 [.int .i64 16, bAV 5 (some [7, 0, 0, 0, 9])] hE = some (.tup [.agg [.int .i64 16, .str [], .str [], .int .i64 7, .int .u64 0, .int .u64 0, .slice .nil 0 1 [], .slice .nil 0 1 []], (BS.own true [9]).av 5, .bool true], hE) := by
  intro hE
  have h1 := c_ReadI32 7 0 0 0 [9]
  have e1 : rd32 7 0 0 0 = 7 := by decide
  rw [e1] at h1
  have h2 : ∀ hE : H, callω fns 58 [bAV 5 (some [7, 0, 0, 0, 9])] hE = some (.tup [.int .i32 7, bAV 5 (some [9]), .bool true], hE) := by
    intro hE
    refine run58 (Nat.le_of_ble_eq_true rfl) ?_
    simp [h1, ex3_0, ex3_1, ex3_2]
  have ho := c_own (some [9]) (by simp [bl])
  simp only [bl] at ho
  have w : IntKind.i64.wrap 7 = 7 := rfl
  refine run40 (Nat.le_of_ble_eq_true rfl) ?_
  simp [h2, ho, w, ex3_0, ex3_1, ex3_2]
  rfl
theorem c_raw (k : Int) (h0 : 0 ≤ k) (h1 : k < 256) (o : Option (List UInt8)) (hl : (bl o).length < 2147483648) : ∀ hE : H, callω fns 67 [.agg [.int .u8 k, bAV 5 o]] hE = some (.agg [.int .i64 k, bAV 5 (oB (bl o))], hE) := by
  intro hE
  have ho := c_own o hl
  have w : IntKind.i64.wrap k = k := wrap_i64 (by omega) (by omega)
  refine run67 (Nat.le_of_ble_eq_true rfl) ?_
  simp [ho, w, oB]
def k1 : Ks := .cons [97] (.mk 16 [] [] 7 0 0 none true .nil) .nil
theorem c_Lookup1 {s : Nat → Nat × Nat} : ∀ hE : H, Sens hE.Γ s → callω fns 41 [bAV 5 (some [12, 0, 0, 0, 16, 97, 0, 7, 0, 0, 0, 0]), .slice .frz 9 1 [.str [97]]] hE = some (.tup [.agg [.int .i64 16, bAV 5 (some [7, 0, 0, 0])], .int .i64 0], hE) := by
  intro hE hS
  have hd : k1.doc = [12, 0, 0, 0, 16, 97, 0, 7, 0, 0, 0, 0] := by decide
  have hg : k1.good := ⟨by decide, ⟨1, by decide⟩, trivial⟩
  have h1 := c_LookupErr (s := s) [[97]] (by simp) (by simp) k1 hg (by decide) hE.mask hS
  have e1 : lookT [[97]] k1 = some (.mk 16 [] [] 7 0 0 none true .nil) := by rfl
  have e2 : lookE s [[97]] k1 = .nilI := by rfl
  rw [hd, e1, e2] at h1
  have e3 : (strsR [[97]]).fv 9 1 = .slice .frz 9 1 [.str [97]] := rfl
  have e4 : lookV (some (.mk 16 [] [] 7 0 0 none true .nil)) = [.int .u8 16, bAV 5 (some [7, 0, 0, 0])] := by rfl
  rw [e3, e4] at h1
  have hr := c_raw 16 (by omega) (by omega) (some [7, 0, 0, 0]) (by simp [bl])
  have e5 : oB (bl (some [7, 0, 0, 0])) = some [7, 0, 0, 0] := rfl
  rw [e5] at hr
  have hc := c_code .nil
  refine run41 (Nat.le_of_ble_eq_true rfl) ?_
  simp [h1, hr, hc, ex2_0, ex2_1]
theorem c_Validate (l : List UInt8) (hl : l.length < 2147483648) : ∀ hE : H, callω fns 42 [bAV 5 (some l)] hE = some (.int .i64 (docC l), hE) := by
  intro hE
  have h1 := c_DocValidate l hl
  have h2 := c_code_doc l
  refine run42 (Nat.le_of_ble_eq_true rfl) ?_
  rcases docX_cases l with h | ⟨a, b, h⟩ | ⟨s, h⟩ <;> rw [h] at h1 h2 <;> (try simp only [xFew, xVE] at h1 h2) <;> simp [h1, h2]
theorem c_docAwake {s : Nat → Nat × Nat} : ∀ hE : H, Sens hE.Γ s → callω fns 12 [] hE = some (.bool true, hE) := by
  intro hE hS
  have h1 := c_Built1
  have h2 := c_Read1
  have h3 := c_Lookup1 hE.mask hS
  have h4 := c_Validate [12, 0, 0, 0, 16, 97, 0, 7, 0, 0, 0] (by simp)
  have e4 : docC [12, 0, 0, 0, 16, 97, 0, 7, 0, 0, 0] = 4 := by decide
  rw [e4] at h4
  refine run12 (Nat.le_of_ble_eq_true rfl) ?_
  simp only [k1A] at h1
  have ho : (BS.own true [12, 0, 0, 0, 16, 97, 0, 7, 0, 0, 0, 0]).opt = some [12, 0, 0, 0, 16, 97, 0, 7, 0, 0, 0, 0] := rfl
  have hsl : ∀ hp : H, slSl hp 1 (bAV 5 (some [12, 0, 0, 0, 16, 97, 0, 7, 0, 0, 0, 0])) (some 0) (some 11) = some (bAV 5 (some [12, 0, 0, 0, 16, 97, 0, 7, 0, 0, 0])) := fun hp => sl_to (m := 11) (by simp)
  have h2' : ∀ hE : H, callω fns 40 [.int .i64 16, .slice .frz 5 1 [.int .u8 7, .int .u8 0, .int .u8 0, .int .u8 0, .int .u8 9]] hE = some (.tup [.agg [.int .i64 16, .str [], .str [], .int .i64 7, .int .u64 0, .int .u64 0, .slice .nil 0 1 [], .slice .nil 0 1 []], (BS.own true [9]).av 5, .bool true], hE) := h2
  have hl9 : (BS.own true [9]).l = [9] := rfl
  simp [h1, h2', h3, h4, k1A, ho, hsl, hl9, bl, ex2_0, ex2_1, ex3_0, ex3_1, ex3_2]
end Go.Proofs.YticoldgiebmmgaaGreatDoor.Abs
