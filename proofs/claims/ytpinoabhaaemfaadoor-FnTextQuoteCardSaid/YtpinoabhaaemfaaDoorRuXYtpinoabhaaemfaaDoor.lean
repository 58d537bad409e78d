/- unicode/utf8.DecodeRuneInString by its contract. -/
import Derived.Test.YtpinoabhaaemfaaDoorA30
import Derived.Test.YtpinoabhaaemfaaDoorTQ1
import Derived.Test.YtpinoabhaaemfaaDoorLayYtpinoabhaaemfaaDoor
import Derived.Shelf.Unicode.DecodeAny
namespace Go.Proofs.YtpinoabhaaemfaaDoor.Abs
set_option linter.all false
set_option linter.unusedVariables false
set_option maxRecDepth 100000
open Go Go.Proofs Go.RowKit

def u8sOf : List AV → Option (List Int)
  | [] => some []
  | .int .u8 n :: r => (u8sOf r).map (n :: ·)
  | _ => none
theorem u8sOf_map (l : List Int) : u8sOf (l.map (AV.int .u8)) = some l := by
  induction l with
  | nil => rfl
  | cons a r ih => simp [u8sOf, ih]
theorem u8sOf_inv : ∀ {xs : List AV} {l : List Int}, u8sOf xs = some l → xs = l.map (AV.int .u8)
  | [], l, h => by simp [u8sOf] at h; subst h; rfl
  | x :: xs, l, h => by
    unfold u8sOf at h
    split at h
    · cases ‹_ :: _ = _›
    · rename_i n r heq
      injection heq with e1 e2; subst e1; subst e2
      simp only [Option.map_eq_some_iff] at h
      obtain ⟨l', h', rfl⟩ := h
      rw [u8sOf_inv h']; rfl
    · cases h
def firstI : List Int := (List.range 256).map fun c => (Lib.firstT c : Int)
def accI : List Int := (List.range 32).map fun i => if i % 2 = 0 then (Lib.accLo (i / 2) : Int) else (Lib.accHi (i / 2) : Int)
def runeX : List AV → H → Option (T (AV × H))
  | [.str s], h => if (((h.Γ 5).bind u8sOf == some firstI) && ((h.Γ 6).bind u8sOf == some accI)) = true then
      some (.ret (.tup [.int .i32 (if s = [] then 65533 else ((dec s).1 : Int)), .int .i64 (if s = [] then 0 else ((dec s).2 : Int))], h)) else none
  | _, _ => none
theorem bget_list (l : List UInt8) (i : Nat) : (⟨l.toArray⟩ : ByteArray).get! i = l.getD i 0 := by
  show (l.toArray)[i]! = _
  rw [List.getElem!_toArray]
  simp [List.getD_eq_getElem?_getD, List.getElem!_eq_getElem?_getD]
  rfl
theorem decodeGo_dec (l : List UInt8) : Lib.decodeGo ⟨l.toArray⟩ = if l = [] then (65533, 0) else dec l := by
  unfold Lib.decodeGo
  have hs : (⟨l.toArray⟩ : ByteArray).size = l.length := by simp [ByteArray.size]
  by_cases h : l = []
  · subst h; rfl
  · have h1 : ¬ l.length = 0 := fun e => h (List.eq_nil_of_length_eq_zero e)
    rw [if_neg h, if_neg (by rw [hs]; exact h1), Lib.decode_at, hs, bget_list, bget_list, bget_list, bget_list]
    rfl
theorem xok_rune : XOk Tryd.prog 19 runeX := by
  intro vs h0 t ht R hR w G args hsz hargs hh hlt hfr
  unfold runeX at ht
  split at ht
  · rename_i s
    split at ht
    · rename_i hc
      injection ht with ht; subst ht
      simp only [Bool.and_eq_true, beq_iff_eq, Option.bind_eq_some_iff] at hc
      obtain ⟨⟨x3, g3, u3⟩, x4, g4, u4⟩ := hc
      have c3 := hh.glob _ _ g3
      have c4 := hh.glob _ _ g4
      have i3 := u8sOf_inv u3
      have i4 := u8sOf_inv u4
      subst i3; subst i4
      have hcells : ∀ (g : Nat) (l : List Int), CR w G.Fr (.eptr (l.map (AV.int .u8))) (.pointer (some ⟨g, 0, none⟩)) → ∀ i (h : i < l.length), w.cell? ⟨g, i, none⟩ = some (.int .u8 l[i]) := by
        intro g l hcr i hi
        cases hcr with
        | eptr a _ us hs hp hv ho hr =>
        have h1 := hv i (by simpa using hi)
        have h2 := hr i (by simpa using hi)
        rw [List.getElem_map] at h2
        generalize us i = u at h1 h2
        cases h2
        simpa using h1
      have hT : Lib.Utf8Tabs 5 6 w := by
        refine ⟨fun c hc => ?_, fun i hi => ⟨?_, ?_⟩⟩
        · have := hcells _ _ c3 c (by simp [firstI]; exact hc)
          rw [this]; simp [firstI]
        · have := hcells _ _ c4 (2 * i) (by simp [accI]; omega)
          rw [this]; simp [accI]
        · have := hcells _ _ c4 (2 * i + 1) (by simp [accI]; omega)
          rw [this]
          have e1 : (2 * i + 1) % 2 = 1 := by omega
          have e2 : (2 * i + 1) / 2 = i := by omega
          simp [accI, e1, e2]
      obtain ⟨la⟩ := args
      match la, hsz with
      | [x], _ =>
      have a0 : CR w G.Fr (.str s) x := (hargs 0 (by simp) (by simp)).1
      cases a0 with
      | str b _ hb =>
      have eb : b = ⟨s.toArray⟩ := by
        cases b with
        | mk d => simp only [ByteArray.mk.injEq]; rw [← hb]
      refine (Any.utf8_DecodeRuneInString ruL b w hT).mono ?_
      rintro e w' ⟨rfl, hbel⟩
      refine ⟨_, hR, post_same hh hlt hfr hbel ?_⟩
      have hd := decodeGo_dec s
      rw [← eb] at hd
      refine ⟨_, rfl, rfl, fun j h h' => ?_⟩
      have hj : j = 0 ∨ j = 1 := by simp at h; omega
      rcases hj with rfl | rfl
      · show CR _ _ (.int .i32 _) (.int .i32 _)
        have : (if s = [] then (65533 : Int) else ((dec s).1 : Int)) = ((Lib.decodeGo b).1 : Int) := by rw [hd]; split <;> rfl
        rw [this]; exact .int _ _
      · show CR _ _ (.int .i64 _) (.int .i64 _)
        have : (if s = [] then (0 : Int) else ((dec s).2 : Int)) = ((Lib.decodeGo b).2 : Int) := by rw [hd]; split <;> rfl
        rw [this]; exact .int _ _
    · cases ht
  · cases ht
end Go.Proofs.YtpinoabhaaemfaaDoor.Abs
