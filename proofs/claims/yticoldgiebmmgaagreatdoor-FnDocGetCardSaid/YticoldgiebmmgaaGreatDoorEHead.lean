/- Kinds and names ahead of values. -/
import Derived.Test.YticoldgiebmmgaaGreatDoorTR9
import Derived.Test.YticoldgiebmmgaaGreatDoorEReserve
namespace Go.Proofs.YticoldgiebmmgaaGreatDoor.Abs
set_option linter.all false
open Go.Proofs
set_option linter.unusedVariables false
set_option linter.unusedSimpArgs false
set_option maxRecDepth 100000
set_option maxHeartbeats 4000000

theorem l_zzIndexRune {s : List UInt8} (hp : plainL s = true) : ∀ (m pos : Nat) (st : St), s.length - pos ≤ m → pos ≤ s.length → st.s 1 = .int .i32 0 → st.s 26 = .ptr (.loc 26) 0 → st.b 26 = some (.iter s pos) →
    ∀ Q : Ex × St → Prop, (∀ st' : St, st'.h = st.h → Q (.exit 0, st')) → LoopR fns lc215_0 st Q := by
  intro m
  induction m with
  | zero =>
    intro pos st hm hle h1 h26 hb Q hQ
    refine loopω_run fns ?_
    have he := iterNext_end (l := s) (pos := pos) (by omega)
    simp [h26, nextV_loc hb, he, exV]
    exact hQ _ rfl
  | succ m ih =>
    intro pos st hm hle h1 h26 hb Q hQ
    refine loopω_run fns ?_
    by_cases hlt : pos < s.length
    · obtain ⟨r, w, he, hr, hw1, hw2⟩ := iterNext_plain hp hlt
      have hr' : ¬ (r : Int) = 0 := by omega
      simp [h26, nextV_loc hb, he, exV, h1, hr, hr']
      refine ih (pos + w) _ (by omega) hw2 ?_ ?_ ?_ Q hQ <;> simp [h1, h26]
    · have he := iterNext_end (l := s) (pos := pos) (by omega)
      simp [h26, nextV_loc hb, he, exV]
      exact hQ _ rfl
theorem c_zzIndexRune {s : List UInt8} (hp : plainL s = true) : ∀ hE : H, callω fns 215 [.str s, .int .i32 0] hE = some (.int .i64 (-1), hE) := by
  intro hE
  refine run215 (Nat.le_of_ble_eq_true rfl) ?_
  simp [cvSS]
  refine l_zzIndexRune hp s.length 0 _ (by omega) (by omega) ?_ ?_ ?_ _ (fun st' e => ?_)
  · simp
  · simp
  · simp
  · simp [e]
theorem c_isValidCString {s : List UInt8} (hp : plainL s = true) : ∀ hE : H, callω fns 163 [.str s] hE = some (.bool true, hE) := by
  intro hE
  refine run163 (Nat.le_of_ble_eq_true rfl) ?_
  have hz : ∀ hE : H, callω fns 206 [.str s, .int .i32 0] hE = some (.bool false, hE) := by
    intro hE
    refine run206 (Nat.le_of_ble_eq_true rfl) ?_
    simp [c_zzIndexRune hp]
  simp [hz]
theorem c_AppendType (b : BS) (k : Int) (h0 : 0 ≤ k) (h1 : k < 256) (hl : b.l.length ≤ 1073741824) : ∀ hE : H, callω fns 164 [b.av 5, .int .u8 k] hE = some ((b.app [byteOf k]).av 5, hE) := by
  intro hE
  refine run164 (Nat.le_of_ble_eq_true rfl) ?_
  have hap : ∀ hp : H, apV hp 5 1 1 false (b.av 5) (.slice (.own true) 5 1 [.int .u8 k]) = some ((b.app [byteOf k]).av 5) := fun hp => by
    have := apV_l1 (hp := hp) (e := 5) (f := true) (c := byteOf k) (b := b) (by simp [tooLong]; omega)
    rw [byteOf_toNat, Int.emod_eq_of_lt h0 h1] at this; exact this
  simp [hap]
theorem c_AppendHeader (b : BS) (k : Int) (s : List UInt8) (hp : plainL s = true) (h0 : 0 ≤ k) (h1 : k < 256) (hl : b.l.length + s.length ≤ 1073741000) : ∀ hE : H, callω fns 128 [b.av 5, .int .u8 k, .str s] hE = some ((b.app (hdL k s)).av 5, hE) := by
  intro hE
  refine run128 (Nat.le_of_ble_eq_true rfl) ?_
  have h2 := c_AppendType b k h0 h1 (by omega)
  have h3 : ∀ hp : H, apV hp 5 1 1 true ((b.app [byteOf k]).av 5) (.str s) = some ((b.app ([byteOf k] ++ s)).av 5) := fun hp => by
    rw [← BS.app_app]; exact apV_str _ _ (by simp [BS.l_app, tooLong]; omega)
  have h4 : ∀ hp : H, apV hp 5 1 1 false ((b.app ([byteOf k] ++ s)).av 5) (.slice (.own true) 5 1 [.int .u8 0]) = some ((b.app (hdL k s)).av 5) := fun hp => by
    have := apV_l0 (hp := hp) (e := 5) (f := true) (b := b.app ([byteOf k] ++ s)) (by simp [BS.l_app, tooLong]; omega)
    rw [BS.app_app] at this; simpa [hdL] using this
  simp only [List.cons_append, List.nil_append] at h3 h4
  simp [c_isValidCString hp, h2, h3, h4]
end Go.Proofs.YticoldgiebmmgaaGreatDoor.Abs
