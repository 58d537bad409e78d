/- The functions that the law reaches, made ready for the interpreter (printed by a program of this session; the kernel compares each with the given program). -/
import Derived.Test.YtfamhjnjlgdglaaA26
import Derived.Test.YtfamhjnjlgdglaaProg
import Derived.KernelRfl
namespace Go.Proofs.Ytfamhjnjlgdglaa.Abs
set_option linter.all false
open Go.Proofs
def sg : FuncId → Nat → Bool := fun f i => false
/-- No. 8 -/
def af8 : AFunc := ⟨7,
  .ops [⟨.box 1 (.p 0), (some 1), none⟩,
    ⟨.assign (.c (.bool false)), (some 2), none⟩]
  (.ops [⟨.fieldAddr 1 (.p 1), (some 3), none⟩,
    ⟨.load .head false 1 (.p 3), (some 4), none⟩,
    ⟨.len false (.p 4), (some 5), none⟩,
    ⟨.bin .gtr 1 true (.p 5) (.c (.int .i64 2147483647)), (some 6), none⟩]
  (.seq (.cond (.p 6)
   (.ops [⟨.assign (.c (.bool false)), (some 2), none⟩]
    (.ret))
   (.skip))
  (.ops [⟨.assign (.c (.bool true)), (some 2), none⟩]
  (.ret)))),
  [.tmp 2]⟩
theorem ok8 : pFunc Try.prog sg Try.f8 = some af8 := by kernel_rfl
/-- No. 26 -/
def af26 : AFunc := ⟨9,
  .ops [⟨.box 1 (.p 0), (some 1), none⟩,
    ⟨.newbox 2 [.int .u8 0, .slice .nil 0 1 []], (some 2), none⟩]
  (.ops [⟨.fieldAddr 0 (.p 1), (some 3), none⟩,
    ⟨.load .look false 1 (.p 3), (some 4), none⟩,
    ⟨.convInt .u8 (.p 4), (some 5), none⟩,
    ⟨.fieldAddr 1 (.p 1), (some 6), none⟩,
    ⟨.load .look false 1 (.p 6), (some 7), none⟩,
    ⟨.build [.int .u8 0, .slice .nil 0 1 []] [(0, 1, .p 5), (1, 1, .t 7)], (some 8), none⟩,
    ⟨.store 2 (.p 2) (.p 8), none, none⟩]
  (.ret)),
  [.cell 2 true 2]⟩
theorem ok26 : pFunc Try.prog sg Try.f26 = some af26 := by kernel_rfl
/-- No. 38 -/
def af38 : AFunc := ⟨10,
  .ops [⟨.assign (.c (.bool false)), (some 4), none⟩]
  (.ops [⟨.move .look (.t 0), (some 5), none⟩,
    ⟨.convBS (.t 5), (some 6), none⟩,
    ⟨.move .look (.t 1), (some 7), none⟩,
    ⟨.convBS (.t 7), (some 8), none⟩,
    ⟨.bin .eql 2 false (.p 6) (.p 8), (some 9), none⟩,
    ⟨.assign (.p 9), (some 4), none⟩]
  (.ret)),
  [.tmp 4]⟩
theorem ok38 : pFunc Try.prog sg Try.f38 = some af38 := by kernel_rfl
/-- No. 27 -/
def af27 : AFunc := ⟨16,
  .ops [⟨.box 2 (.p 0), (some 2), none⟩,
    ⟨.box 3 (.p 1), (some 3), none⟩,
    ⟨.assign (.c (.bool false)), (some 4), none⟩]
  (.ops [⟨.fieldAddr 0 (.p 2), (some 5), none⟩,
    ⟨.load .head false 1 (.p 5), (some 6), none⟩,
    ⟨.fieldAddr 0 (.p 3), (some 7), none⟩,
    ⟨.load .head false 1 (.p 7), (some 8), none⟩,
    ⟨.bin .neq 1 false (.p 6) (.p 8), (some 9), none⟩]
  (.seq (.cond (.p 9)
   (.ops [⟨.assign (.c (.bool false)), (some 4), none⟩]
    (.ret))
   (.skip))
  (.ops [⟨.fieldAddr 1 (.p 2), (some 10), none⟩,
    ⟨.load .look false 1 (.p 10), (some 11), none⟩,
    ⟨.fieldAddr 1 (.p 3), (some 12), none⟩,
    ⟨.load .look false 1 (.p 12), (some 13), none⟩,
    ⟨.call 38 [(.t 11, false), (.t 13, false)], (some 14), none⟩,
    ⟨.un .not (.p 14), (some 15), none⟩]
  (.seq (.cond (.p 15)
   (.ops [⟨.assign (.c (.bool false)), (some 4), none⟩]
    (.ret))
   (.skip))
  (.ops [⟨.assign (.c (.bool true)), (some 4), none⟩]
  (.ret)))))),
  [.tmp 4]⟩
theorem ok27 : pFunc Try.prog sg Try.f27 = some af27 := by kernel_rfl
/-- No. 9 -/
def af9 : AFunc := ⟨10,
  .ops [⟨.box 2 (.p 0), (some 2), none⟩,
    ⟨.box 3 (.p 1), (some 3), none⟩,
    ⟨.assign (.c (.bool false)), (some 4), none⟩]
  (.ops [⟨.load .look true 2 (.p 2), (some 5), none⟩,
    ⟨.load .look true 2 (.p 3), (some 7), none⟩,
    ⟨.call 26 [(.p 5, false)], (some 6), none⟩,
    ⟨.call 26 [(.p 7, false)], (some 8), none⟩,
    ⟨.call 27 [(.p 6, false), (.p 8, false)], (some 9), none⟩,
    ⟨.assign (.p 9), (some 4), none⟩]
  (.ret)),
  [.tmp 4]⟩
theorem ok9 : pFunc Try.prog sg Try.f9 = some af9 := by kernel_rfl
/-- No. 10 -/
def af10 : AFunc := ⟨19,
  .ops [⟨.box 2 (.p 0), (some 2), none⟩,
    ⟨.box 3 (.p 1), (some 3), none⟩,
    ⟨.assign (.c (.bool false)), (some 4), none⟩]
  (.ops [⟨.fieldAddr 0 (.p 2), (some 5), none⟩,
    ⟨.load .head false 1 (.p 5), (some 6), none⟩,
    ⟨.fieldAddr 0 (.p 3), (some 7), none⟩,
    ⟨.load .head false 1 (.p 7), (some 8), none⟩,
    ⟨.bin .eql 1 false (.p 6) (.p 8), (some 9), none⟩,
    ⟨.move .look (.p 9), (some 10), none⟩,
    ⟨.fieldAddr 1 (.p 2), (some 11), (some (10, true))⟩,
    ⟨.load .look false 1 (.p 11), (some 12), (some (10, true))⟩,
    ⟨.convBS (.t 12), (some 13), (some (10, true))⟩,
    ⟨.fieldAddr 1 (.p 3), (some 14), (some (10, true))⟩,
    ⟨.load .look false 1 (.p 14), (some 15), (some (10, true))⟩,
    ⟨.convBS (.t 15), (some 16), (some (10, true))⟩,
    ⟨.bin .eql 2 false (.p 13) (.p 16), (some 17), (some (10, true))⟩,
    ⟨.pick (.p 10) (.p 17) (.c (.bool false)), (some 18), none⟩,
    ⟨.assign (.p 18), (some 4), none⟩]
  (.ret)),
  [.tmp 4]⟩
theorem ok10 : pFunc Try.prog sg Try.f10 = some af10 := by kernel_rfl
/-- No. 3 -/
def af3 : AFunc := ⟨38,
  .ops [⟨.box 2 (.p 0), (some 2), none⟩,
    ⟨.box 3 (.p 1), (some 3), none⟩,
    ⟨.assign (.c (.bool false)), (some 4), none⟩]
  (.ops [⟨.load .look true 2 (.p 2), (some 5), none⟩,
    ⟨.call 8 [(.p 5, false)], (some 6), none⟩,
    ⟨.un .not (.p 6), (some 7), none⟩,
    ⟨.move .look (.p 7), (some 8), none⟩,
    ⟨.load .look true 2 (.p 3), (some 9), (some (8, false))⟩,
    ⟨.call 8 [(.p 9, false)], (some 10), (some (8, false))⟩,
    ⟨.un .not (.p 10), (some 11), (some (8, false))⟩,
    ⟨.pick (.p 8) (.c (.bool true)) (.p 11), (some 12), none⟩]
  (.seq (.cond (.p 12)
   (.ops [⟨.assign (.c (.bool true)), (some 4), none⟩]
    (.ret))
   (.skip))
  (.ops [⟨.fieldAddr 0 (.p 2), (some 13), none⟩,
    ⟨.load .look false 1 (.p 13), (some 14), none⟩,
    ⟨.bin .lss 1 true (.p 14) (.c (.int .i64 0)), (some 15), none⟩,
    ⟨.move .look (.p 15), (some 16), none⟩,
    ⟨.fieldAddr 0 (.p 2), (some 17), (some (16, false))⟩,
    ⟨.load .look false 1 (.p 17), (some 18), (some (16, false))⟩,
    ⟨.bin .gtr 1 true (.p 18) (.c (.int .i64 255)), (some 19), (some (16, false))⟩,
    ⟨.pick (.p 16) (.c (.bool true)) (.p 19), (some 20), none⟩,
    ⟨.move .look (.p 20), (some 21), none⟩,
    ⟨.fieldAddr 0 (.p 3), (some 22), (some (21, false))⟩,
    ⟨.load .look false 1 (.p 22), (some 23), (some (21, false))⟩,
    ⟨.bin .lss 1 true (.p 23) (.c (.int .i64 0)), (some 24), (some (21, false))⟩,
    ⟨.pick (.p 21) (.c (.bool true)) (.p 24), (some 25), none⟩,
    ⟨.move .look (.p 25), (some 26), none⟩,
    ⟨.fieldAddr 0 (.p 3), (some 27), (some (26, false))⟩,
    ⟨.load .look false 1 (.p 27), (some 28), (some (26, false))⟩,
    ⟨.bin .gtr 1 true (.p 28) (.c (.int .i64 255)), (some 29), (some (26, false))⟩,
    ⟨.pick (.p 26) (.c (.bool true)) (.p 29), (some 30), none⟩]
  (.seq (.cond (.p 30)
   (.ops [⟨.assign (.c (.bool true)), (some 4), none⟩]
    (.ret))
   (.skip))
  (.ops [⟨.load .look true 2 (.p 2), (some 31), none⟩,
    ⟨.load .look true 2 (.p 3), (some 32), none⟩,
    ⟨.load .look true 2 (.p 2), (some 34), none⟩,
    ⟨.load .look true 2 (.p 3), (some 35), none⟩,
    ⟨.call 9 [(.p 31, false), (.p 32, false)], (some 33), none⟩,
    ⟨.call 10 [(.p 34, false), (.p 35, false)], (some 36), none⟩,
    ⟨.bin .eql 0 false (.p 33) (.p 36), (some 37), none⟩,
    ⟨.assign (.p 37), (some 4), none⟩]
  (.ret)))))),
  [.tmp 4]⟩
theorem ok3 : pFunc Try.prog sg Try.f3 = some af3 := by kernel_rfl
def fns : FuncId → Option AFunc
  | 8 => some af8
  | 26 => some af26
  | 38 => some af38
  | 27 => some af27
  | 9 => some af9
  | 10 => some af10
  | 3 => some af3
  | _ => none
theorem fnsOk : FnsOk Try.prog sg fns := by
  intro f af h
  unfold fns at h
  split at h <;> first
    | (injection h with h; subst h; exact ⟨Try.f8, Try.func8, by kernel_rfl, ok8⟩)
    | (injection h with h; subst h; exact ⟨Try.f26, Try.func26, by kernel_rfl, ok26⟩)
    | (injection h with h; subst h; exact ⟨Try.f38, Try.func38, by kernel_rfl, ok38⟩)
    | (injection h with h; subst h; exact ⟨Try.f27, Try.func27, by kernel_rfl, ok27⟩)
    | (injection h with h; subst h; exact ⟨Try.f9, Try.func9, by kernel_rfl, ok9⟩)
    | (injection h with h; subst h; exact ⟨Try.f10, Try.func10, by kernel_rfl, ok10⟩)
    | (injection h with h; subst h; exact ⟨Try.f3, Try.func3, by kernel_rfl, ok3⟩)
    | cases h
end Go.Proofs.Ytfamhjnjlgdglaa.Abs
