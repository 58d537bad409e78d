/- The functions that the law reaches, made ready for the interpreter (printed by a program of this session; the kernel compares each with the given program). -/
import Derived.Test.YtcodfehgnjplcaaGreatDoorA27
import Derived.Test.YtcodfehgnjplcaaGreatDoorIsXYtcodfehgnjplcaaGreatDoor
import Derived.Test.YtcodfehgnjplcaaGreatDoorProg
import Derived.KernelRfl
namespace Go.Proofs.YtcodfehgnjplcaaGreatDoor.Abs
set_option linter.all false
set_option maxRecDepth 100000
open Go.Proofs
def sg : FuncId → Nat → Nat := fun f i =>
  if f == 141 then (if i == 99 then 1 else 0) else
  if f == 142 then (if i == 99 then 1 else 0) else
  if f == 143 then (if i == 99 then 1 else 0) else
  if f == 173 then (if i == 99 then 1 else 0) else
  if f == 180 then (if i == 99 then 1 else 0) else
  if f == 201 then (if i == 99 then 1 else 0) else
  if f == 207 then (if i == 0 then 1 else if i == 99 then 1 else 0) else
  if f == 229 then (if i == 0 then 1 else 0) else
  if f == 232 then (if i == 0 then 1 else 0) else
  if f == 248 then (if i == 0 then 1 else 0) else
  if f == 254 then (if i == 0 then 1 else 0) else
  if f == 262 then (if i == 0 then 1 else 0) else
  if f == 266 then (if i == 0 then 1 else 0) else
  if f == 300 then (if i == 0 then 1 else 0) else
  if f == 304 then (if i == 1 then 2 else if i == 99 then 1 else 0) else
  if f == 314 then (if i == 0 then 1 else 0) else
  0
section
variable {fns : FuncId → Option AFunc} {Q : Ex × St → Prop} {s : List Fr} {c : ACode} {st : St}
def q15_0 : List AOper :=
  [⟨.move .head (.t 0), (some 3), none⟩,
    ⟨.len false (.p 3), (some 4), none⟩,
    ⟨.bin .leq 1 true (.p 4) (.c (.int .i64 5000)), (some 5), none⟩,
    ⟨.assign (.p 5), (some 2), none⟩]
@[simp] def eq15_0 := id q15_0.eq_1
def k15_0 : ACode :=
  .ops q15_0 .ret
@[simp] theorem xk15_0 : GoC fns Q s k15_0 st ↔ GoO fns Q s q15_0 .ret st := goC_ops
def k15_1 : ACode :=
  .ops [⟨.assign (.c (.bool false)), (some 2), none⟩] k15_0
@[simp] theorem xk15_1 : GoC fns Q s k15_1 st ↔ GoO fns Q s [⟨.assign (.c (.bool false)), (some 2), none⟩] k15_0 st := goC_ops
def af15 : AFunc := ⟨6, k15_1, [.tmp 2], fun _ => none⟩

theorem ok15 : ∃ hs, pFunc Tryz.prog sg hs Tryz.f15 = some af15 := ⟨fun i => 0, by kernel_rfl⟩
def q11_0 : List AOper :=
  [⟨.move .look (.t 0), (some 7), none⟩,
    ⟨.indexAddr 1 (.t 7) (.c (.int .i64 0)), (some 8), none⟩,
    ⟨.load .look false 1 (.p 8), (some 9), none⟩,
    ⟨.convInt .u32 (.p 9), (some 10), none⟩,
    ⟨.move .look (.t 0), (some 11), none⟩,
    ⟨.indexAddr 1 (.t 11) (.c (.int .i64 1)), (some 12), none⟩,
    ⟨.load .look false 1 (.p 12), (some 13), none⟩,
    ⟨.convInt .u32 (.p 13), (some 14), none⟩,
    ⟨.bin .shl 1 true (.p 14) (.c (.int .u64 8)), (some 15), none⟩,
    ⟨.bin .or 1 false (.p 10) (.p 15), (some 16), none⟩,
    ⟨.move .look (.t 0), (some 17), none⟩,
    ⟨.indexAddr 1 (.t 17) (.c (.int .i64 2)), (some 18), none⟩,
    ⟨.load .look false 1 (.p 18), (some 19), none⟩,
    ⟨.convInt .u32 (.p 19), (some 20), none⟩,
    ⟨.bin .shl 1 true (.p 20) (.c (.int .u64 16)), (some 21), none⟩,
    ⟨.bin .or 1 false (.p 16) (.p 21), (some 22), none⟩,
    ⟨.move .look (.t 0), (some 23), none⟩,
    ⟨.indexAddr 1 (.t 23) (.c (.int .i64 3)), (some 24), none⟩,
    ⟨.load .look false 1 (.p 24), (some 25), none⟩,
    ⟨.convInt .u32 (.p 25), (some 26), none⟩,
    ⟨.bin .shl 1 true (.p 26) (.c (.int .u64 24)), (some 27), none⟩,
    ⟨.bin .or 1 false (.p 22) (.p 27), (some 28), none⟩,
    ⟨.convInt .i32 (.p 28), (some 29), none⟩,
    ⟨.convInt .i64 (.p 29), (some 30), none⟩,
    ⟨.assign (.p 30), (some 2), none⟩,
    ⟨.assign (.c (.bool true)), (some 3), none⟩]
@[simp] def eq11_0 := id q11_0.eq_1
def q11_1 : List AOper :=
  [⟨.assign (.c (.int .i64 0)), (some 2), none⟩,
    ⟨.assign (.c (.bool false)), (some 3), none⟩]
@[simp] def eq11_1 := id q11_1.eq_1
def q11_2 : List AOper :=
  [⟨.move .head (.t 0), (some 4), none⟩,
    ⟨.len false (.p 4), (some 5), none⟩,
    ⟨.bin .lss 1 true (.p 5) (.c (.int .i64 4)), (some 6), none⟩]
@[simp] def eq11_2 := id q11_2.eq_1
def q11_3 : List AOper :=
  [⟨.assign (.c (.int .i64 0)), (some 2), none⟩,
    ⟨.assign (.c (.bool false)), (some 3), none⟩]
@[simp] def eq11_3 := id q11_3.eq_1
def k11_0 : ACode :=
  .ops q11_0 .ret
@[simp] theorem xk11_0 : GoC fns Q s k11_0 st ↔ GoO fns Q s q11_0 .ret st := goC_ops
def k11_1 : ACode :=
  .ops q11_1 .ret
@[simp] theorem xk11_1 : GoC fns Q s k11_1 st ↔ GoO fns Q s q11_1 .ret st := goC_ops
def k11_2 : ACode :=
  .cond (.p 6) k11_1 .skip
@[simp] theorem xk11_2 : GoC fns Q s k11_2 st ↔ GB fns Q s (peek st (.p 6)) k11_1 .skip st := goC_cond
def k11_3 : ACode :=
  .seq k11_2 k11_0
@[simp] theorem xk11_3 : GoC fns Q s k11_3 st ↔ GoC fns Q (.sq k11_0 :: s) k11_2 st := goC_seq
def k11_4 : ACode :=
  .ops q11_2 k11_3
@[simp] theorem xk11_4 : GoC fns Q s k11_4 st ↔ GoO fns Q s q11_2 k11_3 st := goC_ops
def k11_5 : ACode :=
  .ops q11_3 k11_4
@[simp] theorem xk11_5 : GoC fns Q s k11_5 st ↔ GoO fns Q s q11_3 k11_4 st := goC_ops
def af11 : AFunc := ⟨31, k11_5, [.tmp 2, .tmp 3], fun _ => none⟩

theorem ok11 : ∃ hs, pFunc Tryz.prog sg hs Tryz.f11 = some af11 := ⟨fun i => 0, by kernel_rfl⟩
def q63_0 : List AOper :=
  [⟨.assign (.c (.str [])), (some 2), none⟩,
    ⟨.assign (.c (.int .i64 0)), (some 3), none⟩,
    ⟨.assign (.c (.bool false)), (some 4), none⟩]
@[simp] def eq63_0 := id q63_0.eq_1
def q63_1 : List AOper :=
  [⟨.move .look (.p 5), (some 10), none⟩,
    ⟨.bin .add 1 true (.p 10) (.c (.int .i64 1)), (some 11), none⟩,
    ⟨.assign (.p 11), (some 5), none⟩]
@[simp] def eq63_1 := id q63_1.eq_1
def q63_2 : List AOper :=
  [⟨.move .look (.t 0), (some 17), none⟩,
    ⟨.move .head (.p 5), (some 18), none⟩,
    ⟨.sliceSl 1 (.t 17) none (some (.p 18)), (some 19), none⟩,
    ⟨.convBS (.t 19), (some 20), none⟩,
    ⟨.move .look (.p 5), (some 21), none⟩,
    ⟨.bin .add 1 true (.p 21) (.c (.int .i64 1)), (some 22), none⟩,
    ⟨.assign (.p 20), (some 2), none⟩,
    ⟨.assign (.p 22), (some 3), none⟩,
    ⟨.assign (.c (.bool true)), (some 4), none⟩]
@[simp] def eq63_2 := id q63_2.eq_1
def q63_3 : List AOper :=
  [⟨.move .look (.t 0), (some 12), none⟩,
    ⟨.move .look (.p 5), (some 13), none⟩,
    ⟨.indexAddr 1 (.t 12) (.p 13), (some 14), none⟩,
    ⟨.load .head false 1 (.p 14), (some 15), none⟩,
    ⟨.bin .eql 1 true (.p 15) (.c (.int .u8 0)), (some 16), none⟩]
@[simp] def eq63_3 := id q63_3.eq_1
def q63_4 : List AOper :=
  [⟨.move .look (.p 5), (some 6), none⟩,
    ⟨.move .head (.t 0), (some 7), none⟩,
    ⟨.len false (.p 7), (some 8), none⟩,
    ⟨.bin .lss 1 false (.p 6) (.p 8), (some 9), none⟩]
@[simp] def eq63_4 := id q63_4.eq_1
def q63_5 : List AOper :=
  [⟨.assign (.c (.str [])), (some 2), none⟩,
    ⟨.assign (.c (.int .i64 0)), (some 3), none⟩,
    ⟨.assign (.c (.bool false)), (some 4), none⟩]
@[simp] def eq63_5 := id q63_5.eq_1
def k63_0 : ACode :=
  .ops q63_0 .ret
@[simp] theorem xk63_0 : GoC fns Q s k63_0 st ↔ GoO fns Q s q63_0 .ret st := goC_ops
def k63_1 : ACode :=
  .ops q63_1 .skip
@[simp] theorem xk63_1 : GoC fns Q s k63_1 st ↔ GoO fns Q s q63_1 .skip st := goC_ops
def k63_2 : ACode :=
  .ops q63_2 .ret
@[simp] theorem xk63_2 : GoC fns Q s k63_2 st ↔ GoO fns Q s q63_2 .ret st := goC_ops
def k63_3 : ACode :=
  .cond (.p 16) k63_2 .skip
@[simp] theorem xk63_3 : GoC fns Q s k63_3 st ↔ GB fns Q s (peek st (.p 16)) k63_2 .skip st := goC_cond
def k63_4 : ACode :=
  .ops q63_3 k63_3
@[simp] theorem xk63_4 : GoC fns Q s k63_4 st ↔ GoO fns Q s q63_3 k63_3 st := goC_ops
def k63_5 : ACode :=
  .block 1 k63_4
@[simp] theorem xk63_5 : GoC fns Q s k63_5 st ↔ GoC fns Q (.bl 1 :: s) k63_4 st := goC_block
def k63_6 : ACode :=
  .seq k63_5 k63_1
@[simp] theorem xk63_6 : GoC fns Q s k63_6 st ↔ GoC fns Q (.sq k63_1 :: s) k63_5 st := goC_seq
def k63_7 : ACode :=
  .cond (.p 9) .skip (.exit 0)
@[simp] theorem xk63_7 : GoC fns Q s k63_7 st ↔ GB fns Q s (peek st (.p 9)) .skip (.exit 0) st := goC_cond
def k63_8 : ACode :=
  .seq k63_7 k63_6
@[simp] theorem xk63_8 : GoC fns Q s k63_8 st ↔ GoC fns Q (.sq k63_6 :: s) k63_7 st := goC_seq
def k63_9 : ACode :=
  .ops q63_4 k63_8
@[simp] theorem xk63_9 : GoC fns Q s k63_9 st ↔ GoO fns Q s q63_4 k63_8 st := goC_ops
def lc63_0 : ACode :=
  k63_9
@[simp] theorem xlc63_0 : GoC fns Q s lc63_0 st ↔ GoC fns Q s k63_9 st := Iff.rfl
def k63_11 : ACode :=
  .loop lc63_0
@[simp] theorem xk63_11 : GoC fns Q s k63_11 st ↔ (LoopR fns lc63_0 st fun r => GoE fns Q s r.1 r.2) := goC_loop
def k63_12 : ACode :=
  .block 0 k63_11
@[simp] theorem xk63_12 : GoC fns Q s k63_12 st ↔ GoC fns Q (.bl 0 :: s) k63_11 st := goC_block
def k63_13 : ACode :=
  .seq k63_12 k63_0
@[simp] theorem xk63_13 : GoC fns Q s k63_13 st ↔ GoC fns Q (.sq k63_0 :: s) k63_12 st := goC_seq
def k63_14 : ACode :=
  .ops [⟨.assign (.c (.int .i64 0)), (some 5), none⟩] k63_13
@[simp] theorem xk63_14 : GoC fns Q s k63_14 st ↔ GoO fns Q s [⟨.assign (.c (.int .i64 0)), (some 5), none⟩] k63_13 st := goC_ops
def k63_15 : ACode :=
  .ops q63_5 k63_14
@[simp] theorem xk63_15 : GoC fns Q s k63_15 st ↔ GoO fns Q s q63_5 k63_14 st := goC_ops
def af63 : AFunc := ⟨23, k63_15, [.tmp 2, .tmp 3, .tmp 4], fun _ => none⟩

theorem ok63 : ∃ hs, pFunc Tryz.prog sg hs Tryz.f63 = some af63 := ⟨fun i => 0, by kernel_rfl⟩
def q60_0 : List AOper :=
  [⟨.assign (.c (.int .i64 0)), (some 4), none⟩,
    ⟨.assign (.c (.bool false)), (some 5), none⟩]
@[simp] def eq60_0 := id q60_0.eq_1
def q60_1 : List AOper :=
  [⟨.assign (.c (.int .i64 0)), (some 4), none⟩,
    ⟨.assign (.c (.bool true)), (some 5), none⟩]
@[simp] def eq60_1 := id q60_1.eq_1
def q60_2 : List AOper :=
  [⟨.move .head (.t 1), (some 27), none⟩,
    ⟨.len false (.p 27), (some 28), none⟩,
    ⟨.bin .geq 1 true (.p 28) (.c (.int .i64 1)), (some 29), none⟩,
    ⟨.assign (.c (.int .i64 1)), (some 4), none⟩,
    ⟨.assign (.p 29), (some 5), none⟩]
@[simp] def eq60_2 := id q60_2.eq_1
def q60_3 : List AOper :=
  [⟨.move .take (.p 7), (some 32), none⟩,
    ⟨.assign (.c (.int .i64 4)), (some 4), none⟩,
    ⟨.assign (.p 32), (some 5), none⟩]
@[simp] def eq60_3 := id q60_3.eq_1
def q60_4 : List AOper :=
  [⟨.move .head (.t 1), (some 38), none⟩,
    ⟨.len false (.p 38), (some 39), none⟩,
    ⟨.bin .geq 1 true (.p 39) (.c (.int .i64 8)), (some 40), none⟩,
    ⟨.assign (.c (.int .i64 8)), (some 4), none⟩,
    ⟨.assign (.p 40), (some 5), none⟩]
@[simp] def eq60_4 := id q60_4.eq_1
def q60_5 : List AOper :=
  [⟨.move .head (.t 1), (some 43), none⟩,
    ⟨.len false (.p 43), (some 44), none⟩,
    ⟨.bin .geq 1 true (.p 44) (.c (.int .i64 12)), (some 45), none⟩,
    ⟨.assign (.c (.int .i64 12)), (some 4), none⟩,
    ⟨.assign (.p 45), (some 5), none⟩]
@[simp] def eq60_5 := id q60_5.eq_1
def q60_6 : List AOper :=
  [⟨.move .head (.t 1), (some 48), none⟩,
    ⟨.len false (.p 48), (some 49), none⟩,
    ⟨.bin .geq 1 true (.p 49) (.c (.int .i64 16)), (some 50), none⟩,
    ⟨.assign (.c (.int .i64 16)), (some 4), none⟩,
    ⟨.assign (.p 50), (some 5), none⟩]
@[simp] def eq60_6 := id q60_6.eq_1
def q60_7 : List AOper :=
  [⟨.move .look (.p 6), (some 55), none⟩,
    ⟨.bin .add 1 true (.c (.int .i64 4)) (.p 55), (some 56), none⟩,
    ⟨.move .look (.p 7), (some 57), none⟩,
    ⟨.move .look (.p 57), (some 58), none⟩,
    ⟨.move .look (.p 6), (some 59), (some (58, true))⟩,
    ⟨.bin .geq 1 true (.p 59) (.c (.int .i64 1)), (some 60), (some (58, true))⟩,
    ⟨.pick (.p 58) (.p 60) (.c (.bool false)), (some 61), none⟩,
    ⟨.move .look (.p 61), (some 62), none⟩,
    ⟨.move .head (.t 1), (some 63), (some (62, true))⟩,
    ⟨.len false (.p 63), (some 64), (some (62, true))⟩,
    ⟨.move .look (.p 6), (some 65), (some (62, true))⟩,
    ⟨.bin .add 1 true (.c (.int .i64 4)) (.p 65), (some 66), (some (62, true))⟩,
    ⟨.bin .geq 1 false (.p 64) (.p 66), (some 67), (some (62, true))⟩,
    ⟨.pick (.p 62) (.p 67) (.c (.bool false)), (some 68), none⟩,
    ⟨.assign (.p 56), (some 4), none⟩,
    ⟨.assign (.p 68), (some 5), none⟩]
@[simp] def eq60_7 := id q60_7.eq_1
def q60_8 : List AOper :=
  [⟨.move .take (.p 6), (some 73), none⟩,
    ⟨.move .look (.p 7), (some 74), none⟩,
    ⟨.move .look (.p 74), (some 75), none⟩,
    ⟨.move .look (.p 6), (some 76), (some (75, true))⟩,
    ⟨.bin .geq 1 true (.p 76) (.c (.int .i64 5)), (some 77), (some (75, true))⟩,
    ⟨.pick (.p 75) (.p 77) (.c (.bool false)), (some 78), none⟩,
    ⟨.move .look (.p 78), (some 79), none⟩,
    ⟨.move .head (.t 1), (some 80), (some (79, true))⟩,
    ⟨.len false (.p 80), (some 81), (some (79, true))⟩,
    ⟨.move .look (.p 6), (some 82), (some (79, true))⟩,
    ⟨.bin .geq 1 false (.p 81) (.p 82), (some 83), (some (79, true))⟩,
    ⟨.pick (.p 79) (.p 83) (.c (.bool false)), (some 84), none⟩,
    ⟨.assign (.p 73), (some 4), none⟩,
    ⟨.assign (.p 84), (some 5), none⟩]
@[simp] def eq60_8 := id q60_8.eq_1
def q60_9 : List AOper :=
  [⟨.move .look (.p 6), (some 87), none⟩,
    ⟨.bin .add 1 true (.c (.int .i64 5)) (.p 87), (some 88), none⟩,
    ⟨.move .look (.p 7), (some 89), none⟩,
    ⟨.move .look (.p 89), (some 90), none⟩,
    ⟨.move .look (.p 6), (some 91), (some (90, true))⟩,
    ⟨.bin .geq 1 true (.p 91) (.c (.int .i64 0)), (some 92), (some (90, true))⟩,
    ⟨.pick (.p 90) (.p 92) (.c (.bool false)), (some 93), none⟩,
    ⟨.move .look (.p 93), (some 94), none⟩,
    ⟨.move .head (.t 1), (some 95), (some (94, true))⟩,
    ⟨.len false (.p 95), (some 96), (some (94, true))⟩,
    ⟨.move .look (.p 6), (some 97), (some (94, true))⟩,
    ⟨.bin .add 1 true (.c (.int .i64 5)) (.p 97), (some 98), (some (94, true))⟩,
    ⟨.bin .geq 1 false (.p 96) (.p 98), (some 99), (some (94, true))⟩,
    ⟨.pick (.p 94) (.p 99) (.c (.bool false)), (some 100), none⟩,
    ⟨.assign (.p 88), (some 4), none⟩,
    ⟨.assign (.p 100), (some 5), none⟩]
@[simp] def eq60_9 := id q60_9.eq_1
def q60_10 : List AOper :=
  [⟨.move .look (.p 6), (some 103), none⟩,
    ⟨.bin .add 1 true (.c (.int .i64 16)) (.p 103), (some 104), none⟩,
    ⟨.move .look (.p 7), (some 105), none⟩,
    ⟨.move .look (.p 105), (some 106), none⟩,
    ⟨.move .look (.p 6), (some 107), (some (106, true))⟩,
    ⟨.bin .geq 1 true (.p 107) (.c (.int .i64 1)), (some 108), (some (106, true))⟩,
    ⟨.pick (.p 106) (.p 108) (.c (.bool false)), (some 109), none⟩,
    ⟨.move .look (.p 109), (some 110), none⟩,
    ⟨.move .head (.t 1), (some 111), (some (110, true))⟩,
    ⟨.len false (.p 111), (some 112), (some (110, true))⟩,
    ⟨.move .look (.p 6), (some 113), (some (110, true))⟩,
    ⟨.bin .add 1 true (.c (.int .i64 16)) (.p 113), (some 114), (some (110, true))⟩,
    ⟨.bin .geq 1 false (.p 112) (.p 114), (some 115), (some (110, true))⟩,
    ⟨.pick (.p 110) (.p 115) (.c (.bool false)), (some 116), none⟩,
    ⟨.assign (.p 104), (some 4), none⟩,
    ⟨.assign (.p 116), (some 5), none⟩]
@[simp] def eq60_10 := id q60_10.eq_1
def q60_11 : List AOper :=
  [⟨.move .look (.p 9), (some 133), none⟩,
    ⟨.move .look (.p 12), (some 134), none⟩,
    ⟨.bin .add 1 false (.p 133) (.p 134), (some 135), none⟩,
    ⟨.move .look (.p 10), (some 136), none⟩,
    ⟨.move .look (.p 136), (some 137), none⟩,
    ⟨.move .look (.p 13), (some 138), (some (137, true))⟩,
    ⟨.pick (.p 137) (.p 138) (.c (.bool false)), (some 139), none⟩,
    ⟨.assign (.p 135), (some 4), none⟩,
    ⟨.assign (.p 139), (some 5), none⟩]
@[simp] def eq60_11 := id q60_11.eq_1
def q60_12 : List AOper :=
  [⟨.move .look (.t 1), (some 126), none⟩,
    ⟨.move .head (.p 9), (some 127), none⟩,
    ⟨.sliceSl 1 (.t 126) (some (.p 127)) none, (some 128), none⟩,
    ⟨.call 63 [(.t 128, false)], (some 129), none⟩,
    ⟨.move .look (.t 129), (some 125), none⟩,
    ⟨.extract 125 0, (some 130), none⟩,
    ⟨.extract 125 1, (some 131), none⟩,
    ⟨.extract 125 2, (some 132), none⟩,
    ⟨.assign (.p 130), (some 11), none⟩,
    ⟨.assign (.p 131), (some 12), none⟩,
    ⟨.assign (.p 132), (some 13), none⟩]
@[simp] def eq60_12 := id q60_12.eq_1
def q60_13 : List AOper :=
  [⟨.move .look (.t 1), (some 120), none⟩,
    ⟨.call 63 [(.t 120, false)], (some 121), none⟩,
    ⟨.move .look (.t 121), (some 119), none⟩,
    ⟨.extract 119 0, (some 122), none⟩,
    ⟨.extract 119 1, (some 123), none⟩,
    ⟨.extract 119 2, (some 124), none⟩,
    ⟨.assign (.p 122), (some 8), none⟩,
    ⟨.assign (.p 123), (some 9), none⟩,
    ⟨.assign (.p 124), (some 10), none⟩]
@[simp] def eq60_13 := id q60_13.eq_1
def q60_14 : List AOper :=
  [⟨.bin .eql 1 true (.p 19) (.c (.int .i64 11)), (some 118), none⟩,
    ⟨.assign (.p 118), (some 117), none⟩]
@[simp] def eq60_14 := id q60_14.eq_1
def q60_15 : List AOper :=
  [⟨.bin .eql 1 true (.p 19) (.c (.int .i64 12)), (some 102), none⟩,
    ⟨.assign (.p 102), (some 101), none⟩]
@[simp] def eq60_15 := id q60_15.eq_1
def q60_16 : List AOper :=
  [⟨.bin .eql 1 true (.p 19) (.c (.int .i64 5)), (some 86), none⟩,
    ⟨.assign (.p 86), (some 85), none⟩]
@[simp] def eq60_16 := id q60_16.eq_1
def q60_17 : List AOper :=
  [⟨.bin .eql 1 true (.p 19) (.c (.int .i64 15)), (some 72), none⟩,
    ⟨.assign (.p 72), (some 69), none⟩]
@[simp] def eq60_17 := id q60_17.eq_1
def q60_18 : List AOper :=
  [⟨.bin .eql 1 true (.p 19) (.c (.int .i64 4)), (some 71), none⟩,
    ⟨.assign (.p 71), (some 69), none⟩]
@[simp] def eq60_18 := id q60_18.eq_1
def q60_19 : List AOper :=
  [⟨.bin .eql 1 true (.p 19) (.c (.int .i64 3)), (some 70), none⟩,
    ⟨.assign (.p 70), (some 69), none⟩]
@[simp] def eq60_19 := id q60_19.eq_1
def q60_20 : List AOper :=
  [⟨.bin .eql 1 true (.p 19) (.c (.int .i64 14)), (some 54), none⟩,
    ⟨.assign (.p 54), (some 51), none⟩]
@[simp] def eq60_20 := id q60_20.eq_1
def q60_21 : List AOper :=
  [⟨.bin .eql 1 true (.p 19) (.c (.int .i64 13)), (some 53), none⟩,
    ⟨.assign (.p 53), (some 51), none⟩]
@[simp] def eq60_21 := id q60_21.eq_1
def q60_22 : List AOper :=
  [⟨.bin .eql 1 true (.p 19) (.c (.int .i64 2)), (some 52), none⟩,
    ⟨.assign (.p 52), (some 51), none⟩]
@[simp] def eq60_22 := id q60_22.eq_1
def q60_23 : List AOper :=
  [⟨.bin .eql 1 true (.p 19) (.c (.int .i64 19)), (some 47), none⟩,
    ⟨.assign (.p 47), (some 46), none⟩]
@[simp] def eq60_23 := id q60_23.eq_1
def q60_24 : List AOper :=
  [⟨.bin .eql 1 true (.p 19) (.c (.int .i64 7)), (some 42), none⟩,
    ⟨.assign (.p 42), (some 41), none⟩]
@[simp] def eq60_24 := id q60_24.eq_1
def q60_25 : List AOper :=
  [⟨.bin .eql 1 true (.p 19) (.c (.int .i64 17)), (some 37), none⟩,
    ⟨.assign (.p 37), (some 33), none⟩]
@[simp] def eq60_25 := id q60_25.eq_1
def q60_26 : List AOper :=
  [⟨.bin .eql 1 true (.p 19) (.c (.int .i64 18)), (some 36), none⟩,
    ⟨.assign (.p 36), (some 33), none⟩]
@[simp] def eq60_26 := id q60_26.eq_1
def q60_27 : List AOper :=
  [⟨.bin .eql 1 true (.p 19) (.c (.int .i64 9)), (some 35), none⟩,
    ⟨.assign (.p 35), (some 33), none⟩]
@[simp] def eq60_27 := id q60_27.eq_1
def q60_28 : List AOper :=
  [⟨.bin .eql 1 true (.p 19) (.c (.int .i64 1)), (some 34), none⟩,
    ⟨.assign (.p 34), (some 33), none⟩]
@[simp] def eq60_28 := id q60_28.eq_1
def q60_29 : List AOper :=
  [⟨.bin .eql 1 true (.p 19) (.c (.int .i64 16)), (some 31), none⟩,
    ⟨.assign (.p 31), (some 30), none⟩]
@[simp] def eq60_29 := id q60_29.eq_1
def q60_30 : List AOper :=
  [⟨.bin .eql 1 true (.p 19) (.c (.int .i64 8)), (some 26), none⟩,
    ⟨.assign (.p 26), (some 25), none⟩]
@[simp] def eq60_30 := id q60_30.eq_1
def q60_31 : List AOper :=
  [⟨.bin .eql 1 true (.p 19) (.c (.int .i64 127)), (some 24), none⟩,
    ⟨.assign (.p 24), (some 20), none⟩]
@[simp] def eq60_31 := id q60_31.eq_1
def q60_32 : List AOper :=
  [⟨.bin .eql 1 true (.p 19) (.c (.int .i64 255)), (some 23), none⟩,
    ⟨.assign (.p 23), (some 20), none⟩]
@[simp] def eq60_32 := id q60_32.eq_1
def q60_33 : List AOper :=
  [⟨.bin .eql 1 true (.p 19) (.c (.int .i64 10)), (some 22), none⟩,
    ⟨.assign (.p 22), (some 20), none⟩]
@[simp] def eq60_33 := id q60_33.eq_1
def q60_34 : List AOper :=
  [⟨.bin .eql 1 true (.p 19) (.c (.int .i64 6)), (some 21), none⟩,
    ⟨.assign (.p 21), (some 20), none⟩]
@[simp] def eq60_34 := id q60_34.eq_1
def q60_35 : List AOper :=
  [⟨.move .look (.t 1), (some 15), none⟩,
    ⟨.call 11 [(.t 15, false)], (some 16), none⟩,
    ⟨.move .look (.t 16), (some 14), none⟩,
    ⟨.extract 14 0, (some 17), none⟩,
    ⟨.extract 14 1, (some 18), none⟩,
    ⟨.assign (.p 17), (some 6), none⟩,
    ⟨.assign (.p 18), (some 7), none⟩]
@[simp] def eq60_35 := id q60_35.eq_1
def q60_36 : List AOper :=
  [⟨.assign (.c (.int .i64 0)), (some 4), none⟩,
    ⟨.assign (.c (.bool false)), (some 5), none⟩]
@[simp] def eq60_36 := id q60_36.eq_1
def k60_0 : ACode :=
  .ops q60_0 .ret
@[simp] theorem xk60_0 : GoC fns Q s k60_0 st ↔ GoO fns Q s q60_0 .ret st := goC_ops
def k60_1 : ACode :=
  .ops q60_1 .ret
@[simp] theorem xk60_1 : GoC fns Q s k60_1 st ↔ GoO fns Q s q60_1 .ret st := goC_ops
def k60_2 : ACode :=
  .ops q60_2 .ret
@[simp] theorem xk60_2 : GoC fns Q s k60_2 st ↔ GoO fns Q s q60_2 .ret st := goC_ops
def k60_3 : ACode :=
  .ops q60_3 .ret
@[simp] theorem xk60_3 : GoC fns Q s k60_3 st ↔ GoO fns Q s q60_3 .ret st := goC_ops
def k60_4 : ACode :=
  .ops q60_4 .ret
@[simp] theorem xk60_4 : GoC fns Q s k60_4 st ↔ GoO fns Q s q60_4 .ret st := goC_ops
def k60_5 : ACode :=
  .ops q60_5 .ret
@[simp] theorem xk60_5 : GoC fns Q s k60_5 st ↔ GoO fns Q s q60_5 .ret st := goC_ops
def k60_6 : ACode :=
  .ops q60_6 .ret
@[simp] theorem xk60_6 : GoC fns Q s k60_6 st ↔ GoO fns Q s q60_6 .ret st := goC_ops
def k60_7 : ACode :=
  .ops q60_7 .ret
@[simp] theorem xk60_7 : GoC fns Q s k60_7 st ↔ GoO fns Q s q60_7 .ret st := goC_ops
def k60_8 : ACode :=
  .ops q60_8 .ret
@[simp] theorem xk60_8 : GoC fns Q s k60_8 st ↔ GoO fns Q s q60_8 .ret st := goC_ops
def k60_9 : ACode :=
  .ops q60_9 .ret
@[simp] theorem xk60_9 : GoC fns Q s k60_9 st ↔ GoO fns Q s q60_9 .ret st := goC_ops
def k60_10 : ACode :=
  .ops q60_10 .ret
@[simp] theorem xk60_10 : GoC fns Q s k60_10 st ↔ GoO fns Q s q60_10 .ret st := goC_ops
def k60_11 : ACode :=
  .ops q60_11 .ret
@[simp] theorem xk60_11 : GoC fns Q s k60_11 st ↔ GoO fns Q s q60_11 .ret st := goC_ops
def k60_12 : ACode :=
  .ops q60_12 k60_11
@[simp] theorem xk60_12 : GoC fns Q s k60_12 st ↔ GoO fns Q s q60_12 k60_11 st := goC_ops
def k60_13 : ACode :=
  .ops q60_13 k60_12
@[simp] theorem xk60_13 : GoC fns Q s k60_13 st ↔ GoO fns Q s q60_13 k60_12 st := goC_ops
def k60_14 : ACode :=
  .cond (.p 117) k60_13 .skip
@[simp] theorem xk60_14 : GoC fns Q s k60_14 st ↔ GB fns Q s (peek st (.p 117)) k60_13 .skip st := goC_cond
def k60_15 : ACode :=
  .ops q60_14 k60_14
@[simp] theorem xk60_15 : GoC fns Q s k60_15 st ↔ GoO fns Q s q60_14 k60_14 st := goC_ops
def k60_16 : ACode :=
  .cond (.p 101) k60_10 k60_15
@[simp] theorem xk60_16 : GoC fns Q s k60_16 st ↔ GB fns Q s (peek st (.p 101)) k60_10 k60_15 st := goC_cond
def k60_17 : ACode :=
  .ops q60_15 k60_16
@[simp] theorem xk60_17 : GoC fns Q s k60_17 st ↔ GoO fns Q s q60_15 k60_16 st := goC_ops
def k60_18 : ACode :=
  .cond (.p 85) k60_9 k60_17
@[simp] theorem xk60_18 : GoC fns Q s k60_18 st ↔ GB fns Q s (peek st (.p 85)) k60_9 k60_17 st := goC_cond
def k60_19 : ACode :=
  .ops q60_16 k60_18
@[simp] theorem xk60_19 : GoC fns Q s k60_19 st ↔ GoO fns Q s q60_16 k60_18 st := goC_ops
def k60_20 : ACode :=
  .cond (.p 69) k60_8 k60_19
@[simp] theorem xk60_20 : GoC fns Q s k60_20 st ↔ GB fns Q s (peek st (.p 69)) k60_8 k60_19 st := goC_cond
def k60_21 : ACode :=
  .ops q60_17 .skip
@[simp] theorem xk60_21 : GoC fns Q s k60_21 st ↔ GoO fns Q s q60_17 .skip st := goC_ops
def k60_22 : ACode :=
  .cond (.p 69) .skip k60_21
@[simp] theorem xk60_22 : GoC fns Q s k60_22 st ↔ GB fns Q s (peek st (.p 69)) .skip k60_21 st := goC_cond
def k60_23 : ACode :=
  .ops q60_18 k60_22
@[simp] theorem xk60_23 : GoC fns Q s k60_23 st ↔ GoO fns Q s q60_18 k60_22 st := goC_ops
def k60_24 : ACode :=
  .cond (.p 69) .skip k60_23
@[simp] theorem xk60_24 : GoC fns Q s k60_24 st ↔ GB fns Q s (peek st (.p 69)) .skip k60_23 st := goC_cond
def k60_25 : ACode :=
  .seq k60_24 k60_20
@[simp] theorem xk60_25 : GoC fns Q s k60_25 st ↔ GoC fns Q (.sq k60_20 :: s) k60_24 st := goC_seq
def k60_26 : ACode :=
  .ops q60_19 k60_25
@[simp] theorem xk60_26 : GoC fns Q s k60_26 st ↔ GoO fns Q s q60_19 k60_25 st := goC_ops
def k60_27 : ACode :=
  .cond (.p 51) k60_7 k60_26
@[simp] theorem xk60_27 : GoC fns Q s k60_27 st ↔ GB fns Q s (peek st (.p 51)) k60_7 k60_26 st := goC_cond
def k60_28 : ACode :=
  .ops q60_20 .skip
@[simp] theorem xk60_28 : GoC fns Q s k60_28 st ↔ GoO fns Q s q60_20 .skip st := goC_ops
def k60_29 : ACode :=
  .cond (.p 51) .skip k60_28
@[simp] theorem xk60_29 : GoC fns Q s k60_29 st ↔ GB fns Q s (peek st (.p 51)) .skip k60_28 st := goC_cond
def k60_30 : ACode :=
  .ops q60_21 k60_29
@[simp] theorem xk60_30 : GoC fns Q s k60_30 st ↔ GoO fns Q s q60_21 k60_29 st := goC_ops
def k60_31 : ACode :=
  .cond (.p 51) .skip k60_30
@[simp] theorem xk60_31 : GoC fns Q s k60_31 st ↔ GB fns Q s (peek st (.p 51)) .skip k60_30 st := goC_cond
def k60_32 : ACode :=
  .seq k60_31 k60_27
@[simp] theorem xk60_32 : GoC fns Q s k60_32 st ↔ GoC fns Q (.sq k60_27 :: s) k60_31 st := goC_seq
def k60_33 : ACode :=
  .ops q60_22 k60_32
@[simp] theorem xk60_33 : GoC fns Q s k60_33 st ↔ GoO fns Q s q60_22 k60_32 st := goC_ops
def k60_34 : ACode :=
  .cond (.p 46) k60_6 k60_33
@[simp] theorem xk60_34 : GoC fns Q s k60_34 st ↔ GB fns Q s (peek st (.p 46)) k60_6 k60_33 st := goC_cond
def k60_35 : ACode :=
  .ops q60_23 k60_34
@[simp] theorem xk60_35 : GoC fns Q s k60_35 st ↔ GoO fns Q s q60_23 k60_34 st := goC_ops
def k60_36 : ACode :=
  .cond (.p 41) k60_5 k60_35
@[simp] theorem xk60_36 : GoC fns Q s k60_36 st ↔ GB fns Q s (peek st (.p 41)) k60_5 k60_35 st := goC_cond
def k60_37 : ACode :=
  .ops q60_24 k60_36
@[simp] theorem xk60_37 : GoC fns Q s k60_37 st ↔ GoO fns Q s q60_24 k60_36 st := goC_ops
def k60_38 : ACode :=
  .cond (.p 33) k60_4 k60_37
@[simp] theorem xk60_38 : GoC fns Q s k60_38 st ↔ GB fns Q s (peek st (.p 33)) k60_4 k60_37 st := goC_cond
def k60_39 : ACode :=
  .ops q60_25 .skip
@[simp] theorem xk60_39 : GoC fns Q s k60_39 st ↔ GoO fns Q s q60_25 .skip st := goC_ops
def k60_40 : ACode :=
  .cond (.p 33) .skip k60_39
@[simp] theorem xk60_40 : GoC fns Q s k60_40 st ↔ GB fns Q s (peek st (.p 33)) .skip k60_39 st := goC_cond
def k60_41 : ACode :=
  .ops q60_26 k60_40
@[simp] theorem xk60_41 : GoC fns Q s k60_41 st ↔ GoO fns Q s q60_26 k60_40 st := goC_ops
def k60_42 : ACode :=
  .cond (.p 33) .skip k60_41
@[simp] theorem xk60_42 : GoC fns Q s k60_42 st ↔ GB fns Q s (peek st (.p 33)) .skip k60_41 st := goC_cond
def k60_43 : ACode :=
  .ops q60_27 k60_42
@[simp] theorem xk60_43 : GoC fns Q s k60_43 st ↔ GoO fns Q s q60_27 k60_42 st := goC_ops
def k60_44 : ACode :=
  .cond (.p 33) .skip k60_43
@[simp] theorem xk60_44 : GoC fns Q s k60_44 st ↔ GB fns Q s (peek st (.p 33)) .skip k60_43 st := goC_cond
def k60_45 : ACode :=
  .seq k60_44 k60_38
@[simp] theorem xk60_45 : GoC fns Q s k60_45 st ↔ GoC fns Q (.sq k60_38 :: s) k60_44 st := goC_seq
def k60_46 : ACode :=
  .ops q60_28 k60_45
@[simp] theorem xk60_46 : GoC fns Q s k60_46 st ↔ GoO fns Q s q60_28 k60_45 st := goC_ops
def k60_47 : ACode :=
  .cond (.p 30) k60_3 k60_46
@[simp] theorem xk60_47 : GoC fns Q s k60_47 st ↔ GB fns Q s (peek st (.p 30)) k60_3 k60_46 st := goC_cond
def k60_48 : ACode :=
  .ops q60_29 k60_47
@[simp] theorem xk60_48 : GoC fns Q s k60_48 st ↔ GoO fns Q s q60_29 k60_47 st := goC_ops
def k60_49 : ACode :=
  .cond (.p 25) k60_2 k60_48
@[simp] theorem xk60_49 : GoC fns Q s k60_49 st ↔ GB fns Q s (peek st (.p 25)) k60_2 k60_48 st := goC_cond
def k60_50 : ACode :=
  .ops q60_30 k60_49
@[simp] theorem xk60_50 : GoC fns Q s k60_50 st ↔ GoO fns Q s q60_30 k60_49 st := goC_ops
def k60_51 : ACode :=
  .cond (.p 20) k60_1 k60_50
@[simp] theorem xk60_51 : GoC fns Q s k60_51 st ↔ GB fns Q s (peek st (.p 20)) k60_1 k60_50 st := goC_cond
def k60_52 : ACode :=
  .ops q60_31 .skip
@[simp] theorem xk60_52 : GoC fns Q s k60_52 st ↔ GoO fns Q s q60_31 .skip st := goC_ops
def k60_53 : ACode :=
  .cond (.p 20) .skip k60_52
@[simp] theorem xk60_53 : GoC fns Q s k60_53 st ↔ GB fns Q s (peek st (.p 20)) .skip k60_52 st := goC_cond
def k60_54 : ACode :=
  .ops q60_32 k60_53
@[simp] theorem xk60_54 : GoC fns Q s k60_54 st ↔ GoO fns Q s q60_32 k60_53 st := goC_ops
def k60_55 : ACode :=
  .cond (.p 20) .skip k60_54
@[simp] theorem xk60_55 : GoC fns Q s k60_55 st ↔ GB fns Q s (peek st (.p 20)) .skip k60_54 st := goC_cond
def k60_56 : ACode :=
  .ops q60_33 k60_55
@[simp] theorem xk60_56 : GoC fns Q s k60_56 st ↔ GoO fns Q s q60_33 k60_55 st := goC_ops
def k60_57 : ACode :=
  .cond (.p 20) .skip k60_56
@[simp] theorem xk60_57 : GoC fns Q s k60_57 st ↔ GB fns Q s (peek st (.p 20)) .skip k60_56 st := goC_cond
def k60_58 : ACode :=
  .seq k60_57 k60_51
@[simp] theorem xk60_58 : GoC fns Q s k60_58 st ↔ GoC fns Q (.sq k60_51 :: s) k60_57 st := goC_seq
def k60_59 : ACode :=
  .ops q60_34 k60_58
@[simp] theorem xk60_59 : GoC fns Q s k60_59 st ↔ GoO fns Q s q60_34 k60_58 st := goC_ops
def k60_60 : ACode :=
  .block 0 k60_59
@[simp] theorem xk60_60 : GoC fns Q s k60_60 st ↔ GoC fns Q (.bl 0 :: s) k60_59 st := goC_block
def k60_61 : ACode :=
  .seq k60_60 k60_0
@[simp] theorem xk60_61 : GoC fns Q s k60_61 st ↔ GoC fns Q (.sq k60_0 :: s) k60_60 st := goC_seq
def k60_62 : ACode :=
  .ops [⟨.move .head (.p 0), (some 19), none⟩] k60_61
@[simp] theorem xk60_62 : GoC fns Q s k60_62 st ↔ GoO fns Q s [⟨.move .head (.p 0), (some 19), none⟩] k60_61 st := goC_ops
def k60_63 : ACode :=
  .ops q60_35 k60_62
@[simp] theorem xk60_63 : GoC fns Q s k60_63 st ↔ GoO fns Q s q60_35 k60_62 st := goC_ops
def k60_64 : ACode :=
  .ops q60_36 k60_63
@[simp] theorem xk60_64 : GoC fns Q s k60_64 st ↔ GoO fns Q s q60_36 k60_63 st := goC_ops
def af60 : AFunc := ⟨140, k60_64, [.tmp 4, .tmp 5], fun _ => none⟩

theorem ok60 : ∃ hs, pFunc Tryz.prog sg hs Tryz.f60 = some af60 := ⟨fun i => 0, by kernel_rfl⟩
def q16_0 : List AOper :=
  [⟨.move .look (.p 0), (some 64), none⟩,
    ⟨.move .look (.t 1), (some 65), none⟩,
    ⟨.call 60 [(.p 64, false), (.t 65, false)], (some 66), none⟩,
    ⟨.extract 66 0, (some 67), none⟩,
    ⟨.extract 66 1, (some 68), none⟩,
    ⟨.assign (.p 67), (some 4), none⟩,
    ⟨.assign (.p 68), (some 5), none⟩]
@[simp] def eq16_0 := id q16_0.eq_1
def q16_1 : List AOper :=
  [⟨.move .look (.p 6), (some 18), none⟩,
    ⟨.bin .add 1 true (.c (.int .i64 4)) (.p 18), (some 19), none⟩,
    ⟨.move .look (.p 7), (some 20), none⟩,
    ⟨.move .look (.p 20), (some 21), none⟩,
    ⟨.move .look (.p 6), (some 22), (some (21, true))⟩,
    ⟨.bin .geq 1 true (.p 22) (.c (.int .i64 0)), (some 23), (some (21, true))⟩,
    ⟨.pick (.p 21) (.p 23) (.c (.bool false)), (some 24), none⟩,
    ⟨.move .look (.p 24), (some 25), none⟩,
    ⟨.move .head (.t 1), (some 26), (some (25, true))⟩,
    ⟨.len false (.p 26), (some 27), (some (25, true))⟩,
    ⟨.move .look (.p 6), (some 28), (some (25, true))⟩,
    ⟨.bin .add 1 true (.c (.int .i64 4)) (.p 28), (some 29), (some (25, true))⟩,
    ⟨.bin .geq 1 false (.p 27) (.p 29), (some 30), (some (25, true))⟩,
    ⟨.pick (.p 25) (.p 30) (.c (.bool false)), (some 31), none⟩,
    ⟨.assign (.p 19), (some 4), none⟩,
    ⟨.assign (.p 31), (some 5), none⟩]
@[simp] def eq16_1 := id q16_1.eq_1
def q16_2 : List AOper :=
  [⟨.move .take (.p 6), (some 36), none⟩,
    ⟨.move .look (.p 7), (some 37), none⟩,
    ⟨.move .look (.p 37), (some 38), none⟩,
    ⟨.move .look (.p 6), (some 39), (some (38, true))⟩,
    ⟨.bin .geq 1 true (.p 39) (.c (.int .i64 0)), (some 40), (some (38, true))⟩,
    ⟨.pick (.p 38) (.p 40) (.c (.bool false)), (some 41), none⟩,
    ⟨.move .look (.p 41), (some 42), none⟩,
    ⟨.move .head (.t 1), (some 43), (some (42, true))⟩,
    ⟨.len false (.p 43), (some 44), (some (42, true))⟩,
    ⟨.move .look (.p 6), (some 45), (some (42, true))⟩,
    ⟨.bin .geq 1 false (.p 44) (.p 45), (some 46), (some (42, true))⟩,
    ⟨.pick (.p 42) (.p 46) (.c (.bool false)), (some 47), none⟩,
    ⟨.assign (.p 36), (some 4), none⟩,
    ⟨.assign (.p 47), (some 5), none⟩]
@[simp] def eq16_2 := id q16_2.eq_1
def q16_3 : List AOper :=
  [⟨.move .look (.p 6), (some 50), none⟩,
    ⟨.bin .add 1 true (.c (.int .i64 16)) (.p 50), (some 51), none⟩,
    ⟨.move .look (.p 7), (some 52), none⟩,
    ⟨.move .look (.p 52), (some 53), none⟩,
    ⟨.move .look (.p 6), (some 54), (some (53, true))⟩,
    ⟨.bin .geq 1 true (.p 54) (.c (.int .i64 0)), (some 55), (some (53, true))⟩,
    ⟨.pick (.p 53) (.p 55) (.c (.bool false)), (some 56), none⟩,
    ⟨.move .look (.p 56), (some 57), none⟩,
    ⟨.move .head (.t 1), (some 58), (some (57, true))⟩,
    ⟨.len false (.p 58), (some 59), (some (57, true))⟩,
    ⟨.move .look (.p 6), (some 60), (some (57, true))⟩,
    ⟨.bin .add 1 true (.c (.int .i64 16)) (.p 60), (some 61), (some (57, true))⟩,
    ⟨.bin .geq 1 false (.p 59) (.p 61), (some 62), (some (57, true))⟩,
    ⟨.pick (.p 57) (.p 62) (.c (.bool false)), (some 63), none⟩,
    ⟨.assign (.p 51), (some 4), none⟩,
    ⟨.assign (.p 63), (some 5), none⟩]
@[simp] def eq16_3 := id q16_3.eq_1
def q16_4 : List AOper :=
  [⟨.bin .eql 1 true (.p 13) (.c (.int .i64 12)), (some 49), none⟩,
    ⟨.assign (.p 49), (some 48), none⟩]
@[simp] def eq16_4 := id q16_4.eq_1
def q16_5 : List AOper :=
  [⟨.bin .eql 1 true (.p 13) (.c (.int .i64 15)), (some 35), none⟩,
    ⟨.assign (.p 35), (some 32), none⟩]
@[simp] def eq16_5 := id q16_5.eq_1
def q16_6 : List AOper :=
  [⟨.bin .eql 1 true (.p 13) (.c (.int .i64 4)), (some 34), none⟩,
    ⟨.assign (.p 34), (some 32), none⟩]
@[simp] def eq16_6 := id q16_6.eq_1
def q16_7 : List AOper :=
  [⟨.bin .eql 1 true (.p 13) (.c (.int .i64 3)), (some 33), none⟩,
    ⟨.assign (.p 33), (some 32), none⟩]
@[simp] def eq16_7 := id q16_7.eq_1
def q16_8 : List AOper :=
  [⟨.bin .eql 1 true (.p 13) (.c (.int .i64 14)), (some 17), none⟩,
    ⟨.assign (.p 17), (some 14), none⟩]
@[simp] def eq16_8 := id q16_8.eq_1
def q16_9 : List AOper :=
  [⟨.bin .eql 1 true (.p 13) (.c (.int .i64 13)), (some 16), none⟩,
    ⟨.assign (.p 16), (some 14), none⟩]
@[simp] def eq16_9 := id q16_9.eq_1
def q16_10 : List AOper :=
  [⟨.bin .eql 1 true (.p 13) (.c (.int .i64 2)), (some 15), none⟩,
    ⟨.assign (.p 15), (some 14), none⟩]
@[simp] def eq16_10 := id q16_10.eq_1
def q16_11 : List AOper :=
  [⟨.move .look (.t 1), (some 9), none⟩,
    ⟨.call 11 [(.t 9, false)], (some 10), none⟩,
    ⟨.move .look (.t 10), (some 8), none⟩,
    ⟨.extract 8 0, (some 11), none⟩,
    ⟨.extract 8 1, (some 12), none⟩,
    ⟨.assign (.p 11), (some 6), none⟩,
    ⟨.assign (.p 12), (some 7), none⟩]
@[simp] def eq16_11 := id q16_11.eq_1
def q16_12 : List AOper :=
  [⟨.assign (.c (.int .i64 0)), (some 4), none⟩,
    ⟨.assign (.c (.bool false)), (some 5), none⟩]
@[simp] def eq16_12 := id q16_12.eq_1
def k16_0 : ACode :=
  .ops q16_0 .ret
@[simp] theorem xk16_0 : GoC fns Q s k16_0 st ↔ GoO fns Q s q16_0 .ret st := goC_ops
def k16_1 : ACode :=
  .ops q16_1 .ret
@[simp] theorem xk16_1 : GoC fns Q s k16_1 st ↔ GoO fns Q s q16_1 .ret st := goC_ops
def k16_2 : ACode :=
  .ops q16_2 .ret
@[simp] theorem xk16_2 : GoC fns Q s k16_2 st ↔ GoO fns Q s q16_2 .ret st := goC_ops
def k16_3 : ACode :=
  .ops q16_3 .ret
@[simp] theorem xk16_3 : GoC fns Q s k16_3 st ↔ GoO fns Q s q16_3 .ret st := goC_ops
def k16_4 : ACode :=
  .cond (.p 48) k16_3 .skip
@[simp] theorem xk16_4 : GoC fns Q s k16_4 st ↔ GB fns Q s (peek st (.p 48)) k16_3 .skip st := goC_cond
def k16_5 : ACode :=
  .ops q16_4 k16_4
@[simp] theorem xk16_5 : GoC fns Q s k16_5 st ↔ GoO fns Q s q16_4 k16_4 st := goC_ops
def k16_6 : ACode :=
  .cond (.p 32) k16_2 k16_5
@[simp] theorem xk16_6 : GoC fns Q s k16_6 st ↔ GB fns Q s (peek st (.p 32)) k16_2 k16_5 st := goC_cond
def k16_7 : ACode :=
  .ops q16_5 .skip
@[simp] theorem xk16_7 : GoC fns Q s k16_7 st ↔ GoO fns Q s q16_5 .skip st := goC_ops
def k16_8 : ACode :=
  .cond (.p 32) .skip k16_7
@[simp] theorem xk16_8 : GoC fns Q s k16_8 st ↔ GB fns Q s (peek st (.p 32)) .skip k16_7 st := goC_cond
def k16_9 : ACode :=
  .ops q16_6 k16_8
@[simp] theorem xk16_9 : GoC fns Q s k16_9 st ↔ GoO fns Q s q16_6 k16_8 st := goC_ops
def k16_10 : ACode :=
  .cond (.p 32) .skip k16_9
@[simp] theorem xk16_10 : GoC fns Q s k16_10 st ↔ GB fns Q s (peek st (.p 32)) .skip k16_9 st := goC_cond
def k16_11 : ACode :=
  .seq k16_10 k16_6
@[simp] theorem xk16_11 : GoC fns Q s k16_11 st ↔ GoC fns Q (.sq k16_6 :: s) k16_10 st := goC_seq
def k16_12 : ACode :=
  .ops q16_7 k16_11
@[simp] theorem xk16_12 : GoC fns Q s k16_12 st ↔ GoO fns Q s q16_7 k16_11 st := goC_ops
def k16_13 : ACode :=
  .cond (.p 14) k16_1 k16_12
@[simp] theorem xk16_13 : GoC fns Q s k16_13 st ↔ GB fns Q s (peek st (.p 14)) k16_1 k16_12 st := goC_cond
def k16_14 : ACode :=
  .ops q16_8 .skip
@[simp] theorem xk16_14 : GoC fns Q s k16_14 st ↔ GoO fns Q s q16_8 .skip st := goC_ops
def k16_15 : ACode :=
  .cond (.p 14) .skip k16_14
@[simp] theorem xk16_15 : GoC fns Q s k16_15 st ↔ GB fns Q s (peek st (.p 14)) .skip k16_14 st := goC_cond
def k16_16 : ACode :=
  .ops q16_9 k16_15
@[simp] theorem xk16_16 : GoC fns Q s k16_16 st ↔ GoO fns Q s q16_9 k16_15 st := goC_ops
def k16_17 : ACode :=
  .cond (.p 14) .skip k16_16
@[simp] theorem xk16_17 : GoC fns Q s k16_17 st ↔ GB fns Q s (peek st (.p 14)) .skip k16_16 st := goC_cond
def k16_18 : ACode :=
  .seq k16_17 k16_13
@[simp] theorem xk16_18 : GoC fns Q s k16_18 st ↔ GoC fns Q (.sq k16_13 :: s) k16_17 st := goC_seq
def k16_19 : ACode :=
  .ops q16_10 k16_18
@[simp] theorem xk16_19 : GoC fns Q s k16_19 st ↔ GoO fns Q s q16_10 k16_18 st := goC_ops
def k16_20 : ACode :=
  .block 0 k16_19
@[simp] theorem xk16_20 : GoC fns Q s k16_20 st ↔ GoC fns Q (.bl 0 :: s) k16_19 st := goC_block
def k16_21 : ACode :=
  .seq k16_20 k16_0
@[simp] theorem xk16_21 : GoC fns Q s k16_21 st ↔ GoC fns Q (.sq k16_0 :: s) k16_20 st := goC_seq
def k16_22 : ACode :=
  .ops [⟨.move .head (.p 0), (some 13), none⟩] k16_21
@[simp] theorem xk16_22 : GoC fns Q s k16_22 st ↔ GoO fns Q s [⟨.move .head (.p 0), (some 13), none⟩] k16_21 st := goC_ops
def k16_23 : ACode :=
  .ops q16_11 k16_22
@[simp] theorem xk16_23 : GoC fns Q s k16_23 st ↔ GoO fns Q s q16_11 k16_22 st := goC_ops
def k16_24 : ACode :=
  .ops q16_12 k16_23
@[simp] theorem xk16_24 : GoC fns Q s k16_24 st ↔ GoO fns Q s q16_12 k16_23 st := goC_ops
def af16 : AFunc := ⟨69, k16_24, [.tmp 4, .tmp 5], fun _ => none⟩

theorem ok16 : ∃ hs, pFunc Tryz.prog sg hs Tryz.f16 = some af16 := ⟨fun i => 0, by kernel_rfl⟩
def q13_0 : List AOper :=
  [⟨.buildSl 5 1 [] [], (some 3), none⟩,
    ⟨.move .look (.t 0), (some 4), none⟩,
    ⟨.append 5 1 1 false (.t 3) (.p 4), (some 5), none⟩,
    ⟨.assign (.t 5), (some 2), none⟩]
@[simp] def eq13_0 := id q13_0.eq_1
def k13_0 : ACode :=
  .ops q13_0 .ret
@[simp] theorem xk13_0 : GoC fns Q s k13_0 st ↔ GoO fns Q s q13_0 .ret st := goC_ops
def k13_1 : ACode :=
  .ops [⟨.assign (.c (.slice .nil 0 1 [])), (some 2), none⟩] k13_0
@[simp] theorem xk13_1 : GoC fns Q s k13_1 st ↔ GoO fns Q s [⟨.assign (.c (.slice .nil 0 1 [])), (some 2), none⟩] k13_0 st := goC_ops
def af13 : AFunc := ⟨6, k13_1, [.tmp 2], fun _ => none⟩

theorem ok13 : ∃ hs, pFunc Tryz.prog sg hs Tryz.f13 = some af13 := ⟨fun i => 0, by kernel_rfl⟩
def q140_0 : List AOper :=
  [⟨.move .take (.p 5), (some 35), none⟩,
    ⟨.move .look (.t 0), (some 36), none⟩,
    ⟨.sliceSl 1 (.t 36) (some (.c (.int .i64 4))) none, (some 37), none⟩,
    ⟨.assign (.p 35), (some 2), none⟩,
    ⟨.assign (.t 37), (some 3), none⟩,
    ⟨.assign (.c (.bool true)), (some 4), none⟩]
@[simp] def eq140_0 := id q140_0.eq_1
def q140_1 : List AOper :=
  [⟨.move .look (.t 0), (some 13), none⟩,
    ⟨.indexAddr 1 (.t 13) (.c (.int .i64 0)), (some 14), none⟩,
    ⟨.load .look false 1 (.p 14), (some 15), none⟩,
    ⟨.convInt .i32 (.p 15), (some 16), none⟩,
    ⟨.move .look (.t 0), (some 17), none⟩,
    ⟨.indexAddr 1 (.t 17) (.c (.int .i64 1)), (some 18), none⟩,
    ⟨.load .look false 1 (.p 18), (some 19), none⟩,
    ⟨.convInt .i32 (.p 19), (some 20), none⟩,
    ⟨.bin .shl 1 true (.p 20) (.c (.int .u64 8)), (some 21), none⟩,
    ⟨.bin .or 1 false (.p 16) (.p 21), (some 22), none⟩,
    ⟨.move .look (.t 0), (some 23), none⟩,
    ⟨.indexAddr 1 (.t 23) (.c (.int .i64 2)), (some 24), none⟩,
    ⟨.load .look false 1 (.p 24), (some 25), none⟩,
    ⟨.convInt .i32 (.p 25), (some 26), none⟩,
    ⟨.bin .shl 1 true (.p 26) (.c (.int .u64 16)), (some 27), none⟩,
    ⟨.bin .or 1 false (.p 22) (.p 27), (some 28), none⟩,
    ⟨.move .look (.t 0), (some 29), none⟩,
    ⟨.indexAddr 1 (.t 29) (.c (.int .i64 3)), (some 30), none⟩,
    ⟨.load .look false 1 (.p 30), (some 31), none⟩,
    ⟨.convInt .i32 (.p 31), (some 32), none⟩,
    ⟨.bin .shl 1 true (.p 32) (.c (.int .u64 24)), (some 33), none⟩,
    ⟨.bin .or 1 false (.p 28) (.p 33), (some 34), none⟩,
    ⟨.assign (.p 34), (some 5), none⟩]
@[simp] def eq140_1 := id q140_1.eq_1
def q140_2 : List AOper :=
  [⟨.move .look (.t 0), (some 10), none⟩,
    ⟨.indexAddr 1 (.t 10) (.c (.int .i64 3)), (some 11), none⟩,
    ⟨.load .head false 1 (.p 11), (some 12), none⟩]
@[simp] def eq140_2 := id q140_2.eq_1
def q140_3 : List AOper :=
  [⟨.move .take (.t 0), (some 9), none⟩,
    ⟨.assign (.c (.int .i32 0)), (some 2), none⟩,
    ⟨.assign (.t 9), (some 3), none⟩,
    ⟨.assign (.c (.bool false)), (some 4), none⟩]
@[simp] def eq140_3 := id q140_3.eq_1
def q140_4 : List AOper :=
  [⟨.move .head (.t 0), (some 6), none⟩,
    ⟨.len false (.p 6), (some 7), none⟩,
    ⟨.bin .lss 1 true (.p 7) (.c (.int .i64 4)), (some 8), none⟩]
@[simp] def eq140_4 := id q140_4.eq_1
def q140_5 : List AOper :=
  [⟨.assign (.c (.int .i32 0)), (some 2), none⟩,
    ⟨.assign (.c (.slice .nil 0 1 [])), (some 3), none⟩,
    ⟨.assign (.c (.bool false)), (some 4), none⟩]
@[simp] def eq140_5 := id q140_5.eq_1
def k140_0 : ACode :=
  .ops q140_0 .ret
@[simp] theorem xk140_0 : GoC fns Q s k140_0 st ↔ GoO fns Q s q140_0 .ret st := goC_ops
def k140_1 : ACode :=
  .ops q140_1 k140_0
@[simp] theorem xk140_1 : GoC fns Q s k140_1 st ↔ GoO fns Q s q140_1 k140_0 st := goC_ops
def k140_2 : ACode :=
  .ops q140_2 k140_1
@[simp] theorem xk140_2 : GoC fns Q s k140_2 st ↔ GoO fns Q s q140_2 k140_1 st := goC_ops
def k140_3 : ACode :=
  .ops q140_3 .ret
@[simp] theorem xk140_3 : GoC fns Q s k140_3 st ↔ GoO fns Q s q140_3 .ret st := goC_ops
def k140_4 : ACode :=
  .cond (.p 8) k140_3 .skip
@[simp] theorem xk140_4 : GoC fns Q s k140_4 st ↔ GB fns Q s (peek st (.p 8)) k140_3 .skip st := goC_cond
def k140_5 : ACode :=
  .seq k140_4 k140_2
@[simp] theorem xk140_5 : GoC fns Q s k140_5 st ↔ GoC fns Q (.sq k140_2 :: s) k140_4 st := goC_seq
def k140_6 : ACode :=
  .ops q140_4 k140_5
@[simp] theorem xk140_6 : GoC fns Q s k140_6 st ↔ GoO fns Q s q140_4 k140_5 st := goC_ops
def k140_7 : ACode :=
  .ops q140_5 k140_6
@[simp] theorem xk140_7 : GoC fns Q s k140_7 st ↔ GoO fns Q s q140_5 k140_6 st := goC_ops
def af140 : AFunc := ⟨38, k140_7, [.tmp 2, .tmp 3, .tmp 4], fun _ => none⟩

theorem ok140 : ∃ hs, pFunc Tryz.prog sg hs Tryz.f140 = some af140 := ⟨fun i => 0, by kernel_rfl⟩
def q54_0 : List AOper :=
  [⟨.move .take (.p 5), (some 17), none⟩,
    ⟨.move .take (.t 0), (some 18), none⟩,
    ⟨.move .take (.p 6), (some 19), none⟩,
    ⟨.assign (.p 17), (some 2), none⟩,
    ⟨.assign (.t 18), (some 3), none⟩,
    ⟨.assign (.p 19), (some 4), none⟩]
@[simp] def eq54_0 := id q54_0.eq_1
def q54_1 : List AOper :=
  [⟨.move .take (.p 5), (some 15), none⟩,
    ⟨.move .take (.t 0), (some 16), none⟩,
    ⟨.assign (.p 15), (some 2), none⟩,
    ⟨.assign (.t 16), (some 3), none⟩,
    ⟨.assign (.c (.bool false)), (some 4), none⟩]
@[simp] def eq54_1 := id q54_1.eq_1
def q54_2 : List AOper :=
  [⟨.move .look (.p 5), (some 13), none⟩,
    ⟨.bin .lss 1 true (.p 13) (.c (.int .i32 0)), (some 14), none⟩]
@[simp] def eq54_2 := id q54_2.eq_1
def q54_3 : List AOper :=
  [⟨.move .look (.t 0), (some 8), none⟩,
    ⟨.call 140 [(.t 8, false)], (some 9), none⟩,
    ⟨.move .look (.t 9), (some 7), none⟩,
    ⟨.extract 7 0, (some 10), none⟩,
    ⟨.extract 7 1, (some 11), none⟩,
    ⟨.extract 7 2, (some 12), none⟩,
    ⟨.assign (.p 10), (some 5), none⟩,
    ⟨.assign (.t 11), (some 0), none⟩,
    ⟨.assign (.p 12), (some 6), none⟩]
@[simp] def eq54_3 := id q54_3.eq_1
def q54_4 : List AOper :=
  [⟨.assign (.c (.int .i32 0)), (some 2), none⟩,
    ⟨.assign (.c (.slice .nil 0 1 [])), (some 3), none⟩,
    ⟨.assign (.c (.bool false)), (some 4), none⟩]
@[simp] def eq54_4 := id q54_4.eq_1
def k54_0 : ACode :=
  .ops q54_0 .ret
@[simp] theorem xk54_0 : GoC fns Q s k54_0 st ↔ GoO fns Q s q54_0 .ret st := goC_ops
def k54_1 : ACode :=
  .ops q54_1 .ret
@[simp] theorem xk54_1 : GoC fns Q s k54_1 st ↔ GoO fns Q s q54_1 .ret st := goC_ops
def k54_2 : ACode :=
  .cond (.p 14) k54_1 .skip
@[simp] theorem xk54_2 : GoC fns Q s k54_2 st ↔ GB fns Q s (peek st (.p 14)) k54_1 .skip st := goC_cond
def k54_3 : ACode :=
  .seq k54_2 k54_0
@[simp] theorem xk54_3 : GoC fns Q s k54_3 st ↔ GoC fns Q (.sq k54_0 :: s) k54_2 st := goC_seq
def k54_4 : ACode :=
  .ops q54_2 k54_3
@[simp] theorem xk54_4 : GoC fns Q s k54_4 st ↔ GoO fns Q s q54_2 k54_3 st := goC_ops
def k54_5 : ACode :=
  .ops q54_3 k54_4
@[simp] theorem xk54_5 : GoC fns Q s k54_5 st ↔ GoO fns Q s q54_3 k54_4 st := goC_ops
def k54_6 : ACode :=
  .ops q54_4 k54_5
@[simp] theorem xk54_6 : GoC fns Q s k54_6 st ↔ GoO fns Q s q54_4 k54_5 st := goC_ops
def af54 : AFunc := ⟨20, k54_6, [.tmp 2, .tmp 3, .tmp 4], fun _ => none⟩

theorem ok54 : ∃ hs, pFunc Tryz.prog sg hs Tryz.f54 = some af54 := ⟨fun i => 0, by kernel_rfl⟩
def q220_0 : List AOper :=
  [⟨.move .look (.t 0), (some 5), none⟩,
    ⟨.move .look (.p 1), (some 6), none⟩,
    ⟨.px .idxB [.p 5, .p 6], (some 7), none⟩,
    ⟨.assign (.p 7), (some 4), none⟩]
@[simp] def eq220_0 := id q220_0.eq_1
def k220_0 : ACode :=
  .ops q220_0 .ret
@[simp] theorem xk220_0 : GoC fns Q s k220_0 st ↔ GoO fns Q s q220_0 .ret st := goC_ops
def k220_1 : ACode :=
  .ops [⟨.assign (.c (.int .i64 0)), (some 4), none⟩] k220_0
@[simp] theorem xk220_1 : GoC fns Q s k220_1 st ↔ GoO fns Q s [⟨.assign (.c (.int .i64 0)), (some 4), none⟩] k220_0 st := goC_ops
def af220 : AFunc := ⟨8, k220_1, [.tmp 4], fun _ => none⟩

theorem ok220 : ∃ hs, pFunc Tryz.prog sg hs Tryz.f220 = some af220 := ⟨fun i => 0, by kernel_rfl⟩
def q164_0 : List AOper :=
  [⟨.move .take (.p 6), (some 92), none⟩,
    ⟨.move .take (.p 7), (some 93), none⟩,
    ⟨.assign (.p 92), (some 4), none⟩,
    ⟨.assign (.p 93), (some 5), none⟩]
@[simp] def eq164_0 := id q164_0.eq_1
def q164_1 : List AOper :=
  [⟨.move .look (.p 6), (some 90), none⟩,
    ⟨.bin .lss 1 true (.p 90) (.c (.int .i32 0)), (some 91), none⟩]
@[simp] def eq164_1 := id q164_1.eq_1
def q164_2 : List AOper :=
  [⟨.move .look (.t 0), (some 16), none⟩,
    ⟨.call 54 [(.t 16, false)], (some 17), none⟩,
    ⟨.move .look (.t 17), (some 15), none⟩,
    ⟨.extract 15 0, (some 18), none⟩,
    ⟨.extract 15 1, (some 19), none⟩,
    ⟨.extract 15 2, (some 20), none⟩,
    ⟨.assign (.p 18), (some 6), none⟩,
    ⟨.assign (.p 20), (some 7), none⟩]
@[simp] def eq164_2 := id q164_2.eq_1
def q164_3 : List AOper :=
  [⟨.move .look (.p 6), (some 29), none⟩,
    ⟨.bin .add 1 true (.p 29) (.c (.int .i32 5)), (some 30), none⟩,
    ⟨.assign (.p 30), (some 6), none⟩]
@[simp] def eq164_3 := id q164_3.eq_1
def q164_4 : List AOper :=
  [⟨.move .look (.t 0), (some 24), none⟩,
    ⟨.call 54 [(.t 24, false)], (some 25), none⟩,
    ⟨.move .look (.t 25), (some 23), none⟩,
    ⟨.extract 23 0, (some 26), none⟩,
    ⟨.extract 23 1, (some 27), none⟩,
    ⟨.extract 23 2, (some 28), none⟩,
    ⟨.assign (.p 26), (some 6), none⟩,
    ⟨.assign (.p 28), (some 7), none⟩]
@[simp] def eq164_4 := id q164_4.eq_1
def q164_5 : List AOper :=
  [⟨.move .look (.p 6), (some 41), none⟩,
    ⟨.bin .add 1 true (.p 41) (.c (.int .i32 16)), (some 42), none⟩,
    ⟨.assign (.p 42), (some 6), none⟩]
@[simp] def eq164_5 := id q164_5.eq_1
def q164_6 : List AOper :=
  [⟨.move .look (.t 0), (some 36), none⟩,
    ⟨.call 54 [(.t 36, false)], (some 37), none⟩,
    ⟨.move .look (.t 37), (some 35), none⟩,
    ⟨.extract 35 0, (some 38), none⟩,
    ⟨.extract 35 1, (some 39), none⟩,
    ⟨.extract 35 2, (some 40), none⟩,
    ⟨.assign (.p 38), (some 6), none⟩,
    ⟨.assign (.p 40), (some 7), none⟩]
@[simp] def eq164_6 := id q164_6.eq_1
def q164_7 : List AOper :=
  [⟨.move .look (.p 6), (some 62), none⟩,
    ⟨.bin .add 1 true (.p 62) (.c (.int .i32 4)), (some 63), none⟩,
    ⟨.assign (.p 63), (some 6), none⟩]
@[simp] def eq164_7 := id q164_7.eq_1
def q164_8 : List AOper :=
  [⟨.move .look (.t 0), (some 57), none⟩,
    ⟨.call 54 [(.t 57, false)], (some 58), none⟩,
    ⟨.move .look (.t 58), (some 56), none⟩,
    ⟨.extract 56 0, (some 59), none⟩,
    ⟨.extract 56 1, (some 60), none⟩,
    ⟨.extract 56 2, (some 61), none⟩,
    ⟨.assign (.p 59), (some 6), none⟩,
    ⟨.assign (.p 61), (some 7), none⟩]
@[simp] def eq164_8 := id q164_8.eq_1
def q164_9 : List AOper :=
  [⟨.move .look (.p 8), (some 84), none⟩,
    ⟨.bin .add 1 true (.p 84) (.c (.int .i64 1)), (some 85), none⟩,
    ⟨.move .look (.p 9), (some 86), none⟩,
    ⟨.bin .add 1 false (.p 85) (.p 86), (some 87), none⟩,
    ⟨.bin .add 1 true (.p 87) (.c (.int .i64 1)), (some 88), none⟩,
    ⟨.convInt .i32 (.p 88), (some 89), none⟩,
    ⟨.assign (.p 89), (some 6), none⟩]
@[simp] def eq164_9 := id q164_9.eq_1
def q164_10 : List AOper :=
  [⟨.move .look (.p 9), (some 82), none⟩,
    ⟨.bin .lss 1 true (.p 82) (.c (.int .i64 0)), (some 83), none⟩]
@[simp] def eq164_10 := id q164_10.eq_1
def q164_11 : List AOper :=
  [⟨.move .look (.t 0), (some 77), none⟩,
    ⟨.move .look (.p 8), (some 78), none⟩,
    ⟨.bin .add 1 true (.p 78) (.c (.int .i64 1)), (some 79), none⟩,
    ⟨.sliceSl 1 (.t 77) (some (.p 79)) none, (some 80), none⟩,
    ⟨.call 220 [(.t 80, false), (.c (.int .u8 0), false)], (some 81), none⟩,
    ⟨.assign (.p 81), (some 9), none⟩]
@[simp] def eq164_11 := id q164_11.eq_1
def q164_12 : List AOper :=
  [⟨.move .look (.p 8), (some 75), none⟩,
    ⟨.bin .lss 1 true (.p 75) (.c (.int .i64 0)), (some 76), none⟩]
@[simp] def eq164_12 := id q164_12.eq_1
def q164_13 : List AOper :=
  [⟨.move .look (.t 0), (some 73), none⟩,
    ⟨.call 220 [(.t 73, false), (.c (.int .u8 0), false)], (some 74), none⟩,
    ⟨.assign (.p 74), (some 8), none⟩]
@[simp] def eq164_13 := id q164_13.eq_1
def q164_14 : List AOper :=
  [⟨.bin .eql 1 true (.p 10) (.c (.int .u8 11)), (some 72), none⟩,
    ⟨.assign (.p 72), (some 71), none⟩]
@[simp] def eq164_14 := id q164_14.eq_1
def q164_15 : List AOper :=
  [⟨.bin .eql 1 true (.p 10) (.c (.int .u8 7)), (some 70), none⟩,
    ⟨.assign (.p 70), (some 69), none⟩]
@[simp] def eq164_15 := id q164_15.eq_1
def q164_16 : List AOper :=
  [⟨.bin .eql 1 true (.p 10) (.c (.int .u8 6)), (some 68), none⟩,
    ⟨.assign (.p 68), (some 64), none⟩]
@[simp] def eq164_16 := id q164_16.eq_1
def q164_17 : List AOper :=
  [⟨.bin .eql 1 true (.p 10) (.c (.int .u8 10)), (some 67), none⟩,
    ⟨.assign (.p 67), (some 64), none⟩]
@[simp] def eq164_17 := id q164_17.eq_1
def q164_18 : List AOper :=
  [⟨.bin .eql 1 true (.p 10) (.c (.int .u8 255)), (some 66), none⟩,
    ⟨.assign (.p 66), (some 64), none⟩]
@[simp] def eq164_18 := id q164_18.eq_1
def q164_19 : List AOper :=
  [⟨.bin .eql 1 true (.p 10) (.c (.int .u8 127)), (some 65), none⟩,
    ⟨.assign (.p 65), (some 64), none⟩]
@[simp] def eq164_19 := id q164_19.eq_1
def q164_20 : List AOper :=
  [⟨.bin .eql 1 true (.p 10) (.c (.int .u8 14)), (some 55), none⟩,
    ⟨.assign (.p 55), (some 52), none⟩]
@[simp] def eq164_20 := id q164_20.eq_1
def q164_21 : List AOper :=
  [⟨.bin .eql 1 true (.p 10) (.c (.int .u8 2)), (some 54), none⟩,
    ⟨.assign (.p 54), (some 52), none⟩]
@[simp] def eq164_21 := id q164_21.eq_1
def q164_22 : List AOper :=
  [⟨.bin .eql 1 true (.p 10) (.c (.int .u8 13)), (some 53), none⟩,
    ⟨.assign (.p 53), (some 52), none⟩]
@[simp] def eq164_22 := id q164_22.eq_1
def q164_23 : List AOper :=
  [⟨.bin .eql 1 true (.p 10) (.c (.int .u8 16)), (some 51), none⟩,
    ⟨.assign (.p 51), (some 50), none⟩]
@[simp] def eq164_23 := id q164_23.eq_1
def q164_24 : List AOper :=
  [⟨.bin .eql 1 true (.p 10) (.c (.int .u8 19)), (some 49), none⟩,
    ⟨.assign (.p 49), (some 48), none⟩]
@[simp] def eq164_24 := id q164_24.eq_1
def q164_25 : List AOper :=
  [⟨.bin .eql 1 true (.p 10) (.c (.int .u8 17)), (some 47), none⟩,
    ⟨.assign (.p 47), (some 43), none⟩]
@[simp] def eq164_25 := id q164_25.eq_1
def q164_26 : List AOper :=
  [⟨.bin .eql 1 true (.p 10) (.c (.int .u8 18)), (some 46), none⟩,
    ⟨.assign (.p 46), (some 43), none⟩]
@[simp] def eq164_26 := id q164_26.eq_1
def q164_27 : List AOper :=
  [⟨.bin .eql 1 true (.p 10) (.c (.int .u8 1)), (some 45), none⟩,
    ⟨.assign (.p 45), (some 43), none⟩]
@[simp] def eq164_27 := id q164_27.eq_1
def q164_28 : List AOper :=
  [⟨.bin .eql 1 true (.p 10) (.c (.int .u8 9)), (some 44), none⟩,
    ⟨.assign (.p 44), (some 43), none⟩]
@[simp] def eq164_28 := id q164_28.eq_1
def q164_29 : List AOper :=
  [⟨.bin .eql 1 true (.p 10) (.c (.int .u8 12)), (some 34), none⟩,
    ⟨.assign (.p 34), (some 33), none⟩]
@[simp] def eq164_29 := id q164_29.eq_1
def q164_30 : List AOper :=
  [⟨.bin .eql 1 true (.p 10) (.c (.int .u8 8)), (some 32), none⟩,
    ⟨.assign (.p 32), (some 31), none⟩]
@[simp] def eq164_30 := id q164_30.eq_1
def q164_31 : List AOper :=
  [⟨.bin .eql 1 true (.p 10) (.c (.int .u8 5)), (some 22), none⟩,
    ⟨.assign (.p 22), (some 21), none⟩]
@[simp] def eq164_31 := id q164_31.eq_1
def q164_32 : List AOper :=
  [⟨.bin .eql 1 true (.p 10) (.c (.int .u8 15)), (some 14), none⟩,
    ⟨.assign (.p 14), (some 11), none⟩]
@[simp] def eq164_32 := id q164_32.eq_1
def q164_33 : List AOper :=
  [⟨.bin .eql 1 true (.p 10) (.c (.int .u8 3)), (some 13), none⟩,
    ⟨.assign (.p 13), (some 11), none⟩]
@[simp] def eq164_33 := id q164_33.eq_1
def q164_34 : List AOper :=
  [⟨.bin .eql 1 true (.p 10) (.c (.int .u8 4)), (some 12), none⟩,
    ⟨.assign (.p 12), (some 11), none⟩]
@[simp] def eq164_34 := id q164_34.eq_1
def q164_35 : List AOper :=
  [⟨.assign (.c (.int .i32 0)), (some 4), none⟩,
    ⟨.assign (.c (.bool false)), (some 5), none⟩]
@[simp] def eq164_35 := id q164_35.eq_1
def k164_0 : ACode :=
  .ops q164_0 .ret
@[simp] theorem xk164_0 : GoC fns Q s k164_0 st ↔ GoO fns Q s q164_0 .ret st := goC_ops
def k164_1 : ACode :=
  .ops [⟨.assign (.c (.bool false)), (some 7), none⟩] .skip
@[simp] theorem xk164_1 : GoC fns Q s k164_1 st ↔ GoO fns Q s [⟨.assign (.c (.bool false)), (some 7), none⟩] .skip st := goC_ops
def k164_2 : ACode :=
  .cond (.p 91) k164_1 .skip
@[simp] theorem xk164_2 : GoC fns Q s k164_2 st ↔ GB fns Q s (peek st (.p 91)) k164_1 .skip st := goC_cond
def k164_3 : ACode :=
  .seq k164_2 k164_0
@[simp] theorem xk164_3 : GoC fns Q s k164_3 st ↔ GoC fns Q (.sq k164_0 :: s) k164_2 st := goC_seq
def k164_4 : ACode :=
  .ops q164_1 k164_3
@[simp] theorem xk164_4 : GoC fns Q s k164_4 st ↔ GoO fns Q s q164_1 k164_3 st := goC_ops
def k164_5 : ACode :=
  .ops q164_2 .skip
@[simp] theorem xk164_5 : GoC fns Q s k164_5 st ↔ GoO fns Q s q164_2 .skip st := goC_ops
def k164_6 : ACode :=
  .ops q164_3 .skip
@[simp] theorem xk164_6 : GoC fns Q s k164_6 st ↔ GoO fns Q s q164_3 .skip st := goC_ops
def k164_7 : ACode :=
  .ops q164_4 k164_6
@[simp] theorem xk164_7 : GoC fns Q s k164_7 st ↔ GoO fns Q s q164_4 k164_6 st := goC_ops
def k164_8 : ACode :=
  .ops [⟨.assign (.c (.int .i32 1)), (some 6), none⟩] .skip
@[simp] theorem xk164_8 : GoC fns Q s k164_8 st ↔ GoO fns Q s [⟨.assign (.c (.int .i32 1)), (some 6), none⟩] .skip st := goC_ops
def k164_9 : ACode :=
  .ops q164_5 .skip
@[simp] theorem xk164_9 : GoC fns Q s k164_9 st ↔ GoO fns Q s q164_5 .skip st := goC_ops
def k164_10 : ACode :=
  .ops q164_6 k164_9
@[simp] theorem xk164_10 : GoC fns Q s k164_10 st ↔ GoO fns Q s q164_6 k164_9 st := goC_ops
def k164_11 : ACode :=
  .ops [⟨.assign (.c (.int .i32 8)), (some 6), none⟩] .skip
@[simp] theorem xk164_11 : GoC fns Q s k164_11 st ↔ GoO fns Q s [⟨.assign (.c (.int .i32 8)), (some 6), none⟩] .skip st := goC_ops
def k164_12 : ACode :=
  .ops [⟨.assign (.c (.int .i32 16)), (some 6), none⟩] .skip
@[simp] theorem xk164_12 : GoC fns Q s k164_12 st ↔ GoO fns Q s [⟨.assign (.c (.int .i32 16)), (some 6), none⟩] .skip st := goC_ops
def k164_13 : ACode :=
  .ops [⟨.assign (.c (.int .i32 4)), (some 6), none⟩] .skip
@[simp] theorem xk164_13 : GoC fns Q s k164_13 st ↔ GoO fns Q s [⟨.assign (.c (.int .i32 4)), (some 6), none⟩] .skip st := goC_ops
def k164_14 : ACode :=
  .ops q164_7 .skip
@[simp] theorem xk164_14 : GoC fns Q s k164_14 st ↔ GoO fns Q s q164_7 .skip st := goC_ops
def k164_15 : ACode :=
  .ops q164_8 k164_14
@[simp] theorem xk164_15 : GoC fns Q s k164_15 st ↔ GoO fns Q s q164_8 k164_14 st := goC_ops
def k164_16 : ACode :=
  .ops [⟨.assign (.c (.int .i32 0)), (some 6), none⟩] .skip
@[simp] theorem xk164_16 : GoC fns Q s k164_16 st ↔ GoO fns Q s [⟨.assign (.c (.int .i32 0)), (some 6), none⟩] .skip st := goC_ops
def k164_17 : ACode :=
  .ops [⟨.assign (.c (.int .i32 12)), (some 6), none⟩] .skip
@[simp] theorem xk164_17 : GoC fns Q s k164_17 st ↔ GoO fns Q s [⟨.assign (.c (.int .i32 12)), (some 6), none⟩] .skip st := goC_ops
def k164_18 : ACode :=
  .ops q164_9 .skip
@[simp] theorem xk164_18 : GoC fns Q s k164_18 st ↔ GoO fns Q s q164_9 .skip st := goC_ops
def k164_19 : ACode :=
  .ops [⟨.assign (.c (.bool false)), (some 7), none⟩] (.exit 0)
@[simp] theorem xk164_19 : GoC fns Q s k164_19 st ↔ GoO fns Q s [⟨.assign (.c (.bool false)), (some 7), none⟩] (.exit 0) st := goC_ops
def k164_20 : ACode :=
  .cond (.p 83) k164_19 .skip
@[simp] theorem xk164_20 : GoC fns Q s k164_20 st ↔ GB fns Q s (peek st (.p 83)) k164_19 .skip st := goC_cond
def k164_21 : ACode :=
  .seq k164_20 k164_18
@[simp] theorem xk164_21 : GoC fns Q s k164_21 st ↔ GoC fns Q (.sq k164_18 :: s) k164_20 st := goC_seq
def k164_22 : ACode :=
  .ops q164_10 k164_21
@[simp] theorem xk164_22 : GoC fns Q s k164_22 st ↔ GoO fns Q s q164_10 k164_21 st := goC_ops
def k164_23 : ACode :=
  .ops q164_11 k164_22
@[simp] theorem xk164_23 : GoC fns Q s k164_23 st ↔ GoO fns Q s q164_11 k164_22 st := goC_ops
def k164_24 : ACode :=
  .ops [⟨.assign (.c (.bool false)), (some 7), none⟩] (.exit 0)
@[simp] theorem xk164_24 : GoC fns Q s k164_24 st ↔ GoO fns Q s [⟨.assign (.c (.bool false)), (some 7), none⟩] (.exit 0) st := goC_ops
def k164_25 : ACode :=
  .cond (.p 76) k164_24 .skip
@[simp] theorem xk164_25 : GoC fns Q s k164_25 st ↔ GB fns Q s (peek st (.p 76)) k164_24 .skip st := goC_cond
def k164_26 : ACode :=
  .seq k164_25 k164_23
@[simp] theorem xk164_26 : GoC fns Q s k164_26 st ↔ GoC fns Q (.sq k164_23 :: s) k164_25 st := goC_seq
def k164_27 : ACode :=
  .ops q164_12 k164_26
@[simp] theorem xk164_27 : GoC fns Q s k164_27 st ↔ GoO fns Q s q164_12 k164_26 st := goC_ops
def k164_28 : ACode :=
  .ops q164_13 k164_27
@[simp] theorem xk164_28 : GoC fns Q s k164_28 st ↔ GoO fns Q s q164_13 k164_27 st := goC_ops
def k164_29 : ACode :=
  .ops [⟨.assign (.c (.bool false)), (some 7), none⟩] .skip
@[simp] theorem xk164_29 : GoC fns Q s k164_29 st ↔ GoO fns Q s [⟨.assign (.c (.bool false)), (some 7), none⟩] .skip st := goC_ops
def k164_30 : ACode :=
  .cond (.p 71) k164_28 k164_29
@[simp] theorem xk164_30 : GoC fns Q s k164_30 st ↔ GB fns Q s (peek st (.p 71)) k164_28 k164_29 st := goC_cond
def k164_31 : ACode :=
  .ops q164_14 k164_30
@[simp] theorem xk164_31 : GoC fns Q s k164_31 st ↔ GoO fns Q s q164_14 k164_30 st := goC_ops
def k164_32 : ACode :=
  .cond (.p 69) k164_17 k164_31
@[simp] theorem xk164_32 : GoC fns Q s k164_32 st ↔ GB fns Q s (peek st (.p 69)) k164_17 k164_31 st := goC_cond
def k164_33 : ACode :=
  .ops q164_15 k164_32
@[simp] theorem xk164_33 : GoC fns Q s k164_33 st ↔ GoO fns Q s q164_15 k164_32 st := goC_ops
def k164_34 : ACode :=
  .cond (.p 64) k164_16 k164_33
@[simp] theorem xk164_34 : GoC fns Q s k164_34 st ↔ GB fns Q s (peek st (.p 64)) k164_16 k164_33 st := goC_cond
def k164_35 : ACode :=
  .ops q164_16 .skip
@[simp] theorem xk164_35 : GoC fns Q s k164_35 st ↔ GoO fns Q s q164_16 .skip st := goC_ops
def k164_36 : ACode :=
  .cond (.p 64) .skip k164_35
@[simp] theorem xk164_36 : GoC fns Q s k164_36 st ↔ GB fns Q s (peek st (.p 64)) .skip k164_35 st := goC_cond
def k164_37 : ACode :=
  .ops q164_17 k164_36
@[simp] theorem xk164_37 : GoC fns Q s k164_37 st ↔ GoO fns Q s q164_17 k164_36 st := goC_ops
def k164_38 : ACode :=
  .cond (.p 64) .skip k164_37
@[simp] theorem xk164_38 : GoC fns Q s k164_38 st ↔ GB fns Q s (peek st (.p 64)) .skip k164_37 st := goC_cond
def k164_39 : ACode :=
  .ops q164_18 k164_38
@[simp] theorem xk164_39 : GoC fns Q s k164_39 st ↔ GoO fns Q s q164_18 k164_38 st := goC_ops
def k164_40 : ACode :=
  .cond (.p 64) .skip k164_39
@[simp] theorem xk164_40 : GoC fns Q s k164_40 st ↔ GB fns Q s (peek st (.p 64)) .skip k164_39 st := goC_cond
def k164_41 : ACode :=
  .seq k164_40 k164_34
@[simp] theorem xk164_41 : GoC fns Q s k164_41 st ↔ GoC fns Q (.sq k164_34 :: s) k164_40 st := goC_seq
def k164_42 : ACode :=
  .ops q164_19 k164_41
@[simp] theorem xk164_42 : GoC fns Q s k164_42 st ↔ GoO fns Q s q164_19 k164_41 st := goC_ops
def k164_43 : ACode :=
  .cond (.p 52) k164_15 k164_42
@[simp] theorem xk164_43 : GoC fns Q s k164_43 st ↔ GB fns Q s (peek st (.p 52)) k164_15 k164_42 st := goC_cond
def k164_44 : ACode :=
  .ops q164_20 .skip
@[simp] theorem xk164_44 : GoC fns Q s k164_44 st ↔ GoO fns Q s q164_20 .skip st := goC_ops
def k164_45 : ACode :=
  .cond (.p 52) .skip k164_44
@[simp] theorem xk164_45 : GoC fns Q s k164_45 st ↔ GB fns Q s (peek st (.p 52)) .skip k164_44 st := goC_cond
def k164_46 : ACode :=
  .ops q164_21 k164_45
@[simp] theorem xk164_46 : GoC fns Q s k164_46 st ↔ GoO fns Q s q164_21 k164_45 st := goC_ops
def k164_47 : ACode :=
  .cond (.p 52) .skip k164_46
@[simp] theorem xk164_47 : GoC fns Q s k164_47 st ↔ GB fns Q s (peek st (.p 52)) .skip k164_46 st := goC_cond
def k164_48 : ACode :=
  .seq k164_47 k164_43
@[simp] theorem xk164_48 : GoC fns Q s k164_48 st ↔ GoC fns Q (.sq k164_43 :: s) k164_47 st := goC_seq
def k164_49 : ACode :=
  .ops q164_22 k164_48
@[simp] theorem xk164_49 : GoC fns Q s k164_49 st ↔ GoO fns Q s q164_22 k164_48 st := goC_ops
def k164_50 : ACode :=
  .cond (.p 50) k164_13 k164_49
@[simp] theorem xk164_50 : GoC fns Q s k164_50 st ↔ GB fns Q s (peek st (.p 50)) k164_13 k164_49 st := goC_cond
def k164_51 : ACode :=
  .ops q164_23 k164_50
@[simp] theorem xk164_51 : GoC fns Q s k164_51 st ↔ GoO fns Q s q164_23 k164_50 st := goC_ops
def k164_52 : ACode :=
  .cond (.p 48) k164_12 k164_51
@[simp] theorem xk164_52 : GoC fns Q s k164_52 st ↔ GB fns Q s (peek st (.p 48)) k164_12 k164_51 st := goC_cond
def k164_53 : ACode :=
  .ops q164_24 k164_52
@[simp] theorem xk164_53 : GoC fns Q s k164_53 st ↔ GoO fns Q s q164_24 k164_52 st := goC_ops
def k164_54 : ACode :=
  .cond (.p 43) k164_11 k164_53
@[simp] theorem xk164_54 : GoC fns Q s k164_54 st ↔ GB fns Q s (peek st (.p 43)) k164_11 k164_53 st := goC_cond
def k164_55 : ACode :=
  .ops q164_25 .skip
@[simp] theorem xk164_55 : GoC fns Q s k164_55 st ↔ GoO fns Q s q164_25 .skip st := goC_ops
def k164_56 : ACode :=
  .cond (.p 43) .skip k164_55
@[simp] theorem xk164_56 : GoC fns Q s k164_56 st ↔ GB fns Q s (peek st (.p 43)) .skip k164_55 st := goC_cond
def k164_57 : ACode :=
  .ops q164_26 k164_56
@[simp] theorem xk164_57 : GoC fns Q s k164_57 st ↔ GoO fns Q s q164_26 k164_56 st := goC_ops
def k164_58 : ACode :=
  .cond (.p 43) .skip k164_57
@[simp] theorem xk164_58 : GoC fns Q s k164_58 st ↔ GB fns Q s (peek st (.p 43)) .skip k164_57 st := goC_cond
def k164_59 : ACode :=
  .ops q164_27 k164_58
@[simp] theorem xk164_59 : GoC fns Q s k164_59 st ↔ GoO fns Q s q164_27 k164_58 st := goC_ops
def k164_60 : ACode :=
  .cond (.p 43) .skip k164_59
@[simp] theorem xk164_60 : GoC fns Q s k164_60 st ↔ GB fns Q s (peek st (.p 43)) .skip k164_59 st := goC_cond
def k164_61 : ACode :=
  .seq k164_60 k164_54
@[simp] theorem xk164_61 : GoC fns Q s k164_61 st ↔ GoC fns Q (.sq k164_54 :: s) k164_60 st := goC_seq
def k164_62 : ACode :=
  .ops q164_28 k164_61
@[simp] theorem xk164_62 : GoC fns Q s k164_62 st ↔ GoO fns Q s q164_28 k164_61 st := goC_ops
def k164_63 : ACode :=
  .cond (.p 33) k164_10 k164_62
@[simp] theorem xk164_63 : GoC fns Q s k164_63 st ↔ GB fns Q s (peek st (.p 33)) k164_10 k164_62 st := goC_cond
def k164_64 : ACode :=
  .ops q164_29 k164_63
@[simp] theorem xk164_64 : GoC fns Q s k164_64 st ↔ GoO fns Q s q164_29 k164_63 st := goC_ops
def k164_65 : ACode :=
  .cond (.p 31) k164_8 k164_64
@[simp] theorem xk164_65 : GoC fns Q s k164_65 st ↔ GB fns Q s (peek st (.p 31)) k164_8 k164_64 st := goC_cond
def k164_66 : ACode :=
  .ops q164_30 k164_65
@[simp] theorem xk164_66 : GoC fns Q s k164_66 st ↔ GoO fns Q s q164_30 k164_65 st := goC_ops
def k164_67 : ACode :=
  .cond (.p 21) k164_7 k164_66
@[simp] theorem xk164_67 : GoC fns Q s k164_67 st ↔ GB fns Q s (peek st (.p 21)) k164_7 k164_66 st := goC_cond
def k164_68 : ACode :=
  .ops q164_31 k164_67
@[simp] theorem xk164_68 : GoC fns Q s k164_68 st ↔ GoO fns Q s q164_31 k164_67 st := goC_ops
def k164_69 : ACode :=
  .cond (.p 11) k164_5 k164_68
@[simp] theorem xk164_69 : GoC fns Q s k164_69 st ↔ GB fns Q s (peek st (.p 11)) k164_5 k164_68 st := goC_cond
def k164_70 : ACode :=
  .ops q164_32 .skip
@[simp] theorem xk164_70 : GoC fns Q s k164_70 st ↔ GoO fns Q s q164_32 .skip st := goC_ops
def k164_71 : ACode :=
  .cond (.p 11) .skip k164_70
@[simp] theorem xk164_71 : GoC fns Q s k164_71 st ↔ GB fns Q s (peek st (.p 11)) .skip k164_70 st := goC_cond
def k164_72 : ACode :=
  .ops q164_33 k164_71
@[simp] theorem xk164_72 : GoC fns Q s k164_72 st ↔ GoO fns Q s q164_33 k164_71 st := goC_ops
def k164_73 : ACode :=
  .cond (.p 11) .skip k164_72
@[simp] theorem xk164_73 : GoC fns Q s k164_73 st ↔ GB fns Q s (peek st (.p 11)) .skip k164_72 st := goC_cond
def k164_74 : ACode :=
  .seq k164_73 k164_69
@[simp] theorem xk164_74 : GoC fns Q s k164_74 st ↔ GoC fns Q (.sq k164_69 :: s) k164_73 st := goC_seq
def k164_75 : ACode :=
  .ops q164_34 k164_74
@[simp] theorem xk164_75 : GoC fns Q s k164_75 st ↔ GoO fns Q s q164_34 k164_74 st := goC_ops
def k164_76 : ACode :=
  .block 0 k164_75
@[simp] theorem xk164_76 : GoC fns Q s k164_76 st ↔ GoC fns Q (.bl 0 :: s) k164_75 st := goC_block
def k164_77 : ACode :=
  .seq k164_76 k164_4
@[simp] theorem xk164_77 : GoC fns Q s k164_77 st ↔ GoC fns Q (.sq k164_4 :: s) k164_76 st := goC_seq
def k164_78 : ACode :=
  .ops [⟨.move .head (.p 1), (some 10), none⟩] k164_77
@[simp] theorem xk164_78 : GoC fns Q s k164_78 st ↔ GoO fns Q s [⟨.move .head (.p 1), (some 10), none⟩] k164_77 st := goC_ops
def k164_79 : ACode :=
  .ops [⟨.assign (.c (.bool true)), (some 7), none⟩] k164_78
@[simp] theorem xk164_79 : GoC fns Q s k164_79 st ↔ GoO fns Q s [⟨.assign (.c (.bool true)), (some 7), none⟩] k164_78 st := goC_ops
def k164_80 : ACode :=
  .ops [⟨.assign (.c (.int .i32 0)), (some 6), none⟩] k164_79
@[simp] theorem xk164_80 : GoC fns Q s k164_80 st ↔ GoO fns Q s [⟨.assign (.c (.int .i32 0)), (some 6), none⟩] k164_79 st := goC_ops
def k164_81 : ACode :=
  .ops q164_35 k164_80
@[simp] theorem xk164_81 : GoC fns Q s k164_81 st ↔ GoO fns Q s q164_35 k164_80 st := goC_ops
def af164 : AFunc := ⟨94, k164_81, [.tmp 4, .tmp 5], fun _ => none⟩

theorem ok164 : ∃ hs, pFunc Tryz.prog sg hs Tryz.f164 = some af164 := ⟨fun i => 0, by kernel_rfl⟩
def q163_0 : List AOper :=
  [⟨.move .look (.t 0), (some 25), none⟩,
    ⟨.move .head (.p 7), (some 26), none⟩,
    ⟨.sliceSl 1 (.t 25) none (some (.p 26)), (some 27), none⟩,
    ⟨.move .look (.t 0), (some 28), none⟩,
    ⟨.move .head (.p 7), (some 29), none⟩,
    ⟨.sliceSl 1 (.t 28) (some (.p 29)) none, (some 30), none⟩,
    ⟨.assign (.t 27), (some 4), none⟩,
    ⟨.assign (.t 30), (some 5), none⟩,
    ⟨.assign (.c (.bool true)), (some 6), none⟩]
@[simp] def eq163_0 := id q163_0.eq_1
def q163_1 : List AOper :=
  [⟨.move .take (.t 0), (some 24), none⟩,
    ⟨.assign (.c (.slice .nil 0 1 [])), (some 4), none⟩,
    ⟨.assign (.t 24), (some 5), none⟩,
    ⟨.assign (.c (.bool false)), (some 6), none⟩]
@[simp] def eq163_1 := id q163_1.eq_1
def q163_2 : List AOper :=
  [⟨.move .look (.p 8), (some 15), none⟩,
    ⟨.un .not (.p 15), (some 16), none⟩,
    ⟨.move .look (.p 16), (some 17), none⟩,
    ⟨.move .look (.p 7), (some 18), (some (17, false))⟩,
    ⟨.convInt .i64 (.p 18), (some 19), (some (17, false))⟩,
    ⟨.move .head (.t 0), (some 20), (some (17, false))⟩,
    ⟨.len false (.p 20), (some 21), (some (17, false))⟩,
    ⟨.bin .gtr 1 false (.p 19) (.p 21), (some 22), (some (17, false))⟩,
    ⟨.pick (.p 17) (.c (.bool true)) (.p 22), (some 23), none⟩]
@[simp] def eq163_2 := id q163_2.eq_1
def q163_3 : List AOper :=
  [⟨.move .look (.t 0), (some 10), none⟩,
    ⟨.move .look (.p 1), (some 11), none⟩,
    ⟨.call 164 [(.t 10, false), (.p 11, false)], (some 12), none⟩,
    ⟨.move .look (.t 12), (some 9), none⟩,
    ⟨.extract 9 0, (some 13), none⟩,
    ⟨.extract 9 1, (some 14), none⟩,
    ⟨.assign (.p 13), (some 7), none⟩,
    ⟨.assign (.p 14), (some 8), none⟩]
@[simp] def eq163_3 := id q163_3.eq_1
def q163_4 : List AOper :=
  [⟨.assign (.c (.slice .nil 0 1 [])), (some 4), none⟩,
    ⟨.assign (.c (.slice .nil 0 1 [])), (some 5), none⟩,
    ⟨.assign (.c (.bool false)), (some 6), none⟩]
@[simp] def eq163_4 := id q163_4.eq_1
def k163_0 : ACode :=
  .ops q163_0 .ret
@[simp] theorem xk163_0 : GoC fns Q s k163_0 st ↔ GoO fns Q s q163_0 .ret st := goC_ops
def k163_1 : ACode :=
  .ops q163_1 .ret
@[simp] theorem xk163_1 : GoC fns Q s k163_1 st ↔ GoO fns Q s q163_1 .ret st := goC_ops
def k163_2 : ACode :=
  .cond (.p 23) k163_1 .skip
@[simp] theorem xk163_2 : GoC fns Q s k163_2 st ↔ GB fns Q s (peek st (.p 23)) k163_1 .skip st := goC_cond
def k163_3 : ACode :=
  .seq k163_2 k163_0
@[simp] theorem xk163_3 : GoC fns Q s k163_3 st ↔ GoC fns Q (.sq k163_0 :: s) k163_2 st := goC_seq
def k163_4 : ACode :=
  .ops q163_2 k163_3
@[simp] theorem xk163_4 : GoC fns Q s k163_4 st ↔ GoO fns Q s q163_2 k163_3 st := goC_ops
def k163_5 : ACode :=
  .ops q163_3 k163_4
@[simp] theorem xk163_5 : GoC fns Q s k163_5 st ↔ GoO fns Q s q163_3 k163_4 st := goC_ops
def k163_6 : ACode :=
  .ops q163_4 k163_5
@[simp] theorem xk163_6 : GoC fns Q s k163_6 st ↔ GoO fns Q s q163_4 k163_5 st := goC_ops
def af163 : AFunc := ⟨31, k163_6, [.tmp 4, .tmp 5, .tmp 6], fun _ => none⟩

theorem ok163 : ∃ hs, pFunc Tryz.prog sg hs Tryz.f163 = some af163 := ⟨fun i => 0, by kernel_rfl⟩
def q61_0 : List AOper :=
  [⟨.move .look (.p 1), (some 21), none⟩,
    ⟨.move .look (.t 7), (some 22), none⟩,
    ⟨.build [.int .u8 0, .slice .nil 0 1 []] [(0, 1, .p 21), (1, 1, .t 22)], (some 23), none⟩,
    ⟨.move .take (.t 8), (some 24), none⟩,
    ⟨.store 2 (.p 4) (.p 23), none, none⟩,
    ⟨.assign (.t 24), (some 5), none⟩,
    ⟨.assign (.c (.bool true)), (some 6), none⟩]
@[simp] def eq61_0 := id q61_0.eq_1
def q61_1 : List AOper :=
  [⟨.build [.int .u8 0, .slice .nil 0 1 []] [], (some 19), none⟩,
    ⟨.move .take (.t 0), (some 20), none⟩,
    ⟨.store 2 (.p 4) (.p 19), none, none⟩,
    ⟨.assign (.t 20), (some 5), none⟩,
    ⟨.assign (.c (.bool false)), (some 6), none⟩]
@[simp] def eq61_1 := id q61_1.eq_1
def q61_2 : List AOper :=
  [⟨.move .look (.p 9), (some 17), none⟩,
    ⟨.un .not (.p 17), (some 18), none⟩]
@[simp] def eq61_2 := id q61_2.eq_1
def q61_3 : List AOper :=
  [⟨.move .look (.t 0), (some 11), none⟩,
    ⟨.move .look (.p 1), (some 12), none⟩,
    ⟨.call 163 [(.t 11, false), (.p 12, false)], (some 13), none⟩,
    ⟨.move .look (.t 13), (some 10), none⟩,
    ⟨.extract 10 0, (some 14), none⟩,
    ⟨.extract 10 1, (some 15), none⟩,
    ⟨.extract 10 2, (some 16), none⟩,
    ⟨.assign (.t 14), (some 7), none⟩,
    ⟨.assign (.t 15), (some 8), none⟩,
    ⟨.assign (.p 16), (some 9), none⟩]
@[simp] def eq61_3 := id q61_3.eq_1
def q61_4 : List AOper :=
  [⟨.newbox 4 [.int .u8 0, .slice .nil 0 1 []], (some 4), none⟩,
    ⟨.assign (.c (.slice .nil 0 1 [])), (some 5), none⟩,
    ⟨.assign (.c (.bool false)), (some 6), none⟩]
@[simp] def eq61_4 := id q61_4.eq_1
def k61_0 : ACode :=
  .ops q61_0 .ret
@[simp] theorem xk61_0 : GoC fns Q s k61_0 st ↔ GoO fns Q s q61_0 .ret st := goC_ops
def k61_1 : ACode :=
  .ops q61_1 .ret
@[simp] theorem xk61_1 : GoC fns Q s k61_1 st ↔ GoO fns Q s q61_1 .ret st := goC_ops
def k61_2 : ACode :=
  .cond (.p 18) k61_1 .skip
@[simp] theorem xk61_2 : GoC fns Q s k61_2 st ↔ GB fns Q s (peek st (.p 18)) k61_1 .skip st := goC_cond
def k61_3 : ACode :=
  .seq k61_2 k61_0
@[simp] theorem xk61_3 : GoC fns Q s k61_3 st ↔ GoC fns Q (.sq k61_0 :: s) k61_2 st := goC_seq
def k61_4 : ACode :=
  .ops q61_2 k61_3
@[simp] theorem xk61_4 : GoC fns Q s k61_4 st ↔ GoO fns Q s q61_2 k61_3 st := goC_ops
def k61_5 : ACode :=
  .ops q61_3 k61_4
@[simp] theorem xk61_5 : GoC fns Q s k61_5 st ↔ GoO fns Q s q61_3 k61_4 st := goC_ops
def k61_6 : ACode :=
  .ops q61_4 k61_5
@[simp] theorem xk61_6 : GoC fns Q s k61_6 st ↔ GoO fns Q s q61_4 k61_5 st := goC_ops
def af61 : AFunc := ⟨25, k61_6, [.cell 4 true 2, .tmp 5, .tmp 6], fun _ => none⟩

theorem ok61 : ∃ hs, pFunc Tryz.prog sg hs Tryz.f61 = some af61 := ⟨fun i => 0, by kernel_rfl⟩
def q55_0 : List AOper :=
  [⟨.move .look (.t 0), (some 3), none⟩,
    ⟨.append 5 1 1 false (.c (.slice .nil 0 1 [])) (.p 3), (some 4), none⟩,
    ⟨.assign (.t 4), (some 2), none⟩]
@[simp] def eq55_0 := id q55_0.eq_1
def k55_0 : ACode :=
  .ops q55_0 .ret
@[simp] theorem xk55_0 : GoC fns Q s k55_0 st ↔ GoO fns Q s q55_0 .ret st := goC_ops
def k55_1 : ACode :=
  .ops [⟨.assign (.c (.slice .nil 0 1 [])), (some 2), none⟩] k55_0
@[simp] theorem xk55_1 : GoC fns Q s k55_1 st ↔ GoO fns Q s [⟨.assign (.c (.slice .nil 0 1 [])), (some 2), none⟩] k55_0 st := goC_ops
def af55 : AFunc := ⟨5, k55_1, [.tmp 2], fun _ => none⟩

theorem ok55 : ∃ hs, pFunc Tryz.prog sg hs Tryz.f55 = some af55 := ⟨fun i => 0, by kernel_rfl⟩
def q62_0 : List AOper :=
  [⟨.fieldAddr 0 (.p 1), (some 3), none⟩,
    ⟨.load .look false 1 (.p 3), (some 4), none⟩,
    ⟨.convInt .i64 (.p 4), (some 5), none⟩,
    ⟨.fieldAddr 1 (.p 1), (some 6), none⟩,
    ⟨.load .look false 1 (.p 6), (some 7), none⟩,
    ⟨.call 55 [(.t 7, false)], (some 8), none⟩,
    ⟨.build [.int .i64 0, .slice .nil 0 1 []] [(0, 1, .p 5), (1, 1, .t 8)], (some 9), none⟩,
    ⟨.store 2 (.p 2) (.p 9), none, none⟩]
@[simp] def eq62_0 := id q62_0.eq_1
def q62_1 : List AOper :=
  [⟨.box 1 (.p 0), (some 1), none⟩,
    ⟨.newbox 2 [.int .i64 0, .slice .nil 0 1 []], (some 2), none⟩]
@[simp] def eq62_1 := id q62_1.eq_1
def k62_0 : ACode :=
  .ops q62_0 .ret
@[simp] theorem xk62_0 : GoC fns Q s k62_0 st ↔ GoO fns Q s q62_0 .ret st := goC_ops
def k62_1 : ACode :=
  .ops q62_1 k62_0
@[simp] theorem xk62_1 : GoC fns Q s k62_1 st ↔ GoO fns Q s q62_1 k62_0 st := goC_ops
def af62 : AFunc := ⟨10, k62_1, [.cell 2 true 2], fun _ => none⟩

theorem ok62 : ∃ hs, pFunc Tryz.prog sg hs Tryz.f62 = some af62 := ⟨fun i => 0, by kernel_rfl⟩
def q17_0 : List AOper :=
  [⟨.load .look true 2 (.p 7), (some 16), none⟩,
    ⟨.call 62 [(.p 16, false)], (some 17), none⟩,
    ⟨.move .look (.t 5), (some 18), none⟩,
    ⟨.call 55 [(.t 18, false)], (some 19), none⟩,
    ⟨.move .take (.p 6), (some 20), none⟩,
    ⟨.store 2 (.p 4) (.p 17), none, none⟩,
    ⟨.assign (.t 19), (some 5), none⟩,
    ⟨.assign (.p 20), (some 6), none⟩]
@[simp] def eq17_0 := id q17_0.eq_1
def q17_1 : List AOper :=
  [⟨.move .look (.t 1), (some 9), none⟩,
    ⟨.move .look (.p 0), (some 10), none⟩,
    ⟨.convInt .u8 (.p 10), (some 11), none⟩,
    ⟨.call 61 [(.t 9, false), (.p 11, false)], (some 12), none⟩,
    ⟨.move .look (.t 12), (some 8), none⟩,
    ⟨.extract 8 0, (some 13), none⟩,
    ⟨.extract 8 1, (some 14), none⟩,
    ⟨.extract 8 2, (some 15), none⟩,
    ⟨.newbox 7 [.int .u8 0, .slice .nil 0 1 []], (some 7), none⟩,
    ⟨.store 2 (.p 7) (.p 13), none, none⟩,
    ⟨.assign (.t 14), (some 5), none⟩,
    ⟨.assign (.p 15), (some 6), none⟩]
@[simp] def eq17_1 := id q17_1.eq_1
def q17_2 : List AOper :=
  [⟨.newbox 4 [.int .i64 0, .slice .nil 0 1 []], (some 4), none⟩,
    ⟨.assign (.c (.slice .nil 0 1 [])), (some 5), none⟩,
    ⟨.assign (.c (.bool false)), (some 6), none⟩]
@[simp] def eq17_2 := id q17_2.eq_1
def k17_0 : ACode :=
  .ops q17_0 .ret
@[simp] theorem xk17_0 : GoC fns Q s k17_0 st ↔ GoO fns Q s q17_0 .ret st := goC_ops
def k17_1 : ACode :=
  .ops q17_1 k17_0
@[simp] theorem xk17_1 : GoC fns Q s k17_1 st ↔ GoO fns Q s q17_1 k17_0 st := goC_ops
def k17_2 : ACode :=
  .ops q17_2 k17_1
@[simp] theorem xk17_2 : GoC fns Q s k17_2 st ↔ GoO fns Q s q17_2 k17_1 st := goC_ops
def af17 : AFunc := ⟨21, k17_2, [.cell 4 true 2, .tmp 5, .tmp 6], fun _ => none⟩

theorem ok17 : ∃ hs, pFunc Tryz.prog sg hs Tryz.f17 = some af17 := ⟨fun i => 0, by kernel_rfl⟩
def q18_0 : List AOper :=
  [⟨.move .look (.p 5), (some 33), none⟩,
    ⟨.bin .add 1 true (.c (.int .i64 1)) (.p 33), (some 34), none⟩,
    ⟨.move .look (.p 7), (some 35), none⟩,
    ⟨.bin .add 1 false (.p 34) (.p 35), (some 36), none⟩,
    ⟨.move .take (.p 8), (some 37), none⟩,
    ⟨.assign (.p 36), (some 2), none⟩,
    ⟨.assign (.p 37), (some 3), none⟩]
@[simp] def eq18_0 := id q18_0.eq_1
def q18_1 : List AOper :=
  [⟨.move .look (.t 0), (some 22), none⟩,
    ⟨.indexAddr 1 (.t 22) (.c (.int .i64 0)), (some 23), none⟩,
    ⟨.load .look false 1 (.p 23), (some 24), none⟩,
    ⟨.convInt .i64 (.p 24), (some 25), none⟩,
    ⟨.move .look (.t 0), (some 26), none⟩,
    ⟨.move .look (.p 5), (some 27), none⟩,
    ⟨.bin .add 1 true (.c (.int .i64 1)) (.p 27), (some 28), none⟩,
    ⟨.sliceSl 1 (.t 26) (some (.p 28)) none, (some 29), none⟩,
    ⟨.call 16 [(.p 25, false), (.t 29, false)], (some 30), none⟩,
    ⟨.move .look (.t 30), (some 21), none⟩,
    ⟨.extract 21 0, (some 31), none⟩,
    ⟨.extract 21 1, (some 32), none⟩,
    ⟨.assign (.p 31), (some 7), none⟩,
    ⟨.assign (.p 32), (some 8), none⟩]
@[simp] def eq18_1 := id q18_1.eq_1
def q18_2 : List AOper :=
  [⟨.assign (.c (.int .i64 0)), (some 2), none⟩,
    ⟨.assign (.c (.bool false)), (some 3), none⟩]
@[simp] def eq18_2 := id q18_2.eq_1
def q18_3 : List AOper :=
  [⟨.move .look (.p 6), (some 19), none⟩,
    ⟨.un .not (.p 19), (some 20), none⟩]
@[simp] def eq18_3 := id q18_3.eq_1
def q18_4 : List AOper :=
  [⟨.move .look (.t 0), (some 13), none⟩,
    ⟨.sliceSl 1 (.t 13) (some (.c (.int .i64 1))) none, (some 14), none⟩,
    ⟨.call 63 [(.t 14, false)], (some 15), none⟩,
    ⟨.move .look (.t 15), (some 12), none⟩,
    ⟨.extract 12 0, (some 16), none⟩,
    ⟨.extract 12 1, (some 17), none⟩,
    ⟨.extract 12 2, (some 18), none⟩,
    ⟨.assign (.p 16), (some 4), none⟩,
    ⟨.assign (.p 17), (some 5), none⟩,
    ⟨.assign (.p 18), (some 6), none⟩]
@[simp] def eq18_4 := id q18_4.eq_1
def q18_5 : List AOper :=
  [⟨.assign (.c (.int .i64 0)), (some 2), none⟩,
    ⟨.assign (.c (.bool false)), (some 3), none⟩]
@[simp] def eq18_5 := id q18_5.eq_1
def q18_6 : List AOper :=
  [⟨.move .head (.t 0), (some 9), none⟩,
    ⟨.len false (.p 9), (some 10), none⟩,
    ⟨.bin .eql 1 true (.p 10) (.c (.int .i64 0)), (some 11), none⟩]
@[simp] def eq18_6 := id q18_6.eq_1
def q18_7 : List AOper :=
  [⟨.assign (.c (.int .i64 0)), (some 2), none⟩,
    ⟨.assign (.c (.bool false)), (some 3), none⟩]
@[simp] def eq18_7 := id q18_7.eq_1
def k18_0 : ACode :=
  .ops q18_0 .ret
@[simp] theorem xk18_0 : GoC fns Q s k18_0 st ↔ GoO fns Q s q18_0 .ret st := goC_ops
def k18_1 : ACode :=
  .ops q18_1 k18_0
@[simp] theorem xk18_1 : GoC fns Q s k18_1 st ↔ GoO fns Q s q18_1 k18_0 st := goC_ops
def k18_2 : ACode :=
  .ops q18_2 .ret
@[simp] theorem xk18_2 : GoC fns Q s k18_2 st ↔ GoO fns Q s q18_2 .ret st := goC_ops
def k18_3 : ACode :=
  .cond (.p 20) k18_2 .skip
@[simp] theorem xk18_3 : GoC fns Q s k18_3 st ↔ GB fns Q s (peek st (.p 20)) k18_2 .skip st := goC_cond
def k18_4 : ACode :=
  .seq k18_3 k18_1
@[simp] theorem xk18_4 : GoC fns Q s k18_4 st ↔ GoC fns Q (.sq k18_1 :: s) k18_3 st := goC_seq
def k18_5 : ACode :=
  .ops q18_3 k18_4
@[simp] theorem xk18_5 : GoC fns Q s k18_5 st ↔ GoO fns Q s q18_3 k18_4 st := goC_ops
def k18_6 : ACode :=
  .ops q18_4 k18_5
@[simp] theorem xk18_6 : GoC fns Q s k18_6 st ↔ GoO fns Q s q18_4 k18_5 st := goC_ops
def k18_7 : ACode :=
  .ops q18_5 .ret
@[simp] theorem xk18_7 : GoC fns Q s k18_7 st ↔ GoO fns Q s q18_5 .ret st := goC_ops
def k18_8 : ACode :=
  .cond (.p 11) k18_7 .skip
@[simp] theorem xk18_8 : GoC fns Q s k18_8 st ↔ GB fns Q s (peek st (.p 11)) k18_7 .skip st := goC_cond
def k18_9 : ACode :=
  .seq k18_8 k18_6
@[simp] theorem xk18_9 : GoC fns Q s k18_9 st ↔ GoC fns Q (.sq k18_6 :: s) k18_8 st := goC_seq
def k18_10 : ACode :=
  .ops q18_6 k18_9
@[simp] theorem xk18_10 : GoC fns Q s k18_10 st ↔ GoO fns Q s q18_6 k18_9 st := goC_ops
def k18_11 : ACode :=
  .ops q18_7 k18_10
@[simp] theorem xk18_11 : GoC fns Q s k18_11 st ↔ GoO fns Q s q18_7 k18_10 st := goC_ops
def af18 : AFunc := ⟨38, k18_11, [.tmp 2, .tmp 3], fun _ => none⟩

theorem ok18 : ∃ hs, pFunc Tryz.prog sg hs Tryz.f18 = some af18 := ⟨fun i => 0, by kernel_rfl⟩
def q64_0 : List AOper :=
  [⟨.move .look (.t 0), (some 57), none⟩,
    ⟨.move .head (.p 9), (some 58), none⟩,
    ⟨.sliceSl 1 (.t 57) none (some (.p 58)), (some 59), none⟩,
    ⟨.move .look (.t 0), (some 60), none⟩,
    ⟨.move .head (.p 9), (some 61), none⟩,
    ⟨.sliceSl 1 (.t 60) (some (.p 61)) none, (some 62), none⟩,
    ⟨.assign (.t 59), (some 2), none⟩,
    ⟨.assign (.t 62), (some 3), none⟩,
    ⟨.assign (.c (.bool true)), (some 4), none⟩]
@[simp] def eq64_0 := id q64_0.eq_1
def q64_1 : List AOper :=
  [⟨.move .take (.t 0), (some 56), none⟩,
    ⟨.assign (.c (.slice .nil 0 1 [])), (some 2), none⟩,
    ⟨.assign (.t 56), (some 3), none⟩,
    ⟨.assign (.c (.bool false)), (some 4), none⟩]
@[simp] def eq64_1 := id q64_1.eq_1
def q64_2 : List AOper :=
  [⟨.move .look (.p 9), (some 52), none⟩,
    ⟨.move .head (.t 0), (some 53), none⟩,
    ⟨.len false (.p 53), (some 54), none⟩,
    ⟨.bin .gtr 1 false (.p 52) (.p 54), (some 55), none⟩]
@[simp] def eq64_2 := id q64_2.eq_1
def q64_3 : List AOper :=
  [⟨.move .look (.p 6), (some 48), none⟩,
    ⟨.move .look (.p 7), (some 49), none⟩,
    ⟨.convInt .i64 (.p 49), (some 50), none⟩,
    ⟨.bin .add 1 false (.p 48) (.p 50), (some 51), none⟩,
    ⟨.assign (.p 51), (some 9), none⟩]
@[simp] def eq64_3 := id q64_3.eq_1
def q64_4 : List AOper :=
  [⟨.move .take (.t 0), (some 47), none⟩,
    ⟨.assign (.c (.slice .nil 0 1 [])), (some 2), none⟩,
    ⟨.assign (.t 47), (some 3), none⟩,
    ⟨.assign (.c (.bool false)), (some 4), none⟩]
@[simp] def eq64_4 := id q64_4.eq_1
def q64_5 : List AOper :=
  [⟨.move .look (.p 8), (some 45), none⟩,
    ⟨.un .not (.p 45), (some 46), none⟩]
@[simp] def eq64_5 := id q64_5.eq_1
def q64_6 : List AOper :=
  [⟨.move .look (.t 0), (some 38), none⟩,
    ⟨.move .head (.p 6), (some 39), none⟩,
    ⟨.sliceSl 1 (.t 38) (some (.p 39)) none, (some 40), none⟩,
    ⟨.move .look (.p 5), (some 41), none⟩,
    ⟨.call 164 [(.t 40, false), (.p 41, false)], (some 42), none⟩,
    ⟨.move .look (.t 42), (some 37), none⟩,
    ⟨.extract 37 0, (some 43), none⟩,
    ⟨.extract 37 1, (some 44), none⟩,
    ⟨.assign (.p 43), (some 7), none⟩,
    ⟨.assign (.p 44), (some 8), none⟩]
@[simp] def eq64_6 := id q64_6.eq_1
def q64_7 : List AOper :=
  [⟨.move .look (.p 6), (some 35), none⟩,
    ⟨.bin .add 1 true (.p 35) (.c (.int .i64 1)), (some 36), none⟩,
    ⟨.assign (.p 36), (some 6), none⟩]
@[simp] def eq64_7 := id q64_7.eq_1
def q64_8 : List AOper :=
  [⟨.move .take (.t 0), (some 34), none⟩,
    ⟨.assign (.c (.slice .nil 0 1 [])), (some 2), none⟩,
    ⟨.assign (.t 34), (some 3), none⟩,
    ⟨.assign (.c (.bool false)), (some 4), none⟩]
@[simp] def eq64_8 := id q64_8.eq_1
def q64_9 : List AOper :=
  [⟨.move .look (.p 6), (some 30), none⟩,
    ⟨.move .head (.t 0), (some 31), none⟩,
    ⟨.len false (.p 31), (some 32), none⟩,
    ⟨.bin .geq 1 false (.p 30) (.p 32), (some 33), none⟩]
@[simp] def eq64_9 := id q64_9.eq_1
def q64_10 : List AOper :=
  [⟨.move .look (.p 6), (some 28), none⟩,
    ⟨.bin .add 1 true (.p 28) (.c (.int .i64 1)), (some 29), none⟩,
    ⟨.assign (.p 29), (some 6), none⟩]
@[simp] def eq64_10 := id q64_10.eq_1
def q64_11 : List AOper :=
  [⟨.move .look (.p 6), (some 17), none⟩,
    ⟨.move .head (.t 0), (some 18), none⟩,
    ⟨.len false (.p 18), (some 19), none⟩,
    ⟨.bin .lss 1 false (.p 17) (.p 19), (some 20), none⟩,
    ⟨.move .look (.p 20), (some 21), none⟩,
    ⟨.move .look (.t 0), (some 22), (some (21, true))⟩,
    ⟨.move .look (.p 6), (some 23), (some (21, true))⟩,
    ⟨.indexAddr 1 (.t 22) (.p 23), (some 24), (some (21, true))⟩,
    ⟨.load .head false 1 (.p 24), (some 25), (some (21, true))⟩,
    ⟨.bin .neq 1 true (.p 25) (.c (.int .u8 0)), (some 26), (some (21, true))⟩,
    ⟨.pick (.p 21) (.p 26) (.c (.bool false)), (some 27), none⟩]
@[simp] def eq64_11 := id q64_11.eq_1
def q64_12 : List AOper :=
  [⟨.move .look (.t 0), (some 14), none⟩,
    ⟨.indexAddr 1 (.t 14) (.c (.int .i64 0)), (some 15), none⟩,
    ⟨.load .take false 1 (.p 15), (some 16), none⟩,
    ⟨.assign (.p 16), (some 5), none⟩]
@[simp] def eq64_12 := id q64_12.eq_1
def q64_13 : List AOper :=
  [⟨.move .take (.t 0), (some 13), none⟩,
    ⟨.assign (.c (.slice .nil 0 1 [])), (some 2), none⟩,
    ⟨.assign (.t 13), (some 3), none⟩,
    ⟨.assign (.c (.bool false)), (some 4), none⟩]
@[simp] def eq64_13 := id q64_13.eq_1
def q64_14 : List AOper :=
  [⟨.move .head (.t 0), (some 10), none⟩,
    ⟨.len false (.p 10), (some 11), none⟩,
    ⟨.bin .lss 1 true (.p 11) (.c (.int .i64 1)), (some 12), none⟩]
@[simp] def eq64_14 := id q64_14.eq_1
def q64_15 : List AOper :=
  [⟨.assign (.c (.slice .nil 0 1 [])), (some 2), none⟩,
    ⟨.assign (.c (.slice .nil 0 1 [])), (some 3), none⟩,
    ⟨.assign (.c (.bool false)), (some 4), none⟩]
@[simp] def eq64_15 := id q64_15.eq_1
def k64_0 : ACode :=
  .ops q64_0 .ret
@[simp] theorem xk64_0 : GoC fns Q s k64_0 st ↔ GoO fns Q s q64_0 .ret st := goC_ops
def k64_1 : ACode :=
  .ops q64_1 .ret
@[simp] theorem xk64_1 : GoC fns Q s k64_1 st ↔ GoO fns Q s q64_1 .ret st := goC_ops
def k64_2 : ACode :=
  .cond (.p 55) k64_1 .skip
@[simp] theorem xk64_2 : GoC fns Q s k64_2 st ↔ GB fns Q s (peek st (.p 55)) k64_1 .skip st := goC_cond
def k64_3 : ACode :=
  .seq k64_2 k64_0
@[simp] theorem xk64_3 : GoC fns Q s k64_3 st ↔ GoC fns Q (.sq k64_0 :: s) k64_2 st := goC_seq
def k64_4 : ACode :=
  .ops q64_2 k64_3
@[simp] theorem xk64_4 : GoC fns Q s k64_4 st ↔ GoO fns Q s q64_2 k64_3 st := goC_ops
def k64_5 : ACode :=
  .ops q64_3 k64_4
@[simp] theorem xk64_5 : GoC fns Q s k64_5 st ↔ GoO fns Q s q64_3 k64_4 st := goC_ops
def k64_6 : ACode :=
  .ops q64_4 .ret
@[simp] theorem xk64_6 : GoC fns Q s k64_6 st ↔ GoO fns Q s q64_4 .ret st := goC_ops
def k64_7 : ACode :=
  .cond (.p 46) k64_6 .skip
@[simp] theorem xk64_7 : GoC fns Q s k64_7 st ↔ GB fns Q s (peek st (.p 46)) k64_6 .skip st := goC_cond
def k64_8 : ACode :=
  .seq k64_7 k64_5
@[simp] theorem xk64_8 : GoC fns Q s k64_8 st ↔ GoC fns Q (.sq k64_5 :: s) k64_7 st := goC_seq
def k64_9 : ACode :=
  .ops q64_5 k64_8
@[simp] theorem xk64_9 : GoC fns Q s k64_9 st ↔ GoO fns Q s q64_5 k64_8 st := goC_ops
def k64_10 : ACode :=
  .ops q64_6 k64_9
@[simp] theorem xk64_10 : GoC fns Q s k64_10 st ↔ GoO fns Q s q64_6 k64_9 st := goC_ops
def k64_11 : ACode :=
  .ops q64_7 k64_10
@[simp] theorem xk64_11 : GoC fns Q s k64_11 st ↔ GoO fns Q s q64_7 k64_10 st := goC_ops
def k64_12 : ACode :=
  .ops q64_8 .ret
@[simp] theorem xk64_12 : GoC fns Q s k64_12 st ↔ GoO fns Q s q64_8 .ret st := goC_ops
def k64_13 : ACode :=
  .cond (.p 33) k64_12 .skip
@[simp] theorem xk64_13 : GoC fns Q s k64_13 st ↔ GB fns Q s (peek st (.p 33)) k64_12 .skip st := goC_cond
def k64_14 : ACode :=
  .seq k64_13 k64_11
@[simp] theorem xk64_14 : GoC fns Q s k64_14 st ↔ GoC fns Q (.sq k64_11 :: s) k64_13 st := goC_seq
def k64_15 : ACode :=
  .ops q64_9 k64_14
@[simp] theorem xk64_15 : GoC fns Q s k64_15 st ↔ GoO fns Q s q64_9 k64_14 st := goC_ops
def k64_16 : ACode :=
  .ops q64_10 .skip
@[simp] theorem xk64_16 : GoC fns Q s k64_16 st ↔ GoO fns Q s q64_10 .skip st := goC_ops
def k64_17 : ACode :=
  .block 1 k64_16
@[simp] theorem xk64_17 : GoC fns Q s k64_17 st ↔ GoC fns Q (.bl 1 :: s) k64_16 st := goC_block
def k64_18 : ACode :=
  .cond (.p 27) .skip (.exit 0)
@[simp] theorem xk64_18 : GoC fns Q s k64_18 st ↔ GB fns Q s (peek st (.p 27)) .skip (.exit 0) st := goC_cond
def k64_19 : ACode :=
  .seq k64_18 k64_17
@[simp] theorem xk64_19 : GoC fns Q s k64_19 st ↔ GoC fns Q (.sq k64_17 :: s) k64_18 st := goC_seq
def k64_20 : ACode :=
  .ops q64_11 k64_19
@[simp] theorem xk64_20 : GoC fns Q s k64_20 st ↔ GoO fns Q s q64_11 k64_19 st := goC_ops
def lc64_0 : ACode :=
  k64_20
@[simp] theorem xlc64_0 : GoC fns Q s lc64_0 st ↔ GoC fns Q s k64_20 st := Iff.rfl
def k64_22 : ACode :=
  .loop lc64_0
@[simp] theorem xk64_22 : GoC fns Q s k64_22 st ↔ (LoopR fns lc64_0 st fun r => GoE fns Q s r.1 r.2) := goC_loop
def k64_23 : ACode :=
  .block 0 k64_22
@[simp] theorem xk64_23 : GoC fns Q s k64_23 st ↔ GoC fns Q (.bl 0 :: s) k64_22 st := goC_block
def k64_24 : ACode :=
  .seq k64_23 k64_15
@[simp] theorem xk64_24 : GoC fns Q s k64_24 st ↔ GoC fns Q (.sq k64_15 :: s) k64_23 st := goC_seq
def k64_25 : ACode :=
  .ops [⟨.assign (.c (.int .i64 1)), (some 6), none⟩] k64_24
@[simp] theorem xk64_25 : GoC fns Q s k64_25 st ↔ GoO fns Q s [⟨.assign (.c (.int .i64 1)), (some 6), none⟩] k64_24 st := goC_ops
def k64_26 : ACode :=
  .ops q64_12 k64_25
@[simp] theorem xk64_26 : GoC fns Q s k64_26 st ↔ GoO fns Q s q64_12 k64_25 st := goC_ops
def k64_27 : ACode :=
  .ops q64_13 .ret
@[simp] theorem xk64_27 : GoC fns Q s k64_27 st ↔ GoO fns Q s q64_13 .ret st := goC_ops
def k64_28 : ACode :=
  .cond (.p 12) k64_27 .skip
@[simp] theorem xk64_28 : GoC fns Q s k64_28 st ↔ GB fns Q s (peek st (.p 12)) k64_27 .skip st := goC_cond
def k64_29 : ACode :=
  .seq k64_28 k64_26
@[simp] theorem xk64_29 : GoC fns Q s k64_29 st ↔ GoC fns Q (.sq k64_26 :: s) k64_28 st := goC_seq
def k64_30 : ACode :=
  .ops q64_14 k64_29
@[simp] theorem xk64_30 : GoC fns Q s k64_30 st ↔ GoO fns Q s q64_14 k64_29 st := goC_ops
def k64_31 : ACode :=
  .ops q64_15 k64_30
@[simp] theorem xk64_31 : GoC fns Q s k64_31 st ↔ GoO fns Q s q64_15 k64_30 st := goC_ops
def af64 : AFunc := ⟨63, k64_31, [.tmp 2, .tmp 3, .tmp 4], fun _ => none⟩

theorem ok64 : ∃ hs, pFunc Tryz.prog sg hs Tryz.f64 = some af64 := ⟨fun i => 0, by kernel_rfl⟩
def q19_0 : List AOper :=
  [⟨.move .look (.t 5), (some 12), none⟩,
    ⟨.call 55 [(.t 12, false)], (some 13), none⟩,
    ⟨.move .look (.t 3), (some 14), none⟩,
    ⟨.call 55 [(.t 14, false)], (some 15), none⟩,
    ⟨.move .take (.p 4), (some 16), none⟩,
    ⟨.assign (.t 13), (some 2), none⟩,
    ⟨.assign (.t 15), (some 3), none⟩,
    ⟨.assign (.p 16), (some 4), none⟩]
@[simp] def eq19_0 := id q19_0.eq_1
def q19_1 : List AOper :=
  [⟨.move .look (.t 0), (some 7), none⟩,
    ⟨.call 64 [(.t 7, false)], (some 8), none⟩,
    ⟨.move .look (.t 8), (some 6), none⟩,
    ⟨.extract 6 0, (some 9), none⟩,
    ⟨.extract 6 1, (some 10), none⟩,
    ⟨.extract 6 2, (some 11), none⟩,
    ⟨.assign (.t 9), (some 5), none⟩,
    ⟨.assign (.t 10), (some 3), none⟩,
    ⟨.assign (.p 11), (some 4), none⟩]
@[simp] def eq19_1 := id q19_1.eq_1
def q19_2 : List AOper :=
  [⟨.assign (.c (.slice .nil 0 1 [])), (some 2), none⟩,
    ⟨.assign (.c (.slice .nil 0 1 [])), (some 3), none⟩,
    ⟨.assign (.c (.bool false)), (some 4), none⟩]
@[simp] def eq19_2 := id q19_2.eq_1
def k19_0 : ACode :=
  .ops q19_0 .ret
@[simp] theorem xk19_0 : GoC fns Q s k19_0 st ↔ GoO fns Q s q19_0 .ret st := goC_ops
def k19_1 : ACode :=
  .ops q19_1 k19_0
@[simp] theorem xk19_1 : GoC fns Q s k19_1 st ↔ GoO fns Q s q19_1 k19_0 st := goC_ops
def k19_2 : ACode :=
  .ops q19_2 k19_1
@[simp] theorem xk19_2 : GoC fns Q s k19_2 st ↔ GoO fns Q s q19_2 k19_1 st := goC_ops
def af19 : AFunc := ⟨17, k19_2, [.tmp 2, .tmp 3, .tmp 4], fun _ => none⟩

theorem ok19 : ∃ hs, pFunc Tryz.prog sg hs Tryz.f19 = some af19 := ⟨fun i => 0, by kernel_rfl⟩
def q262_0 : List AOper :=
  [⟨.move .look (.p 4), (some 7), none⟩,
    ⟨.convInt .i32 (.p 7), (some 8), none⟩,
    ⟨.move .take (.t 0), (some 9), none⟩,
    ⟨.buildSl 5 1 [.int .u8 0, .int .u8 0, .int .u8 0, .int .u8 0] [(0, 1, .c (.int .u8 0)), (1, 1, .c (.int .u8 0)), (2, 1, .c (.int .u8 0)), (3, 1, .c (.int .u8 0))], (some 10), none⟩,
    ⟨.append 5 1 1 false (.t 9) (.p 10), (some 11), none⟩,
    ⟨.assign (.p 8), (some 2), none⟩,
    ⟨.assign (.t 11), (some 3), none⟩]
@[simp] def eq262_0 := id q262_0.eq_1
def q262_1 : List AOper :=
  [⟨.move .head (.t 0), (some 5), none⟩,
    ⟨.len false (.p 5), (some 6), none⟩,
    ⟨.assign (.p 6), (some 4), none⟩]
@[simp] def eq262_1 := id q262_1.eq_1
def q262_2 : List AOper :=
  [⟨.assign (.c (.int .i32 0)), (some 2), none⟩,
    ⟨.assign (.c (.slice .nil 0 1 [])), (some 3), none⟩]
@[simp] def eq262_2 := id q262_2.eq_1
def k262_0 : ACode :=
  .ops q262_0 .ret
@[simp] theorem xk262_0 : GoC fns Q s k262_0 st ↔ GoO fns Q s q262_0 .ret st := goC_ops
def k262_1 : ACode :=
  .ops q262_1 k262_0
@[simp] theorem xk262_1 : GoC fns Q s k262_1 st ↔ GoO fns Q s q262_1 k262_0 st := goC_ops
def k262_2 : ACode :=
  .ops q262_2 k262_1
@[simp] theorem xk262_2 : GoC fns Q s k262_2 st ↔ GoO fns Q s q262_2 k262_1 st := goC_ops
def af262 : AFunc := ⟨12, k262_2, [.tmp 2, .tmp 3], fun _ => none⟩

theorem ok262 : ∃ hs, pFunc Tryz.prog sg hs Tryz.f262 = some af262 := ⟨fun i => 0, by kernel_rfl⟩
def q229_0 : List AOper :=
  [⟨.move .take (.t 0), (some 4), none⟩,
    ⟨.call 262 [(.t 4, true)], (some 5), none⟩,
    ⟨.extract 5 0, (some 6), none⟩,
    ⟨.extract 5 1, (some 7), none⟩,
    ⟨.assign (.p 6), (some 2), none⟩,
    ⟨.assign (.t 7), (some 3), none⟩]
@[simp] def eq229_0 := id q229_0.eq_1
def q229_1 : List AOper :=
  [⟨.assign (.c (.int .i32 0)), (some 2), none⟩,
    ⟨.assign (.c (.slice .nil 0 1 [])), (some 3), none⟩]
@[simp] def eq229_1 := id q229_1.eq_1
def k229_0 : ACode :=
  .ops q229_0 .ret
@[simp] theorem xk229_0 : GoC fns Q s k229_0 st ↔ GoO fns Q s q229_0 .ret st := goC_ops
def k229_1 : ACode :=
  .ops q229_1 k229_0
@[simp] theorem xk229_1 : GoC fns Q s k229_1 st ↔ GoO fns Q s q229_1 k229_0 st := goC_ops
def af229 : AFunc := ⟨8, k229_1, [.tmp 2, .tmp 3], fun _ => none⟩

theorem ok229 : ∃ hs, pFunc Tryz.prog sg hs Tryz.f229 = some af229 := ⟨fun i => 0, by kernel_rfl⟩
def q180_0 : List AOper :=
  [⟨.move .take (.p 0), (some 25), none⟩,
    ⟨.assign (.p 25), (some 2), none⟩]
@[simp] def eq180_0 := id q180_0.eq_1
def q180_1 : List AOper :=
  [⟨.move .look (.p 0), (some 15), none⟩,
    ⟨.move .look (.p 0), (some 16), none⟩,
    ⟨.nilCheck (.p 16), (some 17), none⟩,
    ⟨.fieldAddr 1 (.p 17), (some 18), none⟩,
    ⟨.load .take false 1 (.p 18), (some 19), none⟩,
    ⟨.move .look (.p 3), (some 20), none⟩,
    ⟨.buildSl 21 1 [.int .i32 0] [(0, 1, .p 20)], (some 21), none⟩,
    ⟨.append 21 1 4 false (.t 19) (.p 21), (some 22), none⟩,
    ⟨.nilCheck (.p 15), (some 23), none⟩,
    ⟨.fieldAddr 1 (.p 23), (some 24), none⟩,
    ⟨.store 1 (.p 24) (.t 22), none, none⟩]
@[simp] def eq180_1 := id q180_1.eq_1
def q180_2 : List AOper :=
  [⟨.move .look (.p 0), (some 5), none⟩,
    ⟨.move .look (.p 0), (some 6), none⟩,
    ⟨.nilCheck (.p 6), (some 7), none⟩,
    ⟨.fieldAddr 0 (.p 7), (some 8), none⟩,
    ⟨.load .take false 1 (.p 8), (some 9), none⟩,
    ⟨.call 229 [(.t 9, true)], (some 10), none⟩,
    ⟨.move .look (.t 10), (some 4), none⟩,
    ⟨.extract 4 0, (some 11), none⟩,
    ⟨.extract 4 1, (some 12), none⟩,
    ⟨.assign (.p 11), (some 3), none⟩,
    ⟨.nilCheck (.p 5), (some 13), none⟩,
    ⟨.fieldAddr 0 (.p 13), (some 14), none⟩,
    ⟨.store 1 (.p 14) (.t 12), none, none⟩]
@[simp] def eq180_2 := id q180_2.eq_1
def k180_0 : ACode :=
  .ops q180_0 .ret
@[simp] theorem xk180_0 : GoC fns Q s k180_0 st ↔ GoO fns Q s q180_0 .ret st := goC_ops
def k180_1 : ACode :=
  .ops q180_1 k180_0
@[simp] theorem xk180_1 : GoC fns Q s k180_1 st ↔ GoO fns Q s q180_1 k180_0 st := goC_ops
def k180_2 : ACode :=
  .ops q180_2 k180_1
@[simp] theorem xk180_2 : GoC fns Q s k180_2 st ↔ GoO fns Q s q180_2 k180_1 st := goC_ops
def k180_3 : ACode :=
  .ops [⟨.assign (.c (.int .i32 0)), (some 3), none⟩] k180_2
@[simp] theorem xk180_3 : GoC fns Q s k180_3 st ↔ GoO fns Q s [⟨.assign (.c (.int .i32 0)), (some 3), none⟩] k180_2 st := goC_ops
def k180_4 : ACode :=
  .ops [⟨.assign (.c (.nilptr)), (some 2), none⟩] k180_3
@[simp] theorem xk180_4 : GoC fns Q s k180_4 st ↔ GoO fns Q s [⟨.assign (.c (.nilptr)), (some 2), none⟩] k180_3 st := goC_ops
def af180 : AFunc := ⟨26, k180_4, [.tmp 2], fun _ => none⟩

theorem ok180 : ∃ hs, pFunc Tryz.prog sg hs Tryz.f180 = some af180 := ⟨fun i => 0, by kernel_rfl⟩
def q141_0 : List AOper :=
  [⟨.build [.slice .nil 0 1 [], .slice .nil 0 1 []] [], (some 1), none⟩,
    ⟨.boxobj (.p 1), (some 2), none⟩,
    ⟨.hcall 180 [(.p 2, false)], (some 3), none⟩,
    ⟨.assign (.p 3), (some 0), none⟩]
@[simp] def eq141_0 := id q141_0.eq_1
def k141_0 : ACode :=
  .ops q141_0 .ret
@[simp] theorem xk141_0 : GoC fns Q s k141_0 st ↔ GoO fns Q s q141_0 .ret st := goC_ops
def k141_1 : ACode :=
  .ops [⟨.assign (.c (.nilptr)), (some 0), none⟩] k141_0
@[simp] theorem xk141_1 : GoC fns Q s k141_1 st ↔ GoO fns Q s [⟨.assign (.c (.nilptr)), (some 0), none⟩] k141_0 st := goC_ops
def af141 : AFunc := ⟨4, k141_1, [.tmp 0], fun _ => none⟩

theorem ok141 : ∃ hs, pFunc Tryz.prog sg hs Tryz.f141 = some af141 := ⟨fun i => if i == 2 then 1 else 0, by kernel_rfl⟩
def q316_0 : List AOper :=
  [⟨.move .take (.p 5), (some 34), none⟩,
    ⟨.assign (.p 34), (some 4), none⟩]
@[simp] def eq316_0 := id q316_0.eq_1
def q316_1 : List AOper :=
  [⟨.move .head (.p 6), (some 31), none⟩,
    ⟨.move .head (.p 1), (some 32), none⟩,
    ⟨.bin .eql 1 false (.p 31) (.p 32), (some 33), none⟩]
@[simp] def eq316_1 := id q316_1.eq_1
def q316_2 : List AOper :=
  [⟨.extract 27 1, (some 29), none⟩,
    ⟨.extract 27 2, (some 30), none⟩,
    ⟨.assign (.p 29), (some 5), none⟩,
    ⟨.assign (.p 30), (some 6), none⟩]
@[simp] def eq316_2 := id q316_2.eq_1
def q316_3 : List AOper :=
  [⟨.next (.p 26), (some 27), none⟩,
    ⟨.extract 27 0, (some 28), none⟩]
@[simp] def eq316_3 := id q316_3.eq_1
def q316_4 : List AOper :=
  [⟨.move .look (.p 0), (some 25), none⟩,
    ⟨.range 26 (.p 25), (some 26), none⟩]
@[simp] def eq316_4 := id q316_4.eq_1
def q316_5 : List AOper :=
  [⟨.move .head (.p 1), (some 7), none⟩,
    ⟨.bin .neq 1 true (.p 7) (.c (.int .i32 65533)), (some 8), none⟩,
    ⟨.move .look (.p 8), (some 9), none⟩,
    ⟨.move .look (.p 1), (some 10), (some (9, true))⟩,
    ⟨.bin .lss 1 true (.p 10) (.c (.int .i32 0)), (some 11), (some (9, true))⟩,
    ⟨.move .look (.p 11), (some 12), (some (9, true))⟩,
    ⟨.move .look (.p 1), (some 13), (some (12, false))⟩,
    ⟨.bin .gtr 1 true (.p 13) (.c (.int .i32 1114111)), (some 14), (some (12, false))⟩,
    ⟨.pick (.p 12) (.c (.bool true)) (.p 14), (some 15), (some (9, true))⟩,
    ⟨.move .look (.p 15), (some 16), (some (9, true))⟩,
    ⟨.move .look (.p 1), (some 17), (some (16, false))⟩,
    ⟨.bin .leq 1 true (.c (.int .i32 55296)) (.p 17), (some 18), (some (16, false))⟩,
    ⟨.move .look (.p 18), (some 19), (some (16, false))⟩,
    ⟨.move .look (.p 1), (some 20), (some (19, true))⟩,
    ⟨.bin .leq 1 true (.p 20) (.c (.int .i32 57343)), (some 21), (some (19, true))⟩,
    ⟨.pick (.p 19) (.p 21) (.c (.bool false)), (some 22), (some (16, false))⟩,
    ⟨.pick (.p 16) (.c (.bool true)) (.p 22), (some 23), (some (9, true))⟩,
    ⟨.pick (.p 9) (.p 23) (.c (.bool false)), (some 24), none⟩]
@[simp] def eq316_5 := id q316_5.eq_1
def k316_0 : ACode :=
  .ops [⟨.assign (.c (.int .i64 (-1))), (some 4), none⟩] .ret
@[simp] theorem xk316_0 : GoC fns Q s k316_0 st ↔ GoO fns Q s [⟨.assign (.c (.int .i64 (-1))), (some 4), none⟩] .ret st := goC_ops
def k316_1 : ACode :=
  .ops q316_0 .ret
@[simp] theorem xk316_1 : GoC fns Q s k316_1 st ↔ GoO fns Q s q316_0 .ret st := goC_ops
def k316_2 : ACode :=
  .cond (.p 33) k316_1 .skip
@[simp] theorem xk316_2 : GoC fns Q s k316_2 st ↔ GB fns Q s (peek st (.p 33)) k316_1 .skip st := goC_cond
def k316_3 : ACode :=
  .ops q316_1 k316_2
@[simp] theorem xk316_3 : GoC fns Q s k316_3 st ↔ GoO fns Q s q316_1 k316_2 st := goC_ops
def k316_4 : ACode :=
  .ops q316_2 k316_3
@[simp] theorem xk316_4 : GoC fns Q s k316_4 st ↔ GoO fns Q s q316_2 k316_3 st := goC_ops
def k316_5 : ACode :=
  .block 1 k316_4
@[simp] theorem xk316_5 : GoC fns Q s k316_5 st ↔ GoC fns Q (.bl 1 :: s) k316_4 st := goC_block
def k316_6 : ACode :=
  .cond (.p 28) .skip (.exit 0)
@[simp] theorem xk316_6 : GoC fns Q s k316_6 st ↔ GB fns Q s (peek st (.p 28)) .skip (.exit 0) st := goC_cond
def k316_7 : ACode :=
  .seq k316_6 k316_5
@[simp] theorem xk316_7 : GoC fns Q s k316_7 st ↔ GoC fns Q (.sq k316_5 :: s) k316_6 st := goC_seq
def k316_8 : ACode :=
  .ops q316_3 k316_7
@[simp] theorem xk316_8 : GoC fns Q s k316_8 st ↔ GoO fns Q s q316_3 k316_7 st := goC_ops
def lc316_0 : ACode :=
  k316_8
@[simp] theorem xlc316_0 : GoC fns Q s lc316_0 st ↔ GoC fns Q s k316_8 st := Iff.rfl
def k316_10 : ACode :=
  .loop lc316_0
@[simp] theorem xk316_10 : GoC fns Q s k316_10 st ↔ (LoopR fns lc316_0 st fun r => GoE fns Q s r.1 r.2) := goC_loop
def k316_11 : ACode :=
  .block 0 k316_10
@[simp] theorem xk316_11 : GoC fns Q s k316_11 st ↔ GoC fns Q (.bl 0 :: s) k316_10 st := goC_block
def k316_12 : ACode :=
  .seq k316_11 k316_0
@[simp] theorem xk316_12 : GoC fns Q s k316_12 st ↔ GoC fns Q (.sq k316_0 :: s) k316_11 st := goC_seq
def k316_13 : ACode :=
  .ops q316_4 k316_12
@[simp] theorem xk316_13 : GoC fns Q s k316_13 st ↔ GoO fns Q s q316_4 k316_12 st := goC_ops
def k316_14 : ACode :=
  .ops [⟨.assign (.c (.int .i64 (-1))), (some 4), none⟩] .ret
@[simp] theorem xk316_14 : GoC fns Q s k316_14 st ↔ GoO fns Q s [⟨.assign (.c (.int .i64 (-1))), (some 4), none⟩] .ret st := goC_ops
def k316_15 : ACode :=
  .cond (.p 24) k316_14 .skip
@[simp] theorem xk316_15 : GoC fns Q s k316_15 st ↔ GB fns Q s (peek st (.p 24)) k316_14 .skip st := goC_cond
def k316_16 : ACode :=
  .seq k316_15 k316_13
@[simp] theorem xk316_16 : GoC fns Q s k316_16 st ↔ GoC fns Q (.sq k316_13 :: s) k316_15 st := goC_seq
def k316_17 : ACode :=
  .ops q316_5 k316_16
@[simp] theorem xk316_17 : GoC fns Q s k316_17 st ↔ GoO fns Q s q316_5 k316_16 st := goC_ops
def k316_18 : ACode :=
  .ops [⟨.assign (.c (.int .i64 0)), (some 4), none⟩] k316_17
@[simp] theorem xk316_18 : GoC fns Q s k316_18 st ↔ GoO fns Q s [⟨.assign (.c (.int .i64 0)), (some 4), none⟩] k316_17 st := goC_ops
def af316 : AFunc := ⟨35, k316_18, [.tmp 4], fun _ => none⟩

theorem ok316 : ∃ hs, pFunc Tryz.prog sg hs Tryz.f316 = some af316 := ⟨fun i => 0, by kernel_rfl⟩
def q307_0 : List AOper :=
  [⟨.move .look (.p 0), (some 5), none⟩,
    ⟨.move .look (.p 1), (some 6), none⟩,
    ⟨.call 316 [(.p 5, false), (.p 6, false)], (some 7), none⟩,
    ⟨.bin .geq 1 true (.p 7) (.c (.int .i64 0)), (some 8), none⟩,
    ⟨.assign (.p 8), (some 4), none⟩]
@[simp] def eq307_0 := id q307_0.eq_1
def k307_0 : ACode :=
  .ops q307_0 .ret
@[simp] theorem xk307_0 : GoC fns Q s k307_0 st ↔ GoO fns Q s q307_0 .ret st := goC_ops
def k307_1 : ACode :=
  .ops [⟨.assign (.c (.bool false)), (some 4), none⟩] k307_0
@[simp] theorem xk307_1 : GoC fns Q s k307_1 st ↔ GoO fns Q s [⟨.assign (.c (.bool false)), (some 4), none⟩] k307_0 st := goC_ops
def af307 : AFunc := ⟨9, k307_1, [.tmp 4], fun _ => none⟩

theorem ok307 : ∃ hs, pFunc Tryz.prog sg hs Tryz.f307 = some af307 := ⟨fun i => 0, by kernel_rfl⟩
def q265_0 : List AOper :=
  [⟨.move .look (.p 0), (some 3), none⟩,
    ⟨.call 307 [(.p 3, false), (.c (.int .i32 0), false)], (some 4), none⟩,
    ⟨.un .not (.p 4), (some 5), none⟩,
    ⟨.assign (.p 5), (some 2), none⟩]
@[simp] def eq265_0 := id q265_0.eq_1
def k265_0 : ACode :=
  .ops q265_0 .ret
@[simp] theorem xk265_0 : GoC fns Q s k265_0 st ↔ GoO fns Q s q265_0 .ret st := goC_ops
def k265_1 : ACode :=
  .ops [⟨.assign (.c (.bool false)), (some 2), none⟩] k265_0
@[simp] theorem xk265_1 : GoC fns Q s k265_1 st ↔ GoO fns Q s [⟨.assign (.c (.bool false)), (some 2), none⟩] k265_0 st := goC_ops
def af265 : AFunc := ⟨6, k265_1, [.tmp 2], fun _ => none⟩

theorem ok265 : ∃ hs, pFunc Tryz.prog sg hs Tryz.f265 = some af265 := ⟨fun i => 0, by kernel_rfl⟩
def q266_0 : List AOper :=
  [⟨.move .take (.t 0), (some 5), none⟩,
    ⟨.move .look (.p 1), (some 6), none⟩,
    ⟨.buildSl 5 1 [.int .u8 0] [(0, 1, .p 6)], (some 7), none⟩,
    ⟨.append 5 1 1 false (.t 5) (.p 7), (some 8), none⟩,
    ⟨.assign (.t 8), (some 4), none⟩]
@[simp] def eq266_0 := id q266_0.eq_1
def k266_0 : ACode :=
  .ops q266_0 .ret
@[simp] theorem xk266_0 : GoC fns Q s k266_0 st ↔ GoO fns Q s q266_0 .ret st := goC_ops
def k266_1 : ACode :=
  .ops [⟨.assign (.c (.slice .nil 0 1 [])), (some 4), none⟩] k266_0
@[simp] theorem xk266_1 : GoC fns Q s k266_1 st ↔ GoO fns Q s [⟨.assign (.c (.slice .nil 0 1 [])), (some 4), none⟩] k266_0 st := goC_ops
def af266 : AFunc := ⟨9, k266_1, [.tmp 4], fun _ => none⟩

theorem ok266 : ∃ hs, pFunc Tryz.prog sg hs Tryz.f266 = some af266 := ⟨fun i => 0, by kernel_rfl⟩
def q232_0 : List AOper :=
  [⟨.move .take (.t 0), (some 17), none⟩,
    ⟨.buildSl 5 1 [.int .u8 0] [(0, 1, .c (.int .u8 0))], (some 18), none⟩,
    ⟨.append 5 1 1 false (.t 17) (.p 18), (some 19), none⟩,
    ⟨.assign (.t 19), (some 6), none⟩]
@[simp] def eq232_0 := id q232_0.eq_1
def q232_1 : List AOper :=
  [⟨.move .take (.t 0), (some 14), none⟩,
    ⟨.move .look (.p 2), (some 15), none⟩,
    ⟨.append 5 1 1 true (.t 14) (.p 15), (some 16), none⟩,
    ⟨.assign (.t 16), (some 0), none⟩]
@[simp] def eq232_1 := id q232_1.eq_1
def q232_2 : List AOper :=
  [⟨.move .take (.t 0), (some 11), none⟩,
    ⟨.move .look (.p 1), (some 12), none⟩,
    ⟨.call 266 [(.t 11, true), (.p 12, false)], (some 13), none⟩,
    ⟨.assign (.t 13), (some 0), none⟩]
@[simp] def eq232_2 := id q232_2.eq_1
def q232_3 : List AOper :=
  [⟨.mkIface 9 (.c (.str [66, 83, 79, 78, 32, 101, 108, 101, 109, 101, 110, 116, 32, 107, 101, 121, 115, 32, 99, 97, 110, 110, 111, 116, 32, 99, 111, 110, 116, 97, 105, 110, 32, 110, 117, 108, 108, 32, 98, 121, 116, 101, 115])), (some 10), none⟩,
    ⟨.dead, none, none⟩]
@[simp] def eq232_3 := id q232_3.eq_1
def q232_4 : List AOper :=
  [⟨.move .look (.p 2), (some 7), none⟩,
    ⟨.call 265 [(.p 7, false)], (some 8), none⟩,
    ⟨.un .not (.p 8), (some 9), none⟩]
@[simp] def eq232_4 := id q232_4.eq_1
def k232_0 : ACode :=
  .ops q232_0 .ret
@[simp] theorem xk232_0 : GoC fns Q s k232_0 st ↔ GoO fns Q s q232_0 .ret st := goC_ops
def k232_1 : ACode :=
  .ops q232_1 k232_0
@[simp] theorem xk232_1 : GoC fns Q s k232_1 st ↔ GoO fns Q s q232_1 k232_0 st := goC_ops
def k232_2 : ACode :=
  .ops q232_2 k232_1
@[simp] theorem xk232_2 : GoC fns Q s k232_2 st ↔ GoO fns Q s q232_2 k232_1 st := goC_ops
def k232_3 : ACode :=
  .ops q232_3 .skip
@[simp] theorem xk232_3 : GoC fns Q s k232_3 st ↔ GoO fns Q s q232_3 .skip st := goC_ops
def k232_4 : ACode :=
  .cond (.p 9) k232_3 .skip
@[simp] theorem xk232_4 : GoC fns Q s k232_4 st ↔ GB fns Q s (peek st (.p 9)) k232_3 .skip st := goC_cond
def k232_5 : ACode :=
  .seq k232_4 k232_2
@[simp] theorem xk232_5 : GoC fns Q s k232_5 st ↔ GoC fns Q (.sq k232_2 :: s) k232_4 st := goC_seq
def k232_6 : ACode :=
  .ops q232_4 k232_5
@[simp] theorem xk232_6 : GoC fns Q s k232_6 st ↔ GoO fns Q s q232_4 k232_5 st := goC_ops
def k232_7 : ACode :=
  .ops [⟨.assign (.c (.slice .nil 0 1 [])), (some 6), none⟩] k232_6
@[simp] theorem xk232_7 : GoC fns Q s k232_7 st ↔ GoO fns Q s [⟨.assign (.c (.slice .nil 0 1 [])), (some 6), none⟩] k232_6 st := goC_ops
def af232 : AFunc := ⟨20, k232_7, [.tmp 6], fun _ => none⟩

theorem ok232 : ∃ hs, pFunc Tryz.prog sg hs Tryz.f232 = some af232 := ⟨fun i => 0, by kernel_rfl⟩
def q314_0 : List AOper :=
  [⟨.move .take (.t 0), (some 5), none⟩,
    ⟨.move .look (.p 1), (some 6), none⟩,
    ⟨.convInt .u8 (.p 6), (some 7), none⟩,
    ⟨.move .look (.p 1), (some 8), none⟩,
    ⟨.bin .shr 1 true (.p 8) (.c (.int .u64 8)), (some 9), none⟩,
    ⟨.convInt .u8 (.p 9), (some 10), none⟩,
    ⟨.move .look (.p 1), (some 11), none⟩,
    ⟨.bin .shr 1 true (.p 11) (.c (.int .u64 16)), (some 12), none⟩,
    ⟨.convInt .u8 (.p 12), (some 13), none⟩,
    ⟨.move .look (.p 1), (some 14), none⟩,
    ⟨.bin .shr 1 true (.p 14) (.c (.int .u64 24)), (some 15), none⟩,
    ⟨.convInt .u8 (.p 15), (some 16), none⟩,
    ⟨.buildSl 5 1 [.int .u8 0, .int .u8 0, .int .u8 0, .int .u8 0] [(0, 1, .p 7), (1, 1, .p 10), (2, 1, .p 13), (3, 1, .p 16)], (some 17), none⟩,
    ⟨.append 5 1 1 false (.t 5) (.p 17), (some 18), none⟩,
    ⟨.assign (.t 18), (some 4), none⟩]
@[simp] def eq314_0 := id q314_0.eq_1
def k314_0 : ACode :=
  .ops q314_0 .ret
@[simp] theorem xk314_0 : GoC fns Q s k314_0 st ↔ GoO fns Q s q314_0 .ret st := goC_ops
def k314_1 : ACode :=
  .ops [⟨.assign (.c (.slice .nil 0 1 [])), (some 4), none⟩] k314_0
@[simp] theorem xk314_1 : GoC fns Q s k314_1 st ↔ GoO fns Q s [⟨.assign (.c (.slice .nil 0 1 [])), (some 4), none⟩] k314_0 st := goC_ops
def af314 : AFunc := ⟨19, k314_1, [.tmp 4], fun _ => none⟩

theorem ok314 : ∃ hs, pFunc Tryz.prog sg hs Tryz.f314 = some af314 := ⟨fun i => 0, by kernel_rfl⟩
def q300_0 : List AOper :=
  [⟨.move .take (.t 0), (some 5), none⟩,
    ⟨.move .look (.p 1), (some 6), none⟩,
    ⟨.call 314 [(.t 5, true), (.p 6, false)], (some 7), none⟩,
    ⟨.assign (.t 7), (some 4), none⟩]
@[simp] def eq300_0 := id q300_0.eq_1
def k300_0 : ACode :=
  .ops q300_0 .ret
@[simp] theorem xk300_0 : GoC fns Q s k300_0 st ↔ GoO fns Q s q300_0 .ret st := goC_ops
def k300_1 : ACode :=
  .ops [⟨.assign (.c (.slice .nil 0 1 [])), (some 4), none⟩] k300_0
@[simp] theorem xk300_1 : GoC fns Q s k300_1 st ↔ GoO fns Q s [⟨.assign (.c (.slice .nil 0 1 [])), (some 4), none⟩] k300_0 st := goC_ops
def af300 : AFunc := ⟨8, k300_1, [.tmp 4], fun _ => none⟩

theorem ok300 : ∃ hs, pFunc Tryz.prog sg hs Tryz.f300 = some af300 := ⟨fun i => 0, by kernel_rfl⟩
def q248_0 : List AOper :=
  [⟨.move .take (.t 0), (some 7), none⟩,
    ⟨.move .look (.p 1), (some 8), none⟩,
    ⟨.call 232 [(.t 7, true), (.c (.int .u8 16), false), (.p 8, false)], (some 9), none⟩,
    ⟨.move .look (.p 2), (some 10), none⟩,
    ⟨.call 300 [(.t 9, true), (.p 10, false)], (some 11), none⟩,
    ⟨.assign (.t 11), (some 6), none⟩]
@[simp] def eq248_0 := id q248_0.eq_1
def k248_0 : ACode :=
  .ops q248_0 .ret
@[simp] theorem xk248_0 : GoC fns Q s k248_0 st ↔ GoO fns Q s q248_0 .ret st := goC_ops
def k248_1 : ACode :=
  .ops [⟨.assign (.c (.slice .nil 0 1 [])), (some 6), none⟩] k248_0
@[simp] theorem xk248_1 : GoC fns Q s k248_1 st ↔ GoO fns Q s [⟨.assign (.c (.slice .nil 0 1 [])), (some 6), none⟩] k248_0 st := goC_ops
def af248 : AFunc := ⟨12, k248_1, [.tmp 6], fun _ => none⟩

theorem ok248 : ∃ hs, pFunc Tryz.prog sg hs Tryz.f248 = some af248 := ⟨fun i => 0, by kernel_rfl⟩
def q201_0 : List AOper :=
  [⟨.move .take (.p 0), (some 17), none⟩,
    ⟨.assign (.p 17), (some 6), none⟩]
@[simp] def eq201_0 := id q201_0.eq_1
def q201_1 : List AOper :=
  [⟨.move .look (.p 0), (some 7), none⟩,
    ⟨.move .look (.p 0), (some 8), none⟩,
    ⟨.nilCheck (.p 8), (some 9), none⟩,
    ⟨.fieldAddr 0 (.p 9), (some 10), none⟩,
    ⟨.load .take false 1 (.p 10), (some 11), none⟩,
    ⟨.move .look (.p 1), (some 12), none⟩,
    ⟨.move .look (.p 2), (some 13), none⟩,
    ⟨.call 248 [(.t 11, true), (.p 12, false), (.p 13, false)], (some 14), none⟩,
    ⟨.nilCheck (.p 7), (some 15), none⟩,
    ⟨.fieldAddr 0 (.p 15), (some 16), none⟩,
    ⟨.store 1 (.p 16) (.t 14), none, none⟩]
@[simp] def eq201_1 := id q201_1.eq_1
def k201_0 : ACode :=
  .ops q201_0 .ret
@[simp] theorem xk201_0 : GoC fns Q s k201_0 st ↔ GoO fns Q s q201_0 .ret st := goC_ops
def k201_1 : ACode :=
  .ops q201_1 k201_0
@[simp] theorem xk201_1 : GoC fns Q s k201_1 st ↔ GoO fns Q s q201_1 k201_0 st := goC_ops
def k201_2 : ACode :=
  .ops [⟨.assign (.c (.nilptr)), (some 6), none⟩] k201_1
@[simp] theorem xk201_2 : GoC fns Q s k201_2 st ↔ GoO fns Q s [⟨.assign (.c (.nilptr)), (some 6), none⟩] k201_1 st := goC_ops
def af201 : AFunc := ⟨18, k201_2, [.tmp 6], fun _ => none⟩

theorem ok201 : ∃ hs, pFunc Tryz.prog sg hs Tryz.f201 = some af201 := ⟨fun i => 0, by kernel_rfl⟩
def q142_0 : List AOper :=
  [⟨.bin .add 1 true (.p 9) (.c (.int .i64 1)), (some 205), none⟩,
    ⟨.move .look (.p 205), (some 9), none⟩]
@[simp] def eq142_0 := id q142_0.eq_1
def q142_1 : List AOper :=
  [⟨.move .look (.p 0), (some 19), none⟩,
    ⟨.fieldAddr 0 (.p 5), (some 20), none⟩,
    ⟨.load .look false 1 (.p 20), (some 21), none⟩,
    ⟨.fieldAddr 4 (.p 6), (some 22), none⟩,
    ⟨.load .look false 1 (.p 22), (some 23), none⟩,
    ⟨.px (.fb 1) [.p 23], (some 24), none⟩,
    ⟨.call 181 [(.p 19, false), (.p 21, false), (.p 24, false)], (some 25), none⟩]
@[simp] def eq142_1 := id q142_1.eq_1
def q142_2 : List AOper :=
  [⟨.move .look (.p 0), (some 28), none⟩,
    ⟨.fieldAddr 0 (.p 5), (some 29), none⟩,
    ⟨.load .look false 1 (.p 29), (some 30), none⟩,
    ⟨.fieldAddr 1 (.p 6), (some 31), none⟩,
    ⟨.load .look false 1 (.p 31), (some 32), none⟩,
    ⟨.call 183 [(.p 28, false), (.p 30, false), (.p 32, false)], (some 33), none⟩]
@[simp] def eq142_2 := id q142_2.eq_1
def q142_3 : List AOper :=
  [⟨.move .look (.p 0), (some 44), none⟩,
    ⟨.call 185 [(.p 44, false)], (some 45), none⟩]
@[simp] def eq142_3 := id q142_3.eq_1
def q142_4 : List AOper :=
  [⟨.move .look (.p 0), (some 40), none⟩,
    ⟨.fieldAddr 7 (.p 6), (some 41), none⟩,
    ⟨.load .look false 1 (.p 41), (some 42), none⟩,
    ⟨.hcall 142 [(.p 40, false), (.t 42, false)], (some 43), none⟩]
@[simp] def eq142_4 := id q142_4.eq_1
def q142_5 : List AOper :=
  [⟨.move .look (.p 0), (some 36), none⟩,
    ⟨.fieldAddr 0 (.p 5), (some 37), none⟩,
    ⟨.load .look false 1 (.p 37), (some 38), none⟩,
    ⟨.call 184 [(.p 36, false), (.p 38, false)], (some 39), none⟩]
@[simp] def eq142_5 := id q142_5.eq_1
def q142_6 : List AOper :=
  [⟨.move .look (.p 0), (some 48), none⟩,
    ⟨.fieldAddr 0 (.p 5), (some 49), none⟩,
    ⟨.load .look false 1 (.p 49), (some 50), none⟩,
    ⟨.fieldAddr 7 (.p 6), (some 51), none⟩,
    ⟨.load .look false 1 (.p 51), (some 52), none⟩,
    ⟨.call 188 [(.t 52, false)], (some 53), none⟩,
    ⟨.call 187 [(.t 53, false)], (some 54), none⟩,
    ⟨.call 186 [(.p 48, false), (.p 50, false), (.t 54, false)], (some 55), none⟩]
@[simp] def eq142_6 := id q142_6.eq_1
def q142_7 : List AOper :=
  [⟨.move .look (.p 0), (some 58), none⟩,
    ⟨.fieldAddr 0 (.p 5), (some 59), none⟩,
    ⟨.load .look false 1 (.p 59), (some 60), none⟩,
    ⟨.fieldAddr 3 (.p 6), (some 61), none⟩,
    ⟨.load .look false 1 (.p 61), (some 62), none⟩,
    ⟨.convInt .u8 (.p 62), (some 63), none⟩,
    ⟨.fieldAddr 6 (.p 6), (some 64), none⟩,
    ⟨.load .look false 1 (.p 64), (some 65), none⟩,
    ⟨.call 189 [(.p 58, false), (.p 60, false), (.p 63, false), (.t 65, false)], (some 66), none⟩]
@[simp] def eq142_7 := id q142_7.eq_1
def q142_8 : List AOper :=
  [⟨.move .look (.p 0), (some 69), none⟩,
    ⟨.fieldAddr 0 (.p 5), (some 70), none⟩,
    ⟨.load .look false 1 (.p 70), (some 71), none⟩,
    ⟨.call 190 [(.p 69, false), (.p 71, false)], (some 72), none⟩]
@[simp] def eq142_8 := id q142_8.eq_1
def q142_9 : List AOper :=
  [⟨.move .look (.p 0), (some 75), none⟩,
    ⟨.fieldAddr 0 (.p 5), (some 76), none⟩,
    ⟨.load .look false 1 (.p 76), (some 77), none⟩,
    ⟨.fieldAddr 6 (.p 6), (some 78), none⟩,
    ⟨.load .look false 1 (.p 78), (some 79), none⟩,
    ⟨.call 192 [(.t 79, false)], (some 80), none⟩,
    ⟨.call 191 [(.p 75, false), (.p 77, false), (.p 80, false)], (some 81), none⟩]
@[simp] def eq142_9 := id q142_9.eq_1
def q142_10 : List AOper :=
  [⟨.move .look (.p 0), (some 84), none⟩,
    ⟨.fieldAddr 0 (.p 5), (some 85), none⟩,
    ⟨.load .look false 1 (.p 85), (some 86), none⟩,
    ⟨.fieldAddr 3 (.p 6), (some 87), none⟩,
    ⟨.load .head false 1 (.p 87), (some 88), none⟩,
    ⟨.bin .neq 1 true (.p 88) (.c (.int .i64 0)), (some 89), none⟩,
    ⟨.call 193 [(.p 84, false), (.p 86, false), (.p 89, false)], (some 90), none⟩]
@[simp] def eq142_10 := id q142_10.eq_1
def q142_11 : List AOper :=
  [⟨.move .look (.p 0), (some 93), none⟩,
    ⟨.fieldAddr 0 (.p 5), (some 94), none⟩,
    ⟨.load .look false 1 (.p 94), (some 95), none⟩,
    ⟨.fieldAddr 3 (.p 6), (some 96), none⟩,
    ⟨.load .look false 1 (.p 96), (some 97), none⟩,
    ⟨.call 194 [(.p 93, false), (.p 95, false), (.p 97, false)], (some 98), none⟩]
@[simp] def eq142_11 := id q142_11.eq_1
def q142_12 : List AOper :=
  [⟨.move .look (.p 0), (some 101), none⟩,
    ⟨.fieldAddr 0 (.p 5), (some 102), none⟩,
    ⟨.load .look false 1 (.p 102), (some 103), none⟩,
    ⟨.call 195 [(.p 101, false), (.p 103, false)], (some 104), none⟩]
@[simp] def eq142_12 := id q142_12.eq_1
def q142_13 : List AOper :=
  [⟨.move .look (.p 0), (some 107), none⟩,
    ⟨.fieldAddr 0 (.p 5), (some 108), none⟩,
    ⟨.load .look false 1 (.p 108), (some 109), none⟩,
    ⟨.fieldAddr 1 (.p 6), (some 110), none⟩,
    ⟨.load .look false 1 (.p 110), (some 111), none⟩,
    ⟨.fieldAddr 2 (.p 6), (some 112), none⟩,
    ⟨.load .look false 1 (.p 112), (some 113), none⟩,
    ⟨.call 196 [(.p 107, false), (.p 109, false), (.p 111, false), (.p 113, false)], (some 114), none⟩]
@[simp] def eq142_13 := id q142_13.eq_1
def q142_14 : List AOper :=
  [⟨.move .look (.p 0), (some 117), none⟩,
    ⟨.fieldAddr 0 (.p 5), (some 118), none⟩,
    ⟨.load .look false 1 (.p 118), (some 119), none⟩,
    ⟨.fieldAddr 1 (.p 6), (some 120), none⟩,
    ⟨.load .look false 1 (.p 120), (some 121), none⟩,
    ⟨.fieldAddr 6 (.p 6), (some 122), none⟩,
    ⟨.load .look false 1 (.p 122), (some 123), none⟩,
    ⟨.call 192 [(.t 123, false)], (some 124), none⟩,
    ⟨.call 197 [(.p 117, false), (.p 119, false), (.p 121, false), (.p 124, false)], (some 125), none⟩]
@[simp] def eq142_14 := id q142_14.eq_1
def q142_15 : List AOper :=
  [⟨.move .look (.p 0), (some 128), none⟩,
    ⟨.fieldAddr 0 (.p 5), (some 129), none⟩,
    ⟨.load .look false 1 (.p 129), (some 130), none⟩,
    ⟨.fieldAddr 1 (.p 6), (some 131), none⟩,
    ⟨.load .look false 1 (.p 131), (some 132), none⟩,
    ⟨.call 198 [(.p 128, false), (.p 130, false), (.p 132, false)], (some 133), none⟩]
@[simp] def eq142_15 := id q142_15.eq_1
def q142_16 : List AOper :=
  [⟨.move .look (.p 0), (some 136), none⟩,
    ⟨.fieldAddr 0 (.p 5), (some 137), none⟩,
    ⟨.load .look false 1 (.p 137), (some 138), none⟩,
    ⟨.fieldAddr 1 (.p 6), (some 139), none⟩,
    ⟨.load .look false 1 (.p 139), (some 140), none⟩,
    ⟨.call 199 [(.p 136, false), (.p 138, false), (.p 140, false)], (some 141), none⟩]
@[simp] def eq142_16 := id q142_16.eq_1
def q142_17 : List AOper :=
  [⟨.move .look (.p 0), (some 144), none⟩,
    ⟨.fieldAddr 0 (.p 5), (some 145), none⟩,
    ⟨.load .look false 1 (.p 145), (some 146), none⟩,
    ⟨.fieldAddr 1 (.p 6), (some 147), none⟩,
    ⟨.load .look false 1 (.p 147), (some 148), none⟩,
    ⟨.fieldAddr 7 (.p 6), (some 149), none⟩,
    ⟨.load .look false 1 (.p 149), (some 150), none⟩,
    ⟨.call 56 [(.t 150, false)], (some 151), none⟩,
    ⟨.call 200 [(.p 144, false), (.p 146, false), (.p 148, false), (.t 151, false)], (some 152), none⟩]
@[simp] def eq142_17 := id q142_17.eq_1
def q142_18 : List AOper :=
  [⟨.move .look (.p 0), (some 155), none⟩,
    ⟨.fieldAddr 0 (.p 5), (some 156), none⟩,
    ⟨.load .look false 1 (.p 156), (some 157), none⟩,
    ⟨.fieldAddr 3 (.p 6), (some 158), none⟩,
    ⟨.load .look false 1 (.p 158), (some 159), none⟩,
    ⟨.convInt .i32 (.p 159), (some 160), none⟩,
    ⟨.hcall 201 [(.p 155, false), (.p 157, false), (.p 160, false)], (some 161), none⟩]
@[simp] def eq142_18 := id q142_18.eq_1
def q142_19 : List AOper :=
  [⟨.move .look (.p 0), (some 164), none⟩,
    ⟨.fieldAddr 0 (.p 5), (some 165), none⟩,
    ⟨.load .look false 1 (.p 165), (some 166), none⟩,
    ⟨.fieldAddr 4 (.p 6), (some 167), none⟩,
    ⟨.load .look false 1 (.p 167), (some 168), none⟩,
    ⟨.bin .shr 1 true (.p 168) (.c (.int .u64 32)), (some 169), none⟩,
    ⟨.convInt .u32 (.p 169), (some 170), none⟩,
    ⟨.fieldAddr 4 (.p 6), (some 171), none⟩,
    ⟨.load .look false 1 (.p 171), (some 172), none⟩,
    ⟨.convInt .u32 (.p 172), (some 173), none⟩,
    ⟨.call 202 [(.p 164, false), (.p 166, false), (.p 170, false), (.p 173, false)], (some 174), none⟩]
@[simp] def eq142_19 := id q142_19.eq_1
def q142_20 : List AOper :=
  [⟨.move .look (.p 0), (some 177), none⟩,
    ⟨.fieldAddr 0 (.p 5), (some 178), none⟩,
    ⟨.load .look false 1 (.p 178), (some 179), none⟩,
    ⟨.fieldAddr 3 (.p 6), (some 180), none⟩,
    ⟨.load .look false 1 (.p 180), (some 181), none⟩,
    ⟨.call 203 [(.p 177, false), (.p 179, false), (.p 181, false)], (some 182), none⟩]
@[simp] def eq142_20 := id q142_20.eq_1
def q142_21 : List AOper :=
  [⟨.move .look (.p 0), (some 185), none⟩,
    ⟨.fieldAddr 0 (.p 5), (some 186), none⟩,
    ⟨.load .look false 1 (.p 186), (some 187), none⟩,
    ⟨.fieldAddr 5 (.p 6), (some 188), none⟩,
    ⟨.load .look false 1 (.p 188), (some 189), none⟩,
    ⟨.fieldAddr 4 (.p 6), (some 190), none⟩,
    ⟨.load .look false 1 (.p 190), (some 191), none⟩,
    ⟨.call 204 [(.p 185, false), (.p 187, false), (.p 189, false), (.p 191, false)], (some 192), none⟩]
@[simp] def eq142_21 := id q142_21.eq_1
def q142_22 : List AOper :=
  [⟨.move .look (.p 0), (some 195), none⟩,
    ⟨.fieldAddr 0 (.p 5), (some 196), none⟩,
    ⟨.load .look false 1 (.p 196), (some 197), none⟩,
    ⟨.call 205 [(.p 195, false), (.p 197, false)], (some 198), none⟩]
@[simp] def eq142_22 := id q142_22.eq_1
def q142_23 : List AOper :=
  [⟨.move .look (.p 0), (some 201), none⟩,
    ⟨.fieldAddr 0 (.p 5), (some 202), none⟩,
    ⟨.load .look false 1 (.p 202), (some 203), none⟩,
    ⟨.call 206 [(.p 201, false), (.p 203, false)], (some 204), none⟩]
@[simp] def eq142_23 := id q142_23.eq_1
def q142_24 : List AOper :=
  [⟨.bin .eql 1 true (.p 16) (.c (.int .i64 255)), (some 200), none⟩,
    ⟨.assign (.p 200), (some 199), none⟩]
@[simp] def eq142_24 := id q142_24.eq_1
def q142_25 : List AOper :=
  [⟨.bin .eql 1 true (.p 16) (.c (.int .i64 127)), (some 194), none⟩,
    ⟨.assign (.p 194), (some 193), none⟩]
@[simp] def eq142_25 := id q142_25.eq_1
def q142_26 : List AOper :=
  [⟨.bin .eql 1 true (.p 16) (.c (.int .i64 19)), (some 184), none⟩,
    ⟨.assign (.p 184), (some 183), none⟩]
@[simp] def eq142_26 := id q142_26.eq_1
def q142_27 : List AOper :=
  [⟨.bin .eql 1 true (.p 16) (.c (.int .i64 18)), (some 176), none⟩,
    ⟨.assign (.p 176), (some 175), none⟩]
@[simp] def eq142_27 := id q142_27.eq_1
def q142_28 : List AOper :=
  [⟨.bin .eql 1 true (.p 16) (.c (.int .i64 17)), (some 163), none⟩,
    ⟨.assign (.p 163), (some 162), none⟩]
@[simp] def eq142_28 := id q142_28.eq_1
def q142_29 : List AOper :=
  [⟨.bin .eql 1 true (.p 16) (.c (.int .i64 16)), (some 154), none⟩,
    ⟨.assign (.p 154), (some 153), none⟩]
@[simp] def eq142_29 := id q142_29.eq_1
def q142_30 : List AOper :=
  [⟨.bin .eql 1 true (.p 16) (.c (.int .i64 15)), (some 143), none⟩,
    ⟨.assign (.p 143), (some 142), none⟩]
@[simp] def eq142_30 := id q142_30.eq_1
def q142_31 : List AOper :=
  [⟨.bin .eql 1 true (.p 16) (.c (.int .i64 14)), (some 135), none⟩,
    ⟨.assign (.p 135), (some 134), none⟩]
@[simp] def eq142_31 := id q142_31.eq_1
def q142_32 : List AOper :=
  [⟨.bin .eql 1 true (.p 16) (.c (.int .i64 13)), (some 127), none⟩,
    ⟨.assign (.p 127), (some 126), none⟩]
@[simp] def eq142_32 := id q142_32.eq_1
def q142_33 : List AOper :=
  [⟨.bin .eql 1 true (.p 16) (.c (.int .i64 12)), (some 116), none⟩,
    ⟨.assign (.p 116), (some 115), none⟩]
@[simp] def eq142_33 := id q142_33.eq_1
def q142_34 : List AOper :=
  [⟨.bin .eql 1 true (.p 16) (.c (.int .i64 11)), (some 106), none⟩,
    ⟨.assign (.p 106), (some 105), none⟩]
@[simp] def eq142_34 := id q142_34.eq_1
def q142_35 : List AOper :=
  [⟨.bin .eql 1 true (.p 16) (.c (.int .i64 10)), (some 100), none⟩,
    ⟨.assign (.p 100), (some 99), none⟩]
@[simp] def eq142_35 := id q142_35.eq_1
def q142_36 : List AOper :=
  [⟨.bin .eql 1 true (.p 16) (.c (.int .i64 9)), (some 92), none⟩,
    ⟨.assign (.p 92), (some 91), none⟩]
@[simp] def eq142_36 := id q142_36.eq_1
def q142_37 : List AOper :=
  [⟨.bin .eql 1 true (.p 16) (.c (.int .i64 8)), (some 83), none⟩,
    ⟨.assign (.p 83), (some 82), none⟩]
@[simp] def eq142_37 := id q142_37.eq_1
def q142_38 : List AOper :=
  [⟨.bin .eql 1 true (.p 16) (.c (.int .i64 7)), (some 74), none⟩,
    ⟨.assign (.p 74), (some 73), none⟩]
@[simp] def eq142_38 := id q142_38.eq_1
def q142_39 : List AOper :=
  [⟨.bin .eql 1 true (.p 16) (.c (.int .i64 6)), (some 68), none⟩,
    ⟨.assign (.p 68), (some 67), none⟩]
@[simp] def eq142_39 := id q142_39.eq_1
def q142_40 : List AOper :=
  [⟨.bin .eql 1 true (.p 16) (.c (.int .i64 5)), (some 57), none⟩,
    ⟨.assign (.p 57), (some 56), none⟩]
@[simp] def eq142_40 := id q142_40.eq_1
def q142_41 : List AOper :=
  [⟨.bin .eql 1 true (.p 16) (.c (.int .i64 4)), (some 47), none⟩,
    ⟨.assign (.p 47), (some 46), none⟩]
@[simp] def eq142_41 := id q142_41.eq_1
def q142_42 : List AOper :=
  [⟨.bin .eql 1 true (.p 16) (.c (.int .i64 3)), (some 35), none⟩,
    ⟨.assign (.p 35), (some 34), none⟩]
@[simp] def eq142_42 := id q142_42.eq_1
def q142_43 : List AOper :=
  [⟨.bin .eql 1 true (.p 16) (.c (.int .i64 2)), (some 27), none⟩,
    ⟨.assign (.p 27), (some 26), none⟩]
@[simp] def eq142_43 := id q142_43.eq_1
def q142_44 : List AOper :=
  [⟨.bin .eql 1 true (.p 16) (.c (.int .i64 1)), (some 18), none⟩,
    ⟨.assign (.p 18), (some 17), none⟩]
@[simp] def eq142_44 := id q142_44.eq_1
def q142_45 : List AOper :=
  [⟨.fieldAddr 0 (.p 6), (some 15), none⟩,
    ⟨.load .head false 1 (.p 15), (some 16), none⟩]
@[simp] def eq142_45 := id q142_45.eq_1
def q142_46 : List AOper :=
  [⟨.fieldAddr 1 (.p 5), (some 13), none⟩,
    ⟨.load .take true 8 (.p 13), (some 14), none⟩,
    ⟨.newbox 6 [.int .i64 0, .str [], .str [], .int .i64 0, .int .u64 0, .int .u64 0, .slice .nil 0 1 [], .slice .nil 0 1 []], (some 6), none⟩,
    ⟨.store 8 (.p 6) (.p 14), none, none⟩]
@[simp] def eq142_46 := id q142_46.eq_1
def q142_47 : List AOper :=
  [⟨.indexAddr 9 (.t 7) (.p 9), (some 11), none⟩,
    ⟨.load .take true 9 (.p 11), (some 12), none⟩,
    ⟨.newbox 5 [.str [], .int .i64 0, .str [], .str [], .int .i64 0, .int .u64 0, .int .u64 0, .slice .nil 0 1 [], .slice .nil 0 1 []], (some 5), none⟩,
    ⟨.store 9 (.p 5) (.p 12), none, none⟩]
@[simp] def eq142_47 := id q142_47.eq_1
def q142_48 : List AOper :=
  [⟨.move .look (.t 1), (some 7), none⟩,
    ⟨.len false (.p 7), (some 8), none⟩,
    ⟨.move .head (.c (.int .i64 0)), (some 9), none⟩]
@[simp] def eq142_48 := id q142_48.eq_1
def k142_0 : ACode :=
  .ops q142_0 .skip
@[simp] theorem xk142_0 : GoC fns Q s k142_0 st ↔ GoO fns Q s q142_0 .skip st := goC_ops
def k142_1 : ACode :=
  .ops q142_1 .skip
@[simp] theorem xk142_1 : GoC fns Q s k142_1 st ↔ GoO fns Q s q142_1 .skip st := goC_ops
def k142_2 : ACode :=
  .ops q142_2 .skip
@[simp] theorem xk142_2 : GoC fns Q s k142_2 st ↔ GoO fns Q s q142_2 .skip st := goC_ops
def k142_3 : ACode :=
  .ops q142_3 .skip
@[simp] theorem xk142_3 : GoC fns Q s k142_3 st ↔ GoO fns Q s q142_3 .skip st := goC_ops
def k142_4 : ACode :=
  .ops q142_4 k142_3
@[simp] theorem xk142_4 : GoC fns Q s k142_4 st ↔ GoO fns Q s q142_4 k142_3 st := goC_ops
def k142_5 : ACode :=
  .ops q142_5 k142_4
@[simp] theorem xk142_5 : GoC fns Q s k142_5 st ↔ GoO fns Q s q142_5 k142_4 st := goC_ops
def k142_6 : ACode :=
  .ops q142_6 .skip
@[simp] theorem xk142_6 : GoC fns Q s k142_6 st ↔ GoO fns Q s q142_6 .skip st := goC_ops
def k142_7 : ACode :=
  .ops q142_7 .skip
@[simp] theorem xk142_7 : GoC fns Q s k142_7 st ↔ GoO fns Q s q142_7 .skip st := goC_ops
def k142_8 : ACode :=
  .ops q142_8 .skip
@[simp] theorem xk142_8 : GoC fns Q s k142_8 st ↔ GoO fns Q s q142_8 .skip st := goC_ops
def k142_9 : ACode :=
  .ops q142_9 .skip
@[simp] theorem xk142_9 : GoC fns Q s k142_9 st ↔ GoO fns Q s q142_9 .skip st := goC_ops
def k142_10 : ACode :=
  .ops q142_10 .skip
@[simp] theorem xk142_10 : GoC fns Q s k142_10 st ↔ GoO fns Q s q142_10 .skip st := goC_ops
def k142_11 : ACode :=
  .ops q142_11 .skip
@[simp] theorem xk142_11 : GoC fns Q s k142_11 st ↔ GoO fns Q s q142_11 .skip st := goC_ops
def k142_12 : ACode :=
  .ops q142_12 .skip
@[simp] theorem xk142_12 : GoC fns Q s k142_12 st ↔ GoO fns Q s q142_12 .skip st := goC_ops
def k142_13 : ACode :=
  .ops q142_13 .skip
@[simp] theorem xk142_13 : GoC fns Q s k142_13 st ↔ GoO fns Q s q142_13 .skip st := goC_ops
def k142_14 : ACode :=
  .ops q142_14 .skip
@[simp] theorem xk142_14 : GoC fns Q s k142_14 st ↔ GoO fns Q s q142_14 .skip st := goC_ops
def k142_15 : ACode :=
  .ops q142_15 .skip
@[simp] theorem xk142_15 : GoC fns Q s k142_15 st ↔ GoO fns Q s q142_15 .skip st := goC_ops
def k142_16 : ACode :=
  .ops q142_16 .skip
@[simp] theorem xk142_16 : GoC fns Q s k142_16 st ↔ GoO fns Q s q142_16 .skip st := goC_ops
def k142_17 : ACode :=
  .ops q142_17 .skip
@[simp] theorem xk142_17 : GoC fns Q s k142_17 st ↔ GoO fns Q s q142_17 .skip st := goC_ops
def k142_18 : ACode :=
  .ops q142_18 .skip
@[simp] theorem xk142_18 : GoC fns Q s k142_18 st ↔ GoO fns Q s q142_18 .skip st := goC_ops
def k142_19 : ACode :=
  .ops q142_19 .skip
@[simp] theorem xk142_19 : GoC fns Q s k142_19 st ↔ GoO fns Q s q142_19 .skip st := goC_ops
def k142_20 : ACode :=
  .ops q142_20 .skip
@[simp] theorem xk142_20 : GoC fns Q s k142_20 st ↔ GoO fns Q s q142_20 .skip st := goC_ops
def k142_21 : ACode :=
  .ops q142_21 .skip
@[simp] theorem xk142_21 : GoC fns Q s k142_21 st ↔ GoO fns Q s q142_21 .skip st := goC_ops
def k142_22 : ACode :=
  .ops q142_22 .skip
@[simp] theorem xk142_22 : GoC fns Q s k142_22 st ↔ GoO fns Q s q142_22 .skip st := goC_ops
def k142_23 : ACode :=
  .ops q142_23 .skip
@[simp] theorem xk142_23 : GoC fns Q s k142_23 st ↔ GoO fns Q s q142_23 .skip st := goC_ops
def k142_24 : ACode :=
  .cond (.p 199) k142_23 .skip
@[simp] theorem xk142_24 : GoC fns Q s k142_24 st ↔ GB fns Q s (peek st (.p 199)) k142_23 .skip st := goC_cond
def k142_25 : ACode :=
  .ops q142_24 k142_24
@[simp] theorem xk142_25 : GoC fns Q s k142_25 st ↔ GoO fns Q s q142_24 k142_24 st := goC_ops
def k142_26 : ACode :=
  .cond (.p 193) k142_22 k142_25
@[simp] theorem xk142_26 : GoC fns Q s k142_26 st ↔ GB fns Q s (peek st (.p 193)) k142_22 k142_25 st := goC_cond
def k142_27 : ACode :=
  .ops q142_25 k142_26
@[simp] theorem xk142_27 : GoC fns Q s k142_27 st ↔ GoO fns Q s q142_25 k142_26 st := goC_ops
def k142_28 : ACode :=
  .cond (.p 183) k142_21 k142_27
@[simp] theorem xk142_28 : GoC fns Q s k142_28 st ↔ GB fns Q s (peek st (.p 183)) k142_21 k142_27 st := goC_cond
def k142_29 : ACode :=
  .ops q142_26 k142_28
@[simp] theorem xk142_29 : GoC fns Q s k142_29 st ↔ GoO fns Q s q142_26 k142_28 st := goC_ops
def k142_30 : ACode :=
  .cond (.p 175) k142_20 k142_29
@[simp] theorem xk142_30 : GoC fns Q s k142_30 st ↔ GB fns Q s (peek st (.p 175)) k142_20 k142_29 st := goC_cond
def k142_31 : ACode :=
  .ops q142_27 k142_30
@[simp] theorem xk142_31 : GoC fns Q s k142_31 st ↔ GoO fns Q s q142_27 k142_30 st := goC_ops
def k142_32 : ACode :=
  .cond (.p 162) k142_19 k142_31
@[simp] theorem xk142_32 : GoC fns Q s k142_32 st ↔ GB fns Q s (peek st (.p 162)) k142_19 k142_31 st := goC_cond
def k142_33 : ACode :=
  .ops q142_28 k142_32
@[simp] theorem xk142_33 : GoC fns Q s k142_33 st ↔ GoO fns Q s q142_28 k142_32 st := goC_ops
def k142_34 : ACode :=
  .cond (.p 153) k142_18 k142_33
@[simp] theorem xk142_34 : GoC fns Q s k142_34 st ↔ GB fns Q s (peek st (.p 153)) k142_18 k142_33 st := goC_cond
def k142_35 : ACode :=
  .ops q142_29 k142_34
@[simp] theorem xk142_35 : GoC fns Q s k142_35 st ↔ GoO fns Q s q142_29 k142_34 st := goC_ops
def k142_36 : ACode :=
  .cond (.p 142) k142_17 k142_35
@[simp] theorem xk142_36 : GoC fns Q s k142_36 st ↔ GB fns Q s (peek st (.p 142)) k142_17 k142_35 st := goC_cond
def k142_37 : ACode :=
  .ops q142_30 k142_36
@[simp] theorem xk142_37 : GoC fns Q s k142_37 st ↔ GoO fns Q s q142_30 k142_36 st := goC_ops
def k142_38 : ACode :=
  .cond (.p 134) k142_16 k142_37
@[simp] theorem xk142_38 : GoC fns Q s k142_38 st ↔ GB fns Q s (peek st (.p 134)) k142_16 k142_37 st := goC_cond
def k142_39 : ACode :=
  .ops q142_31 k142_38
@[simp] theorem xk142_39 : GoC fns Q s k142_39 st ↔ GoO fns Q s q142_31 k142_38 st := goC_ops
def k142_40 : ACode :=
  .cond (.p 126) k142_15 k142_39
@[simp] theorem xk142_40 : GoC fns Q s k142_40 st ↔ GB fns Q s (peek st (.p 126)) k142_15 k142_39 st := goC_cond
def k142_41 : ACode :=
  .ops q142_32 k142_40
@[simp] theorem xk142_41 : GoC fns Q s k142_41 st ↔ GoO fns Q s q142_32 k142_40 st := goC_ops
def k142_42 : ACode :=
  .cond (.p 115) k142_14 k142_41
@[simp] theorem xk142_42 : GoC fns Q s k142_42 st ↔ GB fns Q s (peek st (.p 115)) k142_14 k142_41 st := goC_cond
def k142_43 : ACode :=
  .ops q142_33 k142_42
@[simp] theorem xk142_43 : GoC fns Q s k142_43 st ↔ GoO fns Q s q142_33 k142_42 st := goC_ops
def k142_44 : ACode :=
  .cond (.p 105) k142_13 k142_43
@[simp] theorem xk142_44 : GoC fns Q s k142_44 st ↔ GB fns Q s (peek st (.p 105)) k142_13 k142_43 st := goC_cond
def k142_45 : ACode :=
  .ops q142_34 k142_44
@[simp] theorem xk142_45 : GoC fns Q s k142_45 st ↔ GoO fns Q s q142_34 k142_44 st := goC_ops
def k142_46 : ACode :=
  .cond (.p 99) k142_12 k142_45
@[simp] theorem xk142_46 : GoC fns Q s k142_46 st ↔ GB fns Q s (peek st (.p 99)) k142_12 k142_45 st := goC_cond
def k142_47 : ACode :=
  .ops q142_35 k142_46
@[simp] theorem xk142_47 : GoC fns Q s k142_47 st ↔ GoO fns Q s q142_35 k142_46 st := goC_ops
def k142_48 : ACode :=
  .cond (.p 91) k142_11 k142_47
@[simp] theorem xk142_48 : GoC fns Q s k142_48 st ↔ GB fns Q s (peek st (.p 91)) k142_11 k142_47 st := goC_cond
def k142_49 : ACode :=
  .ops q142_36 k142_48
@[simp] theorem xk142_49 : GoC fns Q s k142_49 st ↔ GoO fns Q s q142_36 k142_48 st := goC_ops
def k142_50 : ACode :=
  .cond (.p 82) k142_10 k142_49
@[simp] theorem xk142_50 : GoC fns Q s k142_50 st ↔ GB fns Q s (peek st (.p 82)) k142_10 k142_49 st := goC_cond
def k142_51 : ACode :=
  .ops q142_37 k142_50
@[simp] theorem xk142_51 : GoC fns Q s k142_51 st ↔ GoO fns Q s q142_37 k142_50 st := goC_ops
def k142_52 : ACode :=
  .cond (.p 73) k142_9 k142_51
@[simp] theorem xk142_52 : GoC fns Q s k142_52 st ↔ GB fns Q s (peek st (.p 73)) k142_9 k142_51 st := goC_cond
def k142_53 : ACode :=
  .ops q142_38 k142_52
@[simp] theorem xk142_53 : GoC fns Q s k142_53 st ↔ GoO fns Q s q142_38 k142_52 st := goC_ops
def k142_54 : ACode :=
  .cond (.p 67) k142_8 k142_53
@[simp] theorem xk142_54 : GoC fns Q s k142_54 st ↔ GB fns Q s (peek st (.p 67)) k142_8 k142_53 st := goC_cond
def k142_55 : ACode :=
  .ops q142_39 k142_54
@[simp] theorem xk142_55 : GoC fns Q s k142_55 st ↔ GoO fns Q s q142_39 k142_54 st := goC_ops
def k142_56 : ACode :=
  .cond (.p 56) k142_7 k142_55
@[simp] theorem xk142_56 : GoC fns Q s k142_56 st ↔ GB fns Q s (peek st (.p 56)) k142_7 k142_55 st := goC_cond
def k142_57 : ACode :=
  .ops q142_40 k142_56
@[simp] theorem xk142_57 : GoC fns Q s k142_57 st ↔ GoO fns Q s q142_40 k142_56 st := goC_ops
def k142_58 : ACode :=
  .cond (.p 46) k142_6 k142_57
@[simp] theorem xk142_58 : GoC fns Q s k142_58 st ↔ GB fns Q s (peek st (.p 46)) k142_6 k142_57 st := goC_cond
def k142_59 : ACode :=
  .ops q142_41 k142_58
@[simp] theorem xk142_59 : GoC fns Q s k142_59 st ↔ GoO fns Q s q142_41 k142_58 st := goC_ops
def k142_60 : ACode :=
  .cond (.p 34) k142_5 k142_59
@[simp] theorem xk142_60 : GoC fns Q s k142_60 st ↔ GB fns Q s (peek st (.p 34)) k142_5 k142_59 st := goC_cond
def k142_61 : ACode :=
  .ops q142_42 k142_60
@[simp] theorem xk142_61 : GoC fns Q s k142_61 st ↔ GoO fns Q s q142_42 k142_60 st := goC_ops
def k142_62 : ACode :=
  .cond (.p 26) k142_2 k142_61
@[simp] theorem xk142_62 : GoC fns Q s k142_62 st ↔ GB fns Q s (peek st (.p 26)) k142_2 k142_61 st := goC_cond
def k142_63 : ACode :=
  .ops q142_43 k142_62
@[simp] theorem xk142_63 : GoC fns Q s k142_63 st ↔ GoO fns Q s q142_43 k142_62 st := goC_ops
def k142_64 : ACode :=
  .cond (.p 17) k142_1 k142_63
@[simp] theorem xk142_64 : GoC fns Q s k142_64 st ↔ GB fns Q s (peek st (.p 17)) k142_1 k142_63 st := goC_cond
def k142_65 : ACode :=
  .ops q142_44 k142_64
@[simp] theorem xk142_65 : GoC fns Q s k142_65 st ↔ GoO fns Q s q142_44 k142_64 st := goC_ops
def k142_66 : ACode :=
  .block 2 k142_65
@[simp] theorem xk142_66 : GoC fns Q s k142_66 st ↔ GoC fns Q (.bl 2 :: s) k142_65 st := goC_block
def k142_67 : ACode :=
  .ops q142_45 k142_66
@[simp] theorem xk142_67 : GoC fns Q s k142_67 st ↔ GoO fns Q s q142_45 k142_66 st := goC_ops
def k142_68 : ACode :=
  .ops q142_46 k142_67
@[simp] theorem xk142_68 : GoC fns Q s k142_68 st ↔ GoO fns Q s q142_46 k142_67 st := goC_ops
def k142_69 : ACode :=
  .ops q142_47 k142_68
@[simp] theorem xk142_69 : GoC fns Q s k142_69 st ↔ GoO fns Q s q142_47 k142_68 st := goC_ops
def k142_70 : ACode :=
  .block 1 k142_69
@[simp] theorem xk142_70 : GoC fns Q s k142_70 st ↔ GoC fns Q (.bl 1 :: s) k142_69 st := goC_block
def k142_71 : ACode :=
  .seq k142_70 k142_0
@[simp] theorem xk142_71 : GoC fns Q s k142_71 st ↔ GoC fns Q (.sq k142_0 :: s) k142_70 st := goC_seq
def k142_72 : ACode :=
  .cond (.p 10) .skip (.exit 0)
@[simp] theorem xk142_72 : GoC fns Q s k142_72 st ↔ GB fns Q s (peek st (.p 10)) .skip (.exit 0) st := goC_cond
def k142_73 : ACode :=
  .seq k142_72 k142_71
@[simp] theorem xk142_73 : GoC fns Q s k142_73 st ↔ GoC fns Q (.sq k142_71 :: s) k142_72 st := goC_seq
def k142_74 : ACode :=
  .ops [⟨.bin .lss 1 false (.p 9) (.p 8), (some 10), none⟩] k142_73
@[simp] theorem xk142_74 : GoC fns Q s k142_74 st ↔ GoO fns Q s [⟨.bin .lss 1 false (.p 9) (.p 8), (some 10), none⟩] k142_73 st := goC_ops
def lc142_0 : ACode :=
  k142_74
@[simp] theorem xlc142_0 : GoC fns Q s lc142_0 st ↔ GoC fns Q s k142_74 st := Iff.rfl
def k142_76 : ACode :=
  .loop lc142_0
@[simp] theorem xk142_76 : GoC fns Q s k142_76 st ↔ (LoopR fns lc142_0 st fun r => GoE fns Q s r.1 r.2) := goC_loop
def k142_77 : ACode :=
  .block 0 k142_76
@[simp] theorem xk142_77 : GoC fns Q s k142_77 st ↔ GoC fns Q (.bl 0 :: s) k142_76 st := goC_block
def k142_78 : ACode :=
  .seq k142_77 .ret
@[simp] theorem xk142_78 : GoC fns Q s k142_78 st ↔ GoC fns Q (.sq .ret :: s) k142_77 st := goC_seq
def k142_79 : ACode :=
  .ops q142_48 k142_78
@[simp] theorem xk142_79 : GoC fns Q s k142_79 st ↔ GoO fns Q s q142_48 k142_78 st := goC_ops
def af142 : AFunc := ⟨206, k142_79, [], fun _ => none⟩

theorem ok142 : ∃ hs, pFunc Tryz.prog sg hs Tryz.f142 = some af142 := ⟨fun i => if i == 7 then 5 else 0, by kernel_rfl⟩
def q173_0 : List AOper :=
  [⟨.move .look (.p 0), (some 3), none⟩,
    ⟨.build [.str []] [(0, 1, .p 3)], (some 4), none⟩,
    ⟨.boxobj (.p 4), (some 5), none⟩,
    ⟨.mkIface 298 (.p 5), (some 6), none⟩,
    ⟨.assign (.p 6), (some 2), none⟩]
@[simp] def eq173_0 := id q173_0.eq_1
def k173_0 : ACode :=
  .ops q173_0 .ret
@[simp] theorem xk173_0 : GoC fns Q s k173_0 st ↔ GoO fns Q s q173_0 .ret st := goC_ops
def k173_1 : ACode :=
  .ops [⟨.assign (.c (.nilI)), (some 2), none⟩] k173_0
@[simp] theorem xk173_1 : GoC fns Q s k173_1 st ↔ GoO fns Q s [⟨.assign (.c (.nilI)), (some 2), none⟩] k173_0 st := goC_ops
def af173 : AFunc := ⟨7, k173_1, [.tmp 2], fun _ => none⟩

theorem ok173 : ∃ hs, pFunc Tryz.prog sg hs Tryz.f173 = some af173 := ⟨fun i => if i == 5 then 1 else 0, by kernel_rfl⟩
def q304_0 : List AOper :=
  [⟨.move .look (.m 1), (some 23), none⟩,
    ⟨.move .look (.p 2), (some 24), none⟩,
    ⟨.bin .shr 1 true (.p 24) (.c (.int .u64 24)), (some 25), none⟩,
    ⟨.convInt .u8 (.p 25), (some 26), none⟩,
    ⟨.indexAddr 1 (.m 23) (.c (.int .i64 3)), (some 27), none⟩,
    ⟨.store 1 (.p 27) (.p 26), none, none⟩]
@[simp] def eq304_0 := id q304_0.eq_1
def q304_1 : List AOper :=
  [⟨.move .look (.m 1), (some 18), none⟩,
    ⟨.move .look (.p 2), (some 19), none⟩,
    ⟨.bin .shr 1 true (.p 19) (.c (.int .u64 16)), (some 20), none⟩,
    ⟨.convInt .u8 (.p 20), (some 21), none⟩,
    ⟨.indexAddr 1 (.m 18) (.c (.int .i64 2)), (some 22), none⟩,
    ⟨.store 1 (.p 22) (.p 21), none, none⟩]
@[simp] def eq304_1 := id q304_1.eq_1
def q304_2 : List AOper :=
  [⟨.move .look (.m 1), (some 13), none⟩,
    ⟨.move .look (.p 2), (some 14), none⟩,
    ⟨.bin .shr 1 true (.p 14) (.c (.int .u64 8)), (some 15), none⟩,
    ⟨.convInt .u8 (.p 15), (some 16), none⟩,
    ⟨.indexAddr 1 (.m 13) (.c (.int .i64 1)), (some 17), none⟩,
    ⟨.store 1 (.p 17) (.p 16), none, none⟩]
@[simp] def eq304_2 := id q304_2.eq_1
def q304_3 : List AOper :=
  [⟨.move .look (.m 1), (some 9), none⟩,
    ⟨.move .look (.p 2), (some 10), none⟩,
    ⟨.convInt .u8 (.p 10), (some 11), none⟩,
    ⟨.indexAddr 1 (.m 9) (.c (.int .i64 0)), (some 12), none⟩,
    ⟨.store 1 (.p 12) (.p 11), none, none⟩]
@[simp] def eq304_3 := id q304_3.eq_1
def q304_4 : List AOper :=
  [⟨.move .look (.t 1), (some 6), none⟩,
    ⟨.indexAddr 1 (.t 6) (.c (.int .i64 3)), (some 7), none⟩,
    ⟨.load .head false 1 (.p 7), (some 8), none⟩]
@[simp] def eq304_4 := id q304_4.eq_1
def k304_0 : ACode :=
  .ops q304_0 .ret
@[simp] theorem xk304_0 : GoC fns Q s k304_0 st ↔ GoO fns Q s q304_0 .ret st := goC_ops
def k304_1 : ACode :=
  .ops q304_1 k304_0
@[simp] theorem xk304_1 : GoC fns Q s k304_1 st ↔ GoO fns Q s q304_1 k304_0 st := goC_ops
def k304_2 : ACode :=
  .ops q304_2 k304_1
@[simp] theorem xk304_2 : GoC fns Q s k304_2 st ↔ GoO fns Q s q304_2 k304_1 st := goC_ops
def k304_3 : ACode :=
  .ops q304_3 k304_2
@[simp] theorem xk304_3 : GoC fns Q s k304_3 st ↔ GoO fns Q s q304_3 k304_2 st := goC_ops
def k304_4 : ACode :=
  .ops q304_4 k304_3
@[simp] theorem xk304_4 : GoC fns Q s k304_4 st ↔ GoO fns Q s q304_4 k304_3 st := goC_ops
def k304_5 : ACode :=
  .ops [⟨.box 3 (.p 0), (some 3), none⟩] k304_4
@[simp] theorem xk304_5 : GoC fns Q s k304_5 st ↔ GoO fns Q s [⟨.box 3 (.p 0), (some 3), none⟩] k304_4 st := goC_ops
def af304 : AFunc := ⟨28, k304_5, [], fun _ => none⟩

theorem ok304 : ∃ hs, pFunc Tryz.prog sg hs Tryz.f304 = some af304 := ⟨fun i => if i == 9 then 1 else if i == 12 then 1 else if i == 13 then 1 else if i == 17 then 1 else if i == 18 then 1 else if i == 22 then 1 else if i == 23 then 1 else if i == 27 then 1 else 0, by kernel_rfl⟩
def q254_0 : List AOper :=
  [⟨.move .take (.t 0), (some 14), none⟩,
    ⟨.assign (.t 14), (some 6), none⟩]
@[simp] def eq254_0 := id q254_0.eq_1
def q254_1 : List AOper :=
  [⟨.load .look true 0 (.c (.gl 6)), (some 7), none⟩,
    ⟨.move .look (.m 0), (some 8), none⟩,
    ⟨.move .head (.p 1), (some 9), none⟩,
    ⟨.sliceSl 1 (.m 8) (some (.p 9)) none, (some 10), none⟩,
    ⟨.move .look (.p 2), (some 11), none⟩,
    ⟨.convInt .u32 (.p 11), (some 12), none⟩,
    ⟨.hcall 304 [(.p 7, false), (.m 10, false), (.p 12, false)], (some 13), none⟩]
@[simp] def eq254_1 := id q254_1.eq_1
def k254_0 : ACode :=
  .ops q254_0 .ret
@[simp] theorem xk254_0 : GoC fns Q s k254_0 st ↔ GoO fns Q s q254_0 .ret st := goC_ops
def k254_1 : ACode :=
  .ops q254_1 k254_0
@[simp] theorem xk254_1 : GoC fns Q s k254_1 st ↔ GoO fns Q s q254_1 k254_0 st := goC_ops
def k254_2 : ACode :=
  .ops [⟨.assign (.c (.slice .nil 0 1 [])), (some 6), none⟩] k254_1
@[simp] theorem xk254_2 : GoC fns Q s k254_2 st ↔ GoO fns Q s [⟨.assign (.c (.slice .nil 0 1 [])), (some 6), none⟩] k254_1 st := goC_ops
def af254 : AFunc := ⟨15, k254_2, [.tmp 6], fun _ => none⟩

theorem ok254 : ∃ hs, pFunc Tryz.prog sg hs Tryz.f254 = some af254 := ⟨fun i => if i == 8 then 1 else if i == 10 then 1 else 0, by kernel_rfl⟩
def q207_0 : List AOper :=
  [⟨.move .take (.t 0), (some 25), none⟩,
    ⟨.assign (.t 25), (some 4), none⟩,
    ⟨.assign (.c (.nilI)), (some 5), none⟩]
@[simp] def eq207_0 := id q207_0.eq_1
def q207_1 : List AOper :=
  [⟨.move .take (.t 0), (some 17), none⟩,
    ⟨.move .look (.p 1), (some 18), none⟩,
    ⟨.move .head (.t 0), (some 19), none⟩,
    ⟨.move .head (.p 1), (some 20), none⟩,
    ⟨.sliceSl 1 (.t 19) (some (.p 20)) none, (some 21), none⟩,
    ⟨.len false (.p 21), (some 22), none⟩,
    ⟨.convInt .i32 (.p 22), (some 23), none⟩,
    ⟨.call 254 [(.t 17, true), (.p 18, false), (.p 23, false)], (some 24), none⟩,
    ⟨.assign (.t 24), (some 0), none⟩]
@[simp] def eq207_1 := id q207_1.eq_1
def q207_2 : List AOper :=
  [⟨.move .take (.t 0), (some 14), none⟩,
    ⟨.buildSl 5 1 [.int .u8 0] [(0, 1, .c (.int .u8 0))], (some 15), none⟩,
    ⟨.append 5 1 1 false (.t 14) (.p 15), (some 16), none⟩,
    ⟨.assign (.t 16), (some 0), none⟩]
@[simp] def eq207_2 := id q207_2.eq_1
def q207_3 : List AOper :=
  [⟨.move .take (.t 0), (some 12), none⟩,
    ⟨.hcall 173 [(.c (.str [110, 111, 116, 32, 101, 110, 111, 117, 103, 104, 32, 98, 121, 116, 101, 115, 32, 97, 118, 97, 105, 108, 97, 98, 108, 101, 32, 97, 102, 116, 101, 114, 32, 105, 110, 100, 101, 120, 32, 116, 111, 32, 119, 114, 105, 116, 101, 32, 108, 101, 110, 103, 116, 104]), false)], (some 13), none⟩,
    ⟨.assign (.t 12), (some 4), none⟩,
    ⟨.assign (.p 13), (some 5), none⟩]
@[simp] def eq207_3 := id q207_3.eq_1
def q207_4 : List AOper :=
  [⟨.move .look (.p 1), (some 6), none⟩,
    ⟨.convInt .i64 (.p 6), (some 7), none⟩,
    ⟨.move .head (.t 0), (some 8), none⟩,
    ⟨.len false (.p 8), (some 9), none⟩,
    ⟨.bin .sub 1 true (.p 9) (.c (.int .i64 4)), (some 10), none⟩,
    ⟨.bin .gtr 1 false (.p 7) (.p 10), (some 11), none⟩]
@[simp] def eq207_4 := id q207_4.eq_1
def q207_5 : List AOper :=
  [⟨.assign (.c (.slice .nil 0 1 [])), (some 4), none⟩,
    ⟨.assign (.c (.nilI)), (some 5), none⟩]
@[simp] def eq207_5 := id q207_5.eq_1
def k207_0 : ACode :=
  .ops q207_0 .ret
@[simp] theorem xk207_0 : GoC fns Q s k207_0 st ↔ GoO fns Q s q207_0 .ret st := goC_ops
def k207_1 : ACode :=
  .ops q207_1 k207_0
@[simp] theorem xk207_1 : GoC fns Q s k207_1 st ↔ GoO fns Q s q207_1 k207_0 st := goC_ops
def k207_2 : ACode :=
  .ops q207_2 k207_1
@[simp] theorem xk207_2 : GoC fns Q s k207_2 st ↔ GoO fns Q s q207_2 k207_1 st := goC_ops
def k207_3 : ACode :=
  .ops q207_3 .ret
@[simp] theorem xk207_3 : GoC fns Q s k207_3 st ↔ GoO fns Q s q207_3 .ret st := goC_ops
def k207_4 : ACode :=
  .cond (.p 11) k207_3 .skip
@[simp] theorem xk207_4 : GoC fns Q s k207_4 st ↔ GB fns Q s (peek st (.p 11)) k207_3 .skip st := goC_cond
def k207_5 : ACode :=
  .seq k207_4 k207_2
@[simp] theorem xk207_5 : GoC fns Q s k207_5 st ↔ GoC fns Q (.sq k207_2 :: s) k207_4 st := goC_seq
def k207_6 : ACode :=
  .ops q207_4 k207_5
@[simp] theorem xk207_6 : GoC fns Q s k207_6 st ↔ GoO fns Q s q207_4 k207_5 st := goC_ops
def k207_7 : ACode :=
  .ops q207_5 k207_6
@[simp] theorem xk207_7 : GoC fns Q s k207_7 st ↔ GoO fns Q s q207_5 k207_6 st := goC_ops
def af207 : AFunc := ⟨26, k207_7, [.tmp 4, .tmp 5], fun _ => none⟩

theorem ok207 : ∃ hs, pFunc Tryz.prog sg hs Tryz.f207 = some af207 := ⟨fun i => 0, by kernel_rfl⟩
def q143_0 : List AOper :=
  [⟨.move .look (.p 0), (some 37), none⟩,
    ⟨.nilCheck (.p 37), (some 38), none⟩,
    ⟨.fieldAddr 0 (.p 38), (some 39), none⟩,
    ⟨.load .take false 1 (.p 39), (some 40), none⟩,
    ⟨.assign (.t 40), (some 2), none⟩]
@[simp] def eq143_0 := id q143_0.eq_1
def q143_1 : List AOper :=
  [⟨.move .look (.p 0), (some 28), none⟩,
    ⟨.move .look (.p 0), (some 29), none⟩,
    ⟨.nilCheck (.p 29), (some 30), none⟩,
    ⟨.fieldAddr 1 (.p 30), (some 31), none⟩,
    ⟨.load .look false 1 (.p 31), (some 32), none⟩,
    ⟨.move .head (.p 3), (some 33), none⟩,
    ⟨.sliceSl 1 (.t 32) none (some (.p 33)), (some 34), none⟩,
    ⟨.nilCheck (.p 28), (some 35), none⟩,
    ⟨.fieldAddr 1 (.p 35), (some 36), none⟩,
    ⟨.store 1 (.p 36) (.t 34), none, none⟩]
@[simp] def eq143_1 := id q143_1.eq_1
def q143_2 : List AOper :=
  [⟨.move .look (.p 0), (some 11), none⟩,
    ⟨.move .look (.p 0), (some 12), none⟩,
    ⟨.nilCheck (.p 12), (some 13), none⟩,
    ⟨.fieldAddr 0 (.p 13), (some 14), none⟩,
    ⟨.load .take false 1 (.p 14), (some 15), none⟩,
    ⟨.move .look (.p 0), (some 16), none⟩,
    ⟨.nilCheck (.p 16), (some 17), none⟩,
    ⟨.fieldAddr 1 (.p 17), (some 18), none⟩,
    ⟨.load .look false 1 (.p 18), (some 19), none⟩,
    ⟨.move .look (.p 3), (some 20), none⟩,
    ⟨.indexAddr 1 (.t 19) (.p 20), (some 21), none⟩,
    ⟨.load .look false 1 (.p 21), (some 22), none⟩,
    ⟨.hcall 207 [(.t 15, true), (.p 22, false)], (some 23), none⟩,
    ⟨.move .look (.t 23), (some 10), none⟩,
    ⟨.extract 10 0, (some 24), none⟩,
    ⟨.extract 10 1, (some 25), none⟩,
    ⟨.nilCheck (.p 11), (some 26), none⟩,
    ⟨.fieldAddr 0 (.p 26), (some 27), none⟩,
    ⟨.store 1 (.p 27) (.t 24), none, none⟩]
@[simp] def eq143_2 := id q143_2.eq_1
def q143_3 : List AOper :=
  [⟨.move .look (.p 0), (some 4), none⟩,
    ⟨.nilCheck (.p 4), (some 5), none⟩,
    ⟨.fieldAddr 1 (.p 5), (some 6), none⟩,
    ⟨.load .head false 1 (.p 6), (some 7), none⟩,
    ⟨.len false (.p 7), (some 8), none⟩,
    ⟨.bin .sub 1 true (.p 8) (.c (.int .i64 1)), (some 9), none⟩,
    ⟨.assign (.p 9), (some 3), none⟩]
@[simp] def eq143_3 := id q143_3.eq_1
def k143_0 : ACode :=
  .ops q143_0 .ret
@[simp] theorem xk143_0 : GoC fns Q s k143_0 st ↔ GoO fns Q s q143_0 .ret st := goC_ops
def k143_1 : ACode :=
  .ops q143_1 k143_0
@[simp] theorem xk143_1 : GoC fns Q s k143_1 st ↔ GoO fns Q s q143_1 k143_0 st := goC_ops
def k143_2 : ACode :=
  .ops q143_2 k143_1
@[simp] theorem xk143_2 : GoC fns Q s k143_2 st ↔ GoO fns Q s q143_2 k143_1 st := goC_ops
def k143_3 : ACode :=
  .ops q143_3 k143_2
@[simp] theorem xk143_3 : GoC fns Q s k143_3 st ↔ GoO fns Q s q143_3 k143_2 st := goC_ops
def k143_4 : ACode :=
  .ops [⟨.assign (.c (.slice .nil 0 1 [])), (some 2), none⟩] k143_3
@[simp] theorem xk143_4 : GoC fns Q s k143_4 st ↔ GoO fns Q s [⟨.assign (.c (.slice .nil 0 1 [])), (some 2), none⟩] k143_3 st := goC_ops
def af143 : AFunc := ⟨41, k143_4, [.tmp 2], fun _ => none⟩

theorem ok143 : ∃ hs, pFunc Tryz.prog sg hs Tryz.f143 = some af143 := ⟨fun i => 0, by kernel_rfl⟩
def q56_0 : List AOper :=
  [⟨.move .look (.p 3), (some 8), none⟩,
    ⟨.hcall 143 [(.p 8, false)], (some 9), none⟩,
    ⟨.assign (.t 9), (some 2), none⟩]
@[simp] def eq56_0 := id q56_0.eq_1
def q56_1 : List AOper :=
  [⟨.move .look (.p 3), (some 5), none⟩,
    ⟨.move .look (.t 0), (some 6), none⟩,
    ⟨.hcall 142 [(.p 5, false), (.t 6, false)], (some 7), none⟩]
@[simp] def eq56_1 := id q56_1.eq_1
def q56_2 : List AOper :=
  [⟨.hcall 141 [], (some 4), none⟩,
    ⟨.assign (.p 4), (some 3), none⟩]
@[simp] def eq56_2 := id q56_2.eq_1
def k56_0 : ACode :=
  .ops q56_0 .ret
@[simp] theorem xk56_0 : GoC fns Q s k56_0 st ↔ GoO fns Q s q56_0 .ret st := goC_ops
def k56_1 : ACode :=
  .ops q56_1 k56_0
@[simp] theorem xk56_1 : GoC fns Q s k56_1 st ↔ GoO fns Q s q56_1 k56_0 st := goC_ops
def k56_2 : ACode :=
  .ops q56_2 k56_1
@[simp] theorem xk56_2 : GoC fns Q s k56_2 st ↔ GoO fns Q s q56_2 k56_1 st := goC_ops
def k56_3 : ACode :=
  .ops [⟨.assign (.c (.slice .nil 0 1 [])), (some 2), none⟩] k56_2
@[simp] theorem xk56_3 : GoC fns Q s k56_3 st ↔ GoO fns Q s [⟨.assign (.c (.slice .nil 0 1 [])), (some 2), none⟩] k56_2 st := goC_ops
def af56 : AFunc := ⟨10, k56_3, [.tmp 2], fun _ => none⟩

theorem ok56 : ∃ hs, pFunc Tryz.prog sg hs Tryz.f56 = some af56 := ⟨fun i => 0, by kernel_rfl⟩
def q210_0 : List AOper :=
  [⟨.move .look (.t 0), (some 26), none⟩,
    ⟨.move .head (.p 5), (some 27), none⟩,
    ⟨.sliceSl 1 (.t 26) none (some (.p 27)), (some 28), none⟩,
    ⟨.move .look (.t 0), (some 29), none⟩,
    ⟨.move .head (.p 5), (some 30), none⟩,
    ⟨.sliceSl 1 (.t 29) (some (.p 30)) none, (some 31), none⟩,
    ⟨.assign (.t 28), (some 2), none⟩,
    ⟨.assign (.t 31), (some 3), none⟩,
    ⟨.assign (.c (.bool true)), (some 4), none⟩]
@[simp] def eq210_0 := id q210_0.eq_1
def q210_1 : List AOper :=
  [⟨.move .take (.t 0), (some 25), none⟩,
    ⟨.assign (.c (.slice .nil 0 1 [])), (some 2), none⟩,
    ⟨.assign (.t 25), (some 3), none⟩,
    ⟨.assign (.c (.bool false)), (some 4), none⟩]
@[simp] def eq210_1 := id q210_1.eq_1
def q210_2 : List AOper :=
  [⟨.move .head (.t 0), (some 20), none⟩,
    ⟨.len false (.p 20), (some 21), none⟩,
    ⟨.move .look (.p 5), (some 22), none⟩,
    ⟨.convInt .i64 (.p 22), (some 23), none⟩,
    ⟨.bin .lss 1 false (.p 21) (.p 23), (some 24), none⟩]
@[simp] def eq210_2 := id q210_2.eq_1
def q210_3 : List AOper :=
  [⟨.move .take (.t 0), (some 19), none⟩,
    ⟨.assign (.c (.slice .nil 0 1 [])), (some 2), none⟩,
    ⟨.assign (.t 19), (some 3), none⟩,
    ⟨.assign (.c (.bool false)), (some 4), none⟩]
@[simp] def eq210_3 := id q210_3.eq_1
def q210_4 : List AOper :=
  [⟨.move .look (.p 5), (some 17), none⟩,
    ⟨.bin .lss 1 true (.p 17) (.c (.int .i32 4)), (some 18), none⟩]
@[simp] def eq210_4 := id q210_4.eq_1
def q210_5 : List AOper :=
  [⟨.move .take (.t 0), (some 16), none⟩,
    ⟨.assign (.c (.slice .nil 0 1 [])), (some 2), none⟩,
    ⟨.assign (.t 16), (some 3), none⟩,
    ⟨.assign (.c (.bool false)), (some 4), none⟩]
@[simp] def eq210_5 := id q210_5.eq_1
def q210_6 : List AOper :=
  [⟨.move .look (.p 7), (some 14), none⟩,
    ⟨.un .not (.p 14), (some 15), none⟩]
@[simp] def eq210_6 := id q210_6.eq_1
def q210_7 : List AOper :=
  [⟨.move .look (.t 0), (some 9), none⟩,
    ⟨.call 54 [(.t 9, false)], (some 10), none⟩,
    ⟨.move .look (.t 10), (some 8), none⟩,
    ⟨.extract 8 0, (some 11), none⟩,
    ⟨.extract 8 1, (some 12), none⟩,
    ⟨.extract 8 2, (some 13), none⟩,
    ⟨.assign (.p 11), (some 5), none⟩,
    ⟨.assign (.t 12), (some 6), none⟩,
    ⟨.assign (.p 13), (some 7), none⟩]
@[simp] def eq210_7 := id q210_7.eq_1
def q210_8 : List AOper :=
  [⟨.assign (.c (.slice .nil 0 1 [])), (some 2), none⟩,
    ⟨.assign (.c (.slice .nil 0 1 [])), (some 3), none⟩,
    ⟨.assign (.c (.bool false)), (some 4), none⟩]
@[simp] def eq210_8 := id q210_8.eq_1
def k210_0 : ACode :=
  .ops q210_0 .ret
@[simp] theorem xk210_0 : GoC fns Q s k210_0 st ↔ GoO fns Q s q210_0 .ret st := goC_ops
def k210_1 : ACode :=
  .ops q210_1 .ret
@[simp] theorem xk210_1 : GoC fns Q s k210_1 st ↔ GoO fns Q s q210_1 .ret st := goC_ops
def k210_2 : ACode :=
  .cond (.p 24) k210_1 .skip
@[simp] theorem xk210_2 : GoC fns Q s k210_2 st ↔ GB fns Q s (peek st (.p 24)) k210_1 .skip st := goC_cond
def k210_3 : ACode :=
  .seq k210_2 k210_0
@[simp] theorem xk210_3 : GoC fns Q s k210_3 st ↔ GoC fns Q (.sq k210_0 :: s) k210_2 st := goC_seq
def k210_4 : ACode :=
  .ops q210_2 k210_3
@[simp] theorem xk210_4 : GoC fns Q s k210_4 st ↔ GoO fns Q s q210_2 k210_3 st := goC_ops
def k210_5 : ACode :=
  .ops q210_3 .ret
@[simp] theorem xk210_5 : GoC fns Q s k210_5 st ↔ GoO fns Q s q210_3 .ret st := goC_ops
def k210_6 : ACode :=
  .cond (.p 18) k210_5 .skip
@[simp] theorem xk210_6 : GoC fns Q s k210_6 st ↔ GB fns Q s (peek st (.p 18)) k210_5 .skip st := goC_cond
def k210_7 : ACode :=
  .seq k210_6 k210_4
@[simp] theorem xk210_7 : GoC fns Q s k210_7 st ↔ GoC fns Q (.sq k210_4 :: s) k210_6 st := goC_seq
def k210_8 : ACode :=
  .ops q210_4 k210_7
@[simp] theorem xk210_8 : GoC fns Q s k210_8 st ↔ GoO fns Q s q210_4 k210_7 st := goC_ops
def k210_9 : ACode :=
  .ops q210_5 .ret
@[simp] theorem xk210_9 : GoC fns Q s k210_9 st ↔ GoO fns Q s q210_5 .ret st := goC_ops
def k210_10 : ACode :=
  .cond (.p 15) k210_9 .skip
@[simp] theorem xk210_10 : GoC fns Q s k210_10 st ↔ GB fns Q s (peek st (.p 15)) k210_9 .skip st := goC_cond
def k210_11 : ACode :=
  .seq k210_10 k210_8
@[simp] theorem xk210_11 : GoC fns Q s k210_11 st ↔ GoC fns Q (.sq k210_8 :: s) k210_10 st := goC_seq
def k210_12 : ACode :=
  .ops q210_6 k210_11
@[simp] theorem xk210_12 : GoC fns Q s k210_12 st ↔ GoO fns Q s q210_6 k210_11 st := goC_ops
def k210_13 : ACode :=
  .ops q210_7 k210_12
@[simp] theorem xk210_13 : GoC fns Q s k210_13 st ↔ GoO fns Q s q210_7 k210_12 st := goC_ops
def k210_14 : ACode :=
  .ops q210_8 k210_13
@[simp] theorem xk210_14 : GoC fns Q s k210_14 st ↔ GoO fns Q s q210_8 k210_13 st := goC_ops
def af210 : AFunc := ⟨32, k210_14, [.tmp 2, .tmp 3, .tmp 4], fun _ => none⟩

theorem ok210 : ∃ hs, pFunc Tryz.prog sg hs Tryz.f210 = some af210 := ⟨fun i => 0, by kernel_rfl⟩
def q146_0 : List AOper :=
  [⟨.move .look (.t 0), (some 5), none⟩,
    ⟨.call 210 [(.t 5, false)], (some 6), none⟩,
    ⟨.extract 6 0, (some 7), none⟩,
    ⟨.extract 6 1, (some 8), none⟩,
    ⟨.extract 6 2, (some 9), none⟩,
    ⟨.assign (.t 7), (some 2), none⟩,
    ⟨.assign (.t 8), (some 3), none⟩,
    ⟨.assign (.p 9), (some 4), none⟩]
@[simp] def eq146_0 := id q146_0.eq_1
def q146_1 : List AOper :=
  [⟨.assign (.c (.slice .nil 0 1 [])), (some 2), none⟩,
    ⟨.assign (.c (.slice .nil 0 1 [])), (some 3), none⟩,
    ⟨.assign (.c (.bool false)), (some 4), none⟩]
@[simp] def eq146_1 := id q146_1.eq_1
def k146_0 : ACode :=
  .ops q146_0 .ret
@[simp] theorem xk146_0 : GoC fns Q s k146_0 st ↔ GoO fns Q s q146_0 .ret st := goC_ops
def k146_1 : ACode :=
  .ops q146_1 k146_0
@[simp] theorem xk146_1 : GoC fns Q s k146_1 st ↔ GoO fns Q s q146_1 k146_0 st := goC_ops
def af146 : AFunc := ⟨10, k146_1, [.tmp 2, .tmp 3, .tmp 4], fun _ => none⟩

theorem ok146 : ∃ hs, pFunc Tryz.prog sg hs Tryz.f146 = some af146 := ⟨fun i => 0, by kernel_rfl⟩
def q147_0 : List AOper :=
  [⟨.move .look (.t 0), (some 5), none⟩,
    ⟨.call 210 [(.t 5, false)], (some 6), none⟩,
    ⟨.extract 6 0, (some 7), none⟩,
    ⟨.extract 6 1, (some 8), none⟩,
    ⟨.extract 6 2, (some 9), none⟩,
    ⟨.assign (.t 7), (some 2), none⟩,
    ⟨.assign (.t 8), (some 3), none⟩,
    ⟨.assign (.p 9), (some 4), none⟩]
@[simp] def eq147_0 := id q147_0.eq_1
def q147_1 : List AOper :=
  [⟨.assign (.c (.slice .nil 0 1 [])), (some 2), none⟩,
    ⟨.assign (.c (.slice .nil 0 1 [])), (some 3), none⟩,
    ⟨.assign (.c (.bool false)), (some 4), none⟩]
@[simp] def eq147_1 := id q147_1.eq_1
def k147_0 : ACode :=
  .ops q147_0 .ret
@[simp] theorem xk147_0 : GoC fns Q s k147_0 st ↔ GoO fns Q s q147_0 .ret st := goC_ops
def k147_1 : ACode :=
  .ops q147_1 k147_0
@[simp] theorem xk147_1 : GoC fns Q s k147_1 st ↔ GoO fns Q s q147_1 k147_0 st := goC_ops
def af147 : AFunc := ⟨10, k147_1, [.tmp 2, .tmp 3, .tmp 4], fun _ => none⟩

theorem ok147 : ∃ hs, pFunc Tryz.prog sg hs Tryz.f147 = some af147 := ⟨fun i => 0, by kernel_rfl⟩
def k87_0 : ACode :=
  .ops [⟨.assign (.c (.int .i64 0)), (some 2), none⟩] .ret
@[simp] theorem xk87_0 : GoC fns Q s k87_0 st ↔ GoO fns Q s [⟨.assign (.c (.int .i64 0)), (some 2), none⟩] .ret st := goC_ops
def k87_1 : ACode :=
  .ops [⟨.assign (.c (.int .i64 1)), (some 2), none⟩] .ret
@[simp] theorem xk87_1 : GoC fns Q s k87_1 st ↔ GoO fns Q s [⟨.assign (.c (.int .i64 1)), (some 2), none⟩] .ret st := goC_ops
def k87_2 : ACode :=
  .cond (.p 3) k87_1 .skip
@[simp] theorem xk87_2 : GoC fns Q s k87_2 st ↔ GB fns Q s (peek st (.p 3)) k87_1 .skip st := goC_cond
def k87_3 : ACode :=
  .seq k87_2 k87_0
@[simp] theorem xk87_3 : GoC fns Q s k87_3 st ↔ GoC fns Q (.sq k87_0 :: s) k87_2 st := goC_seq
def k87_4 : ACode :=
  .ops [⟨.move .head (.p 0), (some 3), none⟩] k87_3
@[simp] theorem xk87_4 : GoC fns Q s k87_4 st ↔ GoO fns Q s [⟨.move .head (.p 0), (some 3), none⟩] k87_3 st := goC_ops
def k87_5 : ACode :=
  .ops [⟨.assign (.c (.int .i64 0)), (some 2), none⟩] k87_4
@[simp] theorem xk87_5 : GoC fns Q s k87_5 st ↔ GoO fns Q s [⟨.assign (.c (.int .i64 0)), (some 2), none⟩] k87_4 st := goC_ops
def af87 : AFunc := ⟨4, k87_5, [.tmp 2], fun _ => none⟩

theorem ok87 : ∃ hs, pFunc Tryz.prog sg hs Tryz.f87 = some af87 := ⟨fun i => 0, by kernel_rfl⟩
def q157_0 : List AOper :=
  [⟨.move .look (.t 0), (some 5), none⟩,
    ⟨.call 140 [(.t 5, false)], (some 6), none⟩,
    ⟨.extract 6 0, (some 7), none⟩,
    ⟨.extract 6 1, (some 8), none⟩,
    ⟨.extract 6 2, (some 9), none⟩,
    ⟨.assign (.p 7), (some 2), none⟩,
    ⟨.assign (.t 8), (some 3), none⟩,
    ⟨.assign (.p 9), (some 4), none⟩]
@[simp] def eq157_0 := id q157_0.eq_1
def q157_1 : List AOper :=
  [⟨.assign (.c (.int .i32 0)), (some 2), none⟩,
    ⟨.assign (.c (.slice .nil 0 1 [])), (some 3), none⟩,
    ⟨.assign (.c (.bool false)), (some 4), none⟩]
@[simp] def eq157_1 := id q157_1.eq_1
def k157_0 : ACode :=
  .ops q157_0 .ret
@[simp] theorem xk157_0 : GoC fns Q s k157_0 st ↔ GoO fns Q s q157_0 .ret st := goC_ops
def k157_1 : ACode :=
  .ops q157_1 k157_0
@[simp] theorem xk157_1 : GoC fns Q s k157_1 st ↔ GoO fns Q s q157_1 k157_0 st := goC_ops
def af157 : AFunc := ⟨10, k157_1, [.tmp 2, .tmp 3, .tmp 4], fun _ => none⟩

theorem ok157 : ∃ hs, pFunc Tryz.prog sg hs Tryz.f157 = some af157 := ⟨fun i => 0, by kernel_rfl⟩
def q57_0 : List AOper :=
  [⟨.load .take true 8 (.p 4), (some 225), none⟩,
    ⟨.move .look (.t 5), (some 226), none⟩,
    ⟨.move .take (.p 6), (some 228), none⟩,
    ⟨.call 55 [(.t 226, false)], (some 227), none⟩,
    ⟨.store 8 (.p 4) (.p 225), none, none⟩,
    ⟨.assign (.t 227), (some 5), none⟩,
    ⟨.assign (.p 228), (some 6), none⟩]
@[simp] def eq57_0 := id q57_0.eq_1
def q57_1 : List AOper :=
  [⟨.build [.int .i64 0, .str [], .str [], .int .i64 0, .int .u64 0, .int .u64 0, .slice .nil 0 1 [], .slice .nil 0 1 []] [], (some 224), none⟩,
    ⟨.store 8 (.p 4) (.p 224), none, none⟩]
@[simp] def eq57_1 := id q57_1.eq_1
def q57_2 : List AOper :=
  [⟨.move .look (.p 6), (some 222), none⟩,
    ⟨.un .not (.p 222), (some 223), none⟩]
@[simp] def eq57_2 := id q57_2.eq_1
def q57_3 : List AOper :=
  [⟨.move .look (.p 7), (some 36), none⟩,
    ⟨.px (.fb 0) [.p 36], (some 37), none⟩,
    ⟨.fieldAddr 4 (.p 4), (some 38), none⟩,
    ⟨.store 1 (.p 38) (.p 37), none, none⟩]
@[simp] def eq57_3 := id q57_3.eq_1
def q57_4 : List AOper :=
  [⟨.move .look (.t 1), (some 31), none⟩,
    ⟨.call 144 [(.t 31, false)], (some 32), none⟩,
    ⟨.move .look (.t 32), (some 30), none⟩,
    ⟨.extract 30 0, (some 33), none⟩,
    ⟨.extract 30 1, (some 34), none⟩,
    ⟨.extract 30 2, (some 35), none⟩,
    ⟨.assign (.p 33), (some 7), none⟩,
    ⟨.assign (.t 34), (some 5), none⟩,
    ⟨.assign (.p 35), (some 6), none⟩]
@[simp] def eq57_4 := id q57_4.eq_1
def q57_5 : List AOper :=
  [⟨.move .look (.t 1), (some 42), none⟩,
    ⟨.call 145 [(.t 42, false)], (some 43), none⟩,
    ⟨.move .look (.t 43), (some 41), none⟩,
    ⟨.extract 41 0, (some 44), none⟩,
    ⟨.extract 41 1, (some 45), none⟩,
    ⟨.extract 41 2, (some 46), none⟩,
    ⟨.fieldAddr 1 (.p 4), (some 47), none⟩,
    ⟨.store 1 (.p 47) (.p 44), none, none⟩,
    ⟨.assign (.t 45), (some 5), none⟩,
    ⟨.assign (.p 46), (some 6), none⟩]
@[simp] def eq57_5 := id q57_5.eq_1
def q57_6 : List AOper :=
  [⟨.move .look (.t 8), (some 56), none⟩,
    ⟨.call 55 [(.t 56, false)], (some 57), none⟩,
    ⟨.fieldAddr 6 (.p 4), (some 58), none⟩,
    ⟨.store 1 (.p 58) (.t 57), none, none⟩]
@[simp] def eq57_6 := id q57_6.eq_1
def q57_7 : List AOper :=
  [⟨.move .look (.t 1), (some 51), none⟩,
    ⟨.call 146 [(.t 51, false)], (some 52), none⟩,
    ⟨.move .look (.t 52), (some 50), none⟩,
    ⟨.extract 50 0, (some 53), none⟩,
    ⟨.extract 50 1, (some 54), none⟩,
    ⟨.extract 50 2, (some 55), none⟩,
    ⟨.assign (.t 53), (some 8), none⟩,
    ⟨.assign (.t 54), (some 5), none⟩,
    ⟨.assign (.p 55), (some 6), none⟩]
@[simp] def eq57_7 := id q57_7.eq_1
def q57_8 : List AOper :=
  [⟨.move .look (.t 9), (some 67), none⟩,
    ⟨.call 55 [(.t 67, false)], (some 68), none⟩,
    ⟨.fieldAddr 6 (.p 4), (some 69), none⟩,
    ⟨.store 1 (.p 69) (.t 68), none, none⟩]
@[simp] def eq57_8 := id q57_8.eq_1
def q57_9 : List AOper :=
  [⟨.move .look (.t 1), (some 62), none⟩,
    ⟨.call 147 [(.t 62, false)], (some 63), none⟩,
    ⟨.move .look (.t 63), (some 61), none⟩,
    ⟨.extract 61 0, (some 64), none⟩,
    ⟨.extract 61 1, (some 65), none⟩,
    ⟨.extract 61 2, (some 66), none⟩,
    ⟨.assign (.t 64), (some 9), none⟩,
    ⟨.assign (.t 65), (some 5), none⟩,
    ⟨.assign (.p 66), (some 6), none⟩]
@[simp] def eq57_9 := id q57_9.eq_1
def q57_10 : List AOper :=
  [⟨.move .look (.p 10), (some 80), none⟩,
    ⟨.convInt .i64 (.p 80), (some 81), none⟩,
    ⟨.fieldAddr 6 (.p 4), (some 82), none⟩,
    ⟨.load .look false 1 (.p 82), (some 83), none⟩,
    ⟨.call 55 [(.t 83, false)], (some 84), none⟩,
    ⟨.fieldAddr 3 (.p 4), (some 85), none⟩,
    ⟨.store 1 (.p 85) (.p 81), none, none⟩,
    ⟨.fieldAddr 6 (.p 4), (some 86), none⟩,
    ⟨.store 1 (.p 86) (.t 84), none, none⟩]
@[simp] def eq57_10 := id q57_10.eq_1
def q57_11 : List AOper :=
  [⟨.move .look (.t 1), (some 73), none⟩,
    ⟨.call 148 [(.t 73, false)], (some 74), none⟩,
    ⟨.move .look (.t 74), (some 72), none⟩,
    ⟨.extract 72 0, (some 75), none⟩,
    ⟨.extract 72 1, (some 76), none⟩,
    ⟨.extract 72 2, (some 77), none⟩,
    ⟨.extract 72 3, (some 78), none⟩,
    ⟨.assign (.p 75), (some 10), none⟩,
    ⟨.fieldAddr 6 (.p 4), (some 79), none⟩,
    ⟨.store 1 (.p 79) (.t 76), none, none⟩,
    ⟨.assign (.t 77), (some 5), none⟩,
    ⟨.assign (.p 78), (some 6), none⟩]
@[simp] def eq57_11 := id q57_11.eq_1
def q57_12 : List AOper :=
  [⟨.px (.slArr 12 5 1) [.p 11, .c (.int .i64 0), .c (.int .i64 12)], (some 95), none⟩,
    ⟨.call 55 [(.t 95, false)], (some 96), none⟩,
    ⟨.fieldAddr 6 (.p 4), (some 97), none⟩,
    ⟨.store 1 (.p 97) (.t 96), none, none⟩]
@[simp] def eq57_12 := id q57_12.eq_1
def q57_13 : List AOper :=
  [⟨.move .look (.t 1), (some 90), none⟩,
    ⟨.call 149 [(.t 90, false)], (some 91), none⟩,
    ⟨.move .look (.t 91), (some 89), none⟩,
    ⟨.extract 89 0, (some 92), none⟩,
    ⟨.extract 89 1, (some 93), none⟩,
    ⟨.extract 89 2, (some 94), none⟩,
    ⟨.store 12 (.p 11) (.p 92), none, none⟩,
    ⟨.assign (.t 93), (some 5), none⟩,
    ⟨.assign (.p 94), (some 6), none⟩]
@[simp] def eq57_13 := id q57_13.eq_1
def q57_14 : List AOper :=
  [⟨.move .look (.p 12), (some 106), none⟩,
    ⟨.call 87 [(.p 106, false)], (some 107), none⟩,
    ⟨.fieldAddr 3 (.p 4), (some 108), none⟩,
    ⟨.store 1 (.p 108) (.p 107), none, none⟩]
@[simp] def eq57_14 := id q57_14.eq_1
def q57_15 : List AOper :=
  [⟨.move .look (.t 1), (some 101), none⟩,
    ⟨.call 150 [(.t 101, false)], (some 102), none⟩,
    ⟨.move .look (.t 102), (some 100), none⟩,
    ⟨.extract 100 0, (some 103), none⟩,
    ⟨.extract 100 1, (some 104), none⟩,
    ⟨.extract 100 2, (some 105), none⟩,
    ⟨.assign (.p 103), (some 12), none⟩,
    ⟨.assign (.t 104), (some 5), none⟩,
    ⟨.assign (.p 105), (some 6), none⟩]
@[simp] def eq57_15 := id q57_15.eq_1
def q57_16 : List AOper :=
  [⟨.move .look (.t 1), (some 112), none⟩,
    ⟨.call 151 [(.t 112, false)], (some 113), none⟩,
    ⟨.move .look (.t 113), (some 111), none⟩,
    ⟨.extract 111 0, (some 114), none⟩,
    ⟨.extract 111 1, (some 115), none⟩,
    ⟨.extract 111 2, (some 116), none⟩,
    ⟨.fieldAddr 3 (.p 4), (some 117), none⟩,
    ⟨.store 1 (.p 117) (.p 114), none, none⟩,
    ⟨.assign (.t 115), (some 5), none⟩,
    ⟨.assign (.p 116), (some 6), none⟩]
@[simp] def eq57_16 := id q57_16.eq_1
def q57_17 : List AOper :=
  [⟨.move .look (.t 1), (some 121), none⟩,
    ⟨.call 152 [(.t 121, false)], (some 122), none⟩,
    ⟨.move .look (.t 122), (some 120), none⟩,
    ⟨.extract 120 0, (some 123), none⟩,
    ⟨.extract 120 1, (some 124), none⟩,
    ⟨.extract 120 2, (some 125), none⟩,
    ⟨.extract 120 3, (some 126), none⟩,
    ⟨.fieldAddr 1 (.p 4), (some 127), none⟩,
    ⟨.store 1 (.p 127) (.p 123), none, none⟩,
    ⟨.fieldAddr 2 (.p 4), (some 128), none⟩,
    ⟨.store 1 (.p 128) (.p 124), none, none⟩,
    ⟨.assign (.t 125), (some 5), none⟩,
    ⟨.assign (.p 126), (some 6), none⟩]
@[simp] def eq57_17 := id q57_17.eq_1
def q57_18 : List AOper :=
  [⟨.px (.slArr 12 5 1) [.p 13, .c (.int .i64 0), .c (.int .i64 12)], (some 139), none⟩,
    ⟨.call 55 [(.t 139, false)], (some 140), none⟩,
    ⟨.fieldAddr 6 (.p 4), (some 141), none⟩,
    ⟨.store 1 (.p 141) (.t 140), none, none⟩]
@[simp] def eq57_18 := id q57_18.eq_1
def q57_19 : List AOper :=
  [⟨.move .look (.t 1), (some 132), none⟩,
    ⟨.call 153 [(.t 132, false)], (some 133), none⟩,
    ⟨.move .look (.t 133), (some 131), none⟩,
    ⟨.extract 131 0, (some 134), none⟩,
    ⟨.extract 131 1, (some 135), none⟩,
    ⟨.extract 131 2, (some 136), none⟩,
    ⟨.extract 131 3, (some 137), none⟩,
    ⟨.fieldAddr 1 (.p 4), (some 138), none⟩,
    ⟨.store 1 (.p 138) (.p 134), none, none⟩,
    ⟨.store 12 (.p 13) (.p 135), none, none⟩,
    ⟨.assign (.t 136), (some 5), none⟩,
    ⟨.assign (.p 137), (some 6), none⟩]
@[simp] def eq57_19 := id q57_19.eq_1
def q57_20 : List AOper :=
  [⟨.move .look (.t 1), (some 145), none⟩,
    ⟨.call 154 [(.t 145, false)], (some 146), none⟩,
    ⟨.move .look (.t 146), (some 144), none⟩,
    ⟨.extract 144 0, (some 147), none⟩,
    ⟨.extract 144 1, (some 148), none⟩,
    ⟨.extract 144 2, (some 149), none⟩,
    ⟨.fieldAddr 1 (.p 4), (some 150), none⟩,
    ⟨.store 1 (.p 150) (.p 147), none, none⟩,
    ⟨.assign (.t 148), (some 5), none⟩,
    ⟨.assign (.p 149), (some 6), none⟩]
@[simp] def eq57_20 := id q57_20.eq_1
def q57_21 : List AOper :=
  [⟨.move .look (.t 1), (some 154), none⟩,
    ⟨.call 155 [(.t 154, false)], (some 155), none⟩,
    ⟨.move .look (.t 155), (some 153), none⟩,
    ⟨.extract 153 0, (some 156), none⟩,
    ⟨.extract 153 1, (some 157), none⟩,
    ⟨.extract 153 2, (some 158), none⟩,
    ⟨.fieldAddr 1 (.p 4), (some 159), none⟩,
    ⟨.store 1 (.p 159) (.p 156), none, none⟩,
    ⟨.assign (.t 157), (some 5), none⟩,
    ⟨.assign (.p 158), (some 6), none⟩]
@[simp] def eq57_21 := id q57_21.eq_1
def q57_22 : List AOper :=
  [⟨.fieldAddr 6 (.p 4), (some 171), none⟩,
    ⟨.load .look false 1 (.p 171), (some 172), none⟩,
    ⟨.call 55 [(.t 172, false)], (some 173), none⟩,
    ⟨.fieldAddr 6 (.p 4), (some 174), none⟩,
    ⟨.store 1 (.p 174) (.t 173), none, none⟩]
@[simp] def eq57_22 := id q57_22.eq_1
def q57_23 : List AOper :=
  [⟨.move .look (.t 1), (some 163), none⟩,
    ⟨.call 156 [(.t 163, false)], (some 164), none⟩,
    ⟨.move .look (.t 164), (some 162), none⟩,
    ⟨.extract 162 0, (some 165), none⟩,
    ⟨.extract 162 1, (some 166), none⟩,
    ⟨.extract 162 2, (some 167), none⟩,
    ⟨.extract 162 3, (some 168), none⟩,
    ⟨.fieldAddr 1 (.p 4), (some 169), none⟩,
    ⟨.store 1 (.p 169) (.p 165), none, none⟩,
    ⟨.fieldAddr 6 (.p 4), (some 170), none⟩,
    ⟨.store 1 (.p 170) (.t 166), none, none⟩,
    ⟨.assign (.t 167), (some 5), none⟩,
    ⟨.assign (.p 168), (some 6), none⟩]
@[simp] def eq57_23 := id q57_23.eq_1
def q57_24 : List AOper :=
  [⟨.move .look (.p 14), (some 183), none⟩,
    ⟨.convInt .i64 (.p 183), (some 184), none⟩,
    ⟨.fieldAddr 3 (.p 4), (some 185), none⟩,
    ⟨.store 1 (.p 185) (.p 184), none, none⟩]
@[simp] def eq57_24 := id q57_24.eq_1
def q57_25 : List AOper :=
  [⟨.move .look (.t 1), (some 178), none⟩,
    ⟨.call 157 [(.t 178, false)], (some 179), none⟩,
    ⟨.move .look (.t 179), (some 177), none⟩,
    ⟨.extract 177 0, (some 180), none⟩,
    ⟨.extract 177 1, (some 181), none⟩,
    ⟨.extract 177 2, (some 182), none⟩,
    ⟨.assign (.p 180), (some 14), none⟩,
    ⟨.assign (.t 181), (some 5), none⟩,
    ⟨.assign (.p 182), (some 6), none⟩]
@[simp] def eq57_25 := id q57_25.eq_1
def q57_26 : List AOper :=
  [⟨.move .look (.p 15), (some 195), none⟩,
    ⟨.convInt .u64 (.p 195), (some 196), none⟩,
    ⟨.bin .shl 1 true (.p 196) (.c (.int .u64 32)), (some 197), none⟩,
    ⟨.move .look (.p 16), (some 198), none⟩,
    ⟨.convInt .u64 (.p 198), (some 199), none⟩,
    ⟨.bin .or 1 false (.p 197) (.p 199), (some 200), none⟩,
    ⟨.fieldAddr 4 (.p 4), (some 201), none⟩,
    ⟨.store 1 (.p 201) (.p 200), none, none⟩]
@[simp] def eq57_26 := id q57_26.eq_1
def q57_27 : List AOper :=
  [⟨.move .look (.t 1), (some 189), none⟩,
    ⟨.call 158 [(.t 189, false)], (some 190), none⟩,
    ⟨.move .look (.t 190), (some 188), none⟩,
    ⟨.extract 188 0, (some 191), none⟩,
    ⟨.extract 188 1, (some 192), none⟩,
    ⟨.extract 188 2, (some 193), none⟩,
    ⟨.extract 188 3, (some 194), none⟩,
    ⟨.assign (.p 191), (some 15), none⟩,
    ⟨.assign (.p 192), (some 16), none⟩,
    ⟨.assign (.t 193), (some 5), none⟩,
    ⟨.assign (.p 194), (some 6), none⟩]
@[simp] def eq57_27 := id q57_27.eq_1
def q57_28 : List AOper :=
  [⟨.assign (.c (.int .u32 0)), (some 15), none⟩,
    ⟨.assign (.c (.int .u32 0)), (some 16), none⟩]
@[simp] def eq57_28 := id q57_28.eq_1
def q57_29 : List AOper :=
  [⟨.move .look (.t 1), (some 205), none⟩,
    ⟨.call 159 [(.t 205, false)], (some 206), none⟩,
    ⟨.move .look (.t 206), (some 204), none⟩,
    ⟨.extract 204 0, (some 207), none⟩,
    ⟨.extract 204 1, (some 208), none⟩,
    ⟨.extract 204 2, (some 209), none⟩,
    ⟨.fieldAddr 3 (.p 4), (some 210), none⟩,
    ⟨.store 1 (.p 210) (.p 207), none, none⟩,
    ⟨.assign (.t 208), (some 5), none⟩,
    ⟨.assign (.p 209), (some 6), none⟩]
@[simp] def eq57_29 := id q57_29.eq_1
def q57_30 : List AOper :=
  [⟨.move .look (.t 1), (some 214), none⟩,
    ⟨.call 160 [(.t 214, false)], (some 215), none⟩,
    ⟨.move .look (.t 215), (some 213), none⟩,
    ⟨.extract 213 0, (some 216), none⟩,
    ⟨.extract 213 1, (some 217), none⟩,
    ⟨.extract 213 2, (some 218), none⟩,
    ⟨.extract 213 3, (some 219), none⟩,
    ⟨.fieldAddr 5 (.p 4), (some 220), none⟩,
    ⟨.store 1 (.p 220) (.p 216), none, none⟩,
    ⟨.fieldAddr 4 (.p 4), (some 221), none⟩,
    ⟨.store 1 (.p 221) (.p 217), none, none⟩,
    ⟨.assign (.t 218), (some 5), none⟩,
    ⟨.assign (.p 219), (some 6), none⟩]
@[simp] def eq57_30 := id q57_30.eq_1
def q57_31 : List AOper :=
  [⟨.move .look (.t 1), (some 21), none⟩,
    ⟨.move .look (.p 0), (some 22), none⟩,
    ⟨.convInt .u8 (.p 22), (some 23), none⟩,
    ⟨.call 61 [(.t 21, false), (.p 23, false)], (some 24), none⟩,
    ⟨.move .look (.t 24), (some 20), none⟩,
    ⟨.extract 20 0, (some 25), none⟩,
    ⟨.extract 20 1, (some 26), none⟩,
    ⟨.extract 20 2, (some 27), none⟩,
    ⟨.assign (.t 26), (some 5), none⟩,
    ⟨.assign (.p 27), (some 6), none⟩]
@[simp] def eq57_31 := id q57_31.eq_1
def q57_32 : List AOper :=
  [⟨.bin .eql 1 true (.p 19) (.c (.int .i64 19)), (some 212), none⟩,
    ⟨.assign (.p 212), (some 211), none⟩]
@[simp] def eq57_32 := id q57_32.eq_1
def q57_33 : List AOper :=
  [⟨.bin .eql 1 true (.p 19) (.c (.int .i64 18)), (some 203), none⟩,
    ⟨.assign (.p 203), (some 202), none⟩]
@[simp] def eq57_33 := id q57_33.eq_1
def q57_34 : List AOper :=
  [⟨.bin .eql 1 true (.p 19) (.c (.int .i64 17)), (some 187), none⟩,
    ⟨.assign (.p 187), (some 186), none⟩]
@[simp] def eq57_34 := id q57_34.eq_1
def q57_35 : List AOper :=
  [⟨.bin .eql 1 true (.p 19) (.c (.int .i64 16)), (some 176), none⟩,
    ⟨.assign (.p 176), (some 175), none⟩]
@[simp] def eq57_35 := id q57_35.eq_1
def q57_36 : List AOper :=
  [⟨.bin .eql 1 true (.p 19) (.c (.int .i64 15)), (some 161), none⟩,
    ⟨.assign (.p 161), (some 160), none⟩]
@[simp] def eq57_36 := id q57_36.eq_1
def q57_37 : List AOper :=
  [⟨.bin .eql 1 true (.p 19) (.c (.int .i64 14)), (some 152), none⟩,
    ⟨.assign (.p 152), (some 151), none⟩]
@[simp] def eq57_37 := id q57_37.eq_1
def q57_38 : List AOper :=
  [⟨.bin .eql 1 true (.p 19) (.c (.int .i64 13)), (some 143), none⟩,
    ⟨.assign (.p 143), (some 142), none⟩]
@[simp] def eq57_38 := id q57_38.eq_1
def q57_39 : List AOper :=
  [⟨.bin .eql 1 true (.p 19) (.c (.int .i64 12)), (some 130), none⟩,
    ⟨.assign (.p 130), (some 129), none⟩]
@[simp] def eq57_39 := id q57_39.eq_1
def q57_40 : List AOper :=
  [⟨.bin .eql 1 true (.p 19) (.c (.int .i64 11)), (some 119), none⟩,
    ⟨.assign (.p 119), (some 118), none⟩]
@[simp] def eq57_40 := id q57_40.eq_1
def q57_41 : List AOper :=
  [⟨.bin .eql 1 true (.p 19) (.c (.int .i64 9)), (some 110), none⟩,
    ⟨.assign (.p 110), (some 109), none⟩]
@[simp] def eq57_41 := id q57_41.eq_1
def q57_42 : List AOper :=
  [⟨.bin .eql 1 true (.p 19) (.c (.int .i64 8)), (some 99), none⟩,
    ⟨.assign (.p 99), (some 98), none⟩]
@[simp] def eq57_42 := id q57_42.eq_1
def q57_43 : List AOper :=
  [⟨.bin .eql 1 true (.p 19) (.c (.int .i64 7)), (some 88), none⟩,
    ⟨.assign (.p 88), (some 87), none⟩]
@[simp] def eq57_43 := id q57_43.eq_1
def q57_44 : List AOper :=
  [⟨.bin .eql 1 true (.p 19) (.c (.int .i64 5)), (some 71), none⟩,
    ⟨.assign (.p 71), (some 70), none⟩]
@[simp] def eq57_44 := id q57_44.eq_1
def q57_45 : List AOper :=
  [⟨.bin .eql 1 true (.p 19) (.c (.int .i64 4)), (some 60), none⟩,
    ⟨.assign (.p 60), (some 59), none⟩]
@[simp] def eq57_45 := id q57_45.eq_1
def q57_46 : List AOper :=
  [⟨.bin .eql 1 true (.p 19) (.c (.int .i64 3)), (some 49), none⟩,
    ⟨.assign (.p 49), (some 48), none⟩]
@[simp] def eq57_46 := id q57_46.eq_1
def q57_47 : List AOper :=
  [⟨.bin .eql 1 true (.p 19) (.c (.int .i64 2)), (some 40), none⟩,
    ⟨.assign (.p 40), (some 39), none⟩]
@[simp] def eq57_47 := id q57_47.eq_1
def q57_48 : List AOper :=
  [⟨.bin .eql 1 true (.p 19) (.c (.int .i64 1)), (some 29), none⟩,
    ⟨.assign (.p 29), (some 28), none⟩]
@[simp] def eq57_48 := id q57_48.eq_1
def q57_49 : List AOper :=
  [⟨.move .take (.p 0), (some 17), none⟩,
    ⟨.fieldAddr 0 (.p 4), (some 18), none⟩,
    ⟨.store 1 (.p 18) (.p 17), none, none⟩]
@[simp] def eq57_49 := id q57_49.eq_1
def q57_50 : List AOper :=
  [⟨.newbox 4 [.int .i64 0, .str [], .str [], .int .i64 0, .int .u64 0, .int .u64 0, .slice .nil 0 1 [], .slice .nil 0 1 []], (some 4), none⟩,
    ⟨.assign (.c (.slice .nil 0 1 [])), (some 5), none⟩,
    ⟨.assign (.c (.bool false)), (some 6), none⟩]
@[simp] def eq57_50 := id q57_50.eq_1
def k57_0 : ACode :=
  .ops q57_0 .ret
@[simp] theorem xk57_0 : GoC fns Q s k57_0 st ↔ GoO fns Q s q57_0 .ret st := goC_ops
def k57_1 : ACode :=
  .ops q57_1 .skip
@[simp] theorem xk57_1 : GoC fns Q s k57_1 st ↔ GoO fns Q s q57_1 .skip st := goC_ops
def k57_2 : ACode :=
  .cond (.p 223) k57_1 .skip
@[simp] theorem xk57_2 : GoC fns Q s k57_2 st ↔ GB fns Q s (peek st (.p 223)) k57_1 .skip st := goC_cond
def k57_3 : ACode :=
  .seq k57_2 k57_0
@[simp] theorem xk57_3 : GoC fns Q s k57_3 st ↔ GoC fns Q (.sq k57_0 :: s) k57_2 st := goC_seq
def k57_4 : ACode :=
  .ops q57_2 k57_3
@[simp] theorem xk57_4 : GoC fns Q s k57_4 st ↔ GoO fns Q s q57_2 k57_3 st := goC_ops
def k57_5 : ACode :=
  .ops q57_3 .skip
@[simp] theorem xk57_5 : GoC fns Q s k57_5 st ↔ GoO fns Q s q57_3 .skip st := goC_ops
def k57_6 : ACode :=
  .ops q57_4 k57_5
@[simp] theorem xk57_6 : GoC fns Q s k57_6 st ↔ GoO fns Q s q57_4 k57_5 st := goC_ops
def k57_7 : ACode :=
  .ops [⟨.assign (.c (.flt .f64 0)), (some 7), none⟩] k57_6
@[simp] theorem xk57_7 : GoC fns Q s k57_7 st ↔ GoO fns Q s [⟨.assign (.c (.flt .f64 0)), (some 7), none⟩] k57_6 st := goC_ops
def k57_8 : ACode :=
  .ops q57_5 .skip
@[simp] theorem xk57_8 : GoC fns Q s k57_8 st ↔ GoO fns Q s q57_5 .skip st := goC_ops
def k57_9 : ACode :=
  .ops q57_6 .skip
@[simp] theorem xk57_9 : GoC fns Q s k57_9 st ↔ GoO fns Q s q57_6 .skip st := goC_ops
def k57_10 : ACode :=
  .ops q57_7 k57_9
@[simp] theorem xk57_10 : GoC fns Q s k57_10 st ↔ GoO fns Q s q57_7 k57_9 st := goC_ops
def k57_11 : ACode :=
  .ops [⟨.assign (.c (.slice .nil 0 1 [])), (some 8), none⟩] k57_10
@[simp] theorem xk57_11 : GoC fns Q s k57_11 st ↔ GoO fns Q s [⟨.assign (.c (.slice .nil 0 1 [])), (some 8), none⟩] k57_10 st := goC_ops
def k57_12 : ACode :=
  .ops q57_8 .skip
@[simp] theorem xk57_12 : GoC fns Q s k57_12 st ↔ GoO fns Q s q57_8 .skip st := goC_ops
def k57_13 : ACode :=
  .ops q57_9 k57_12
@[simp] theorem xk57_13 : GoC fns Q s k57_13 st ↔ GoO fns Q s q57_9 k57_12 st := goC_ops
def k57_14 : ACode :=
  .ops [⟨.assign (.c (.slice .nil 0 1 [])), (some 9), none⟩] k57_13
@[simp] theorem xk57_14 : GoC fns Q s k57_14 st ↔ GoO fns Q s [⟨.assign (.c (.slice .nil 0 1 [])), (some 9), none⟩] k57_13 st := goC_ops
def k57_15 : ACode :=
  .ops q57_10 .skip
@[simp] theorem xk57_15 : GoC fns Q s k57_15 st ↔ GoO fns Q s q57_10 .skip st := goC_ops
def k57_16 : ACode :=
  .ops q57_11 k57_15
@[simp] theorem xk57_16 : GoC fns Q s k57_16 st ↔ GoO fns Q s q57_11 k57_15 st := goC_ops
def k57_17 : ACode :=
  .ops [⟨.assign (.c (.int .u8 0)), (some 10), none⟩] k57_16
@[simp] theorem xk57_17 : GoC fns Q s k57_17 st ↔ GoO fns Q s [⟨.assign (.c (.int .u8 0)), (some 10), none⟩] k57_16 st := goC_ops
def k57_18 : ACode :=
  .ops q57_12 .skip
@[simp] theorem xk57_18 : GoC fns Q s k57_18 st ↔ GoO fns Q s q57_12 .skip st := goC_ops
def k57_19 : ACode :=
  .ops q57_13 k57_18
@[simp] theorem xk57_19 : GoC fns Q s k57_19 st ↔ GoO fns Q s q57_13 k57_18 st := goC_ops
def k57_20 : ACode :=
  .ops [⟨.newobj [.int .u8 0, .int .u8 0, .int .u8 0, .int .u8 0, .int .u8 0, .int .u8 0, .int .u8 0, .int .u8 0, .int .u8 0, .int .u8 0, .int .u8 0, .int .u8 0], (some 11), none⟩] k57_19
@[simp] theorem xk57_20 : GoC fns Q s k57_20 st ↔ GoO fns Q s [⟨.newobj [.int .u8 0, .int .u8 0, .int .u8 0, .int .u8 0, .int .u8 0, .int .u8 0, .int .u8 0, .int .u8 0, .int .u8 0, .int .u8 0, .int .u8 0, .int .u8 0], (some 11), none⟩] k57_19 st := goC_ops
def k57_21 : ACode :=
  .ops q57_14 .skip
@[simp] theorem xk57_21 : GoC fns Q s k57_21 st ↔ GoO fns Q s q57_14 .skip st := goC_ops
def k57_22 : ACode :=
  .ops q57_15 k57_21
@[simp] theorem xk57_22 : GoC fns Q s k57_22 st ↔ GoO fns Q s q57_15 k57_21 st := goC_ops
def k57_23 : ACode :=
  .ops [⟨.assign (.c (.bool false)), (some 12), none⟩] k57_22
@[simp] theorem xk57_23 : GoC fns Q s k57_23 st ↔ GoO fns Q s [⟨.assign (.c (.bool false)), (some 12), none⟩] k57_22 st := goC_ops
def k57_24 : ACode :=
  .ops q57_16 .skip
@[simp] theorem xk57_24 : GoC fns Q s k57_24 st ↔ GoO fns Q s q57_16 .skip st := goC_ops
def k57_25 : ACode :=
  .ops q57_17 .skip
@[simp] theorem xk57_25 : GoC fns Q s k57_25 st ↔ GoO fns Q s q57_17 .skip st := goC_ops
def k57_26 : ACode :=
  .ops q57_18 .skip
@[simp] theorem xk57_26 : GoC fns Q s k57_26 st ↔ GoO fns Q s q57_18 .skip st := goC_ops
def k57_27 : ACode :=
  .ops q57_19 k57_26
@[simp] theorem xk57_27 : GoC fns Q s k57_27 st ↔ GoO fns Q s q57_19 k57_26 st := goC_ops
def k57_28 : ACode :=
  .ops [⟨.newobj [.int .u8 0, .int .u8 0, .int .u8 0, .int .u8 0, .int .u8 0, .int .u8 0, .int .u8 0, .int .u8 0, .int .u8 0, .int .u8 0, .int .u8 0, .int .u8 0], (some 13), none⟩] k57_27
@[simp] theorem xk57_28 : GoC fns Q s k57_28 st ↔ GoO fns Q s [⟨.newobj [.int .u8 0, .int .u8 0, .int .u8 0, .int .u8 0, .int .u8 0, .int .u8 0, .int .u8 0, .int .u8 0, .int .u8 0, .int .u8 0, .int .u8 0, .int .u8 0], (some 13), none⟩] k57_27 st := goC_ops
def k57_29 : ACode :=
  .ops q57_20 .skip
@[simp] theorem xk57_29 : GoC fns Q s k57_29 st ↔ GoO fns Q s q57_20 .skip st := goC_ops
def k57_30 : ACode :=
  .ops q57_21 .skip
@[simp] theorem xk57_30 : GoC fns Q s k57_30 st ↔ GoO fns Q s q57_21 .skip st := goC_ops
def k57_31 : ACode :=
  .ops q57_22 .skip
@[simp] theorem xk57_31 : GoC fns Q s k57_31 st ↔ GoO fns Q s q57_22 .skip st := goC_ops
def k57_32 : ACode :=
  .ops q57_23 k57_31
@[simp] theorem xk57_32 : GoC fns Q s k57_32 st ↔ GoO fns Q s q57_23 k57_31 st := goC_ops
def k57_33 : ACode :=
  .ops q57_24 .skip
@[simp] theorem xk57_33 : GoC fns Q s k57_33 st ↔ GoO fns Q s q57_24 .skip st := goC_ops
def k57_34 : ACode :=
  .ops q57_25 k57_33
@[simp] theorem xk57_34 : GoC fns Q s k57_34 st ↔ GoO fns Q s q57_25 k57_33 st := goC_ops
def k57_35 : ACode :=
  .ops [⟨.assign (.c (.int .i32 0)), (some 14), none⟩] k57_34
@[simp] theorem xk57_35 : GoC fns Q s k57_35 st ↔ GoO fns Q s [⟨.assign (.c (.int .i32 0)), (some 14), none⟩] k57_34 st := goC_ops
def k57_36 : ACode :=
  .ops q57_26 .skip
@[simp] theorem xk57_36 : GoC fns Q s k57_36 st ↔ GoO fns Q s q57_26 .skip st := goC_ops
def k57_37 : ACode :=
  .ops q57_27 k57_36
@[simp] theorem xk57_37 : GoC fns Q s k57_37 st ↔ GoO fns Q s q57_27 k57_36 st := goC_ops
def k57_38 : ACode :=
  .ops q57_28 k57_37
@[simp] theorem xk57_38 : GoC fns Q s k57_38 st ↔ GoO fns Q s q57_28 k57_37 st := goC_ops
def k57_39 : ACode :=
  .ops q57_29 .skip
@[simp] theorem xk57_39 : GoC fns Q s k57_39 st ↔ GoO fns Q s q57_29 .skip st := goC_ops
def k57_40 : ACode :=
  .ops q57_30 .skip
@[simp] theorem xk57_40 : GoC fns Q s k57_40 st ↔ GoO fns Q s q57_30 .skip st := goC_ops
def k57_41 : ACode :=
  .ops q57_31 .skip
@[simp] theorem xk57_41 : GoC fns Q s k57_41 st ↔ GoO fns Q s q57_31 .skip st := goC_ops
def k57_42 : ACode :=
  .cond (.p 211) k57_40 k57_41
@[simp] theorem xk57_42 : GoC fns Q s k57_42 st ↔ GB fns Q s (peek st (.p 211)) k57_40 k57_41 st := goC_cond
def k57_43 : ACode :=
  .ops q57_32 k57_42
@[simp] theorem xk57_43 : GoC fns Q s k57_43 st ↔ GoO fns Q s q57_32 k57_42 st := goC_ops
def k57_44 : ACode :=
  .cond (.p 202) k57_39 k57_43
@[simp] theorem xk57_44 : GoC fns Q s k57_44 st ↔ GB fns Q s (peek st (.p 202)) k57_39 k57_43 st := goC_cond
def k57_45 : ACode :=
  .ops q57_33 k57_44
@[simp] theorem xk57_45 : GoC fns Q s k57_45 st ↔ GoO fns Q s q57_33 k57_44 st := goC_ops
def k57_46 : ACode :=
  .cond (.p 186) k57_38 k57_45
@[simp] theorem xk57_46 : GoC fns Q s k57_46 st ↔ GB fns Q s (peek st (.p 186)) k57_38 k57_45 st := goC_cond
def k57_47 : ACode :=
  .ops q57_34 k57_46
@[simp] theorem xk57_47 : GoC fns Q s k57_47 st ↔ GoO fns Q s q57_34 k57_46 st := goC_ops
def k57_48 : ACode :=
  .cond (.p 175) k57_35 k57_47
@[simp] theorem xk57_48 : GoC fns Q s k57_48 st ↔ GB fns Q s (peek st (.p 175)) k57_35 k57_47 st := goC_cond
def k57_49 : ACode :=
  .ops q57_35 k57_48
@[simp] theorem xk57_49 : GoC fns Q s k57_49 st ↔ GoO fns Q s q57_35 k57_48 st := goC_ops
def k57_50 : ACode :=
  .cond (.p 160) k57_32 k57_49
@[simp] theorem xk57_50 : GoC fns Q s k57_50 st ↔ GB fns Q s (peek st (.p 160)) k57_32 k57_49 st := goC_cond
def k57_51 : ACode :=
  .ops q57_36 k57_50
@[simp] theorem xk57_51 : GoC fns Q s k57_51 st ↔ GoO fns Q s q57_36 k57_50 st := goC_ops
def k57_52 : ACode :=
  .cond (.p 151) k57_30 k57_51
@[simp] theorem xk57_52 : GoC fns Q s k57_52 st ↔ GB fns Q s (peek st (.p 151)) k57_30 k57_51 st := goC_cond
def k57_53 : ACode :=
  .ops q57_37 k57_52
@[simp] theorem xk57_53 : GoC fns Q s k57_53 st ↔ GoO fns Q s q57_37 k57_52 st := goC_ops
def k57_54 : ACode :=
  .cond (.p 142) k57_29 k57_53
@[simp] theorem xk57_54 : GoC fns Q s k57_54 st ↔ GB fns Q s (peek st (.p 142)) k57_29 k57_53 st := goC_cond
def k57_55 : ACode :=
  .ops q57_38 k57_54
@[simp] theorem xk57_55 : GoC fns Q s k57_55 st ↔ GoO fns Q s q57_38 k57_54 st := goC_ops
def k57_56 : ACode :=
  .cond (.p 129) k57_28 k57_55
@[simp] theorem xk57_56 : GoC fns Q s k57_56 st ↔ GB fns Q s (peek st (.p 129)) k57_28 k57_55 st := goC_cond
def k57_57 : ACode :=
  .ops q57_39 k57_56
@[simp] theorem xk57_57 : GoC fns Q s k57_57 st ↔ GoO fns Q s q57_39 k57_56 st := goC_ops
def k57_58 : ACode :=
  .cond (.p 118) k57_25 k57_57
@[simp] theorem xk57_58 : GoC fns Q s k57_58 st ↔ GB fns Q s (peek st (.p 118)) k57_25 k57_57 st := goC_cond
def k57_59 : ACode :=
  .ops q57_40 k57_58
@[simp] theorem xk57_59 : GoC fns Q s k57_59 st ↔ GoO fns Q s q57_40 k57_58 st := goC_ops
def k57_60 : ACode :=
  .cond (.p 109) k57_24 k57_59
@[simp] theorem xk57_60 : GoC fns Q s k57_60 st ↔ GB fns Q s (peek st (.p 109)) k57_24 k57_59 st := goC_cond
def k57_61 : ACode :=
  .ops q57_41 k57_60
@[simp] theorem xk57_61 : GoC fns Q s k57_61 st ↔ GoO fns Q s q57_41 k57_60 st := goC_ops
def k57_62 : ACode :=
  .cond (.p 98) k57_23 k57_61
@[simp] theorem xk57_62 : GoC fns Q s k57_62 st ↔ GB fns Q s (peek st (.p 98)) k57_23 k57_61 st := goC_cond
def k57_63 : ACode :=
  .ops q57_42 k57_62
@[simp] theorem xk57_63 : GoC fns Q s k57_63 st ↔ GoO fns Q s q57_42 k57_62 st := goC_ops
def k57_64 : ACode :=
  .cond (.p 87) k57_20 k57_63
@[simp] theorem xk57_64 : GoC fns Q s k57_64 st ↔ GB fns Q s (peek st (.p 87)) k57_20 k57_63 st := goC_cond
def k57_65 : ACode :=
  .ops q57_43 k57_64
@[simp] theorem xk57_65 : GoC fns Q s k57_65 st ↔ GoO fns Q s q57_43 k57_64 st := goC_ops
def k57_66 : ACode :=
  .cond (.p 70) k57_17 k57_65
@[simp] theorem xk57_66 : GoC fns Q s k57_66 st ↔ GB fns Q s (peek st (.p 70)) k57_17 k57_65 st := goC_cond
def k57_67 : ACode :=
  .ops q57_44 k57_66
@[simp] theorem xk57_67 : GoC fns Q s k57_67 st ↔ GoO fns Q s q57_44 k57_66 st := goC_ops
def k57_68 : ACode :=
  .cond (.p 59) k57_14 k57_67
@[simp] theorem xk57_68 : GoC fns Q s k57_68 st ↔ GB fns Q s (peek st (.p 59)) k57_14 k57_67 st := goC_cond
def k57_69 : ACode :=
  .ops q57_45 k57_68
@[simp] theorem xk57_69 : GoC fns Q s k57_69 st ↔ GoO fns Q s q57_45 k57_68 st := goC_ops
def k57_70 : ACode :=
  .cond (.p 48) k57_11 k57_69
@[simp] theorem xk57_70 : GoC fns Q s k57_70 st ↔ GB fns Q s (peek st (.p 48)) k57_11 k57_69 st := goC_cond
def k57_71 : ACode :=
  .ops q57_46 k57_70
@[simp] theorem xk57_71 : GoC fns Q s k57_71 st ↔ GoO fns Q s q57_46 k57_70 st := goC_ops
def k57_72 : ACode :=
  .cond (.p 39) k57_8 k57_71
@[simp] theorem xk57_72 : GoC fns Q s k57_72 st ↔ GB fns Q s (peek st (.p 39)) k57_8 k57_71 st := goC_cond
def k57_73 : ACode :=
  .ops q57_47 k57_72
@[simp] theorem xk57_73 : GoC fns Q s k57_73 st ↔ GoO fns Q s q57_47 k57_72 st := goC_ops
def k57_74 : ACode :=
  .cond (.p 28) k57_7 k57_73
@[simp] theorem xk57_74 : GoC fns Q s k57_74 st ↔ GB fns Q s (peek st (.p 28)) k57_7 k57_73 st := goC_cond
def k57_75 : ACode :=
  .ops q57_48 k57_74
@[simp] theorem xk57_75 : GoC fns Q s k57_75 st ↔ GoO fns Q s q57_48 k57_74 st := goC_ops
def k57_76 : ACode :=
  .block 0 k57_75
@[simp] theorem xk57_76 : GoC fns Q s k57_76 st ↔ GoC fns Q (.bl 0 :: s) k57_75 st := goC_block
def k57_77 : ACode :=
  .seq k57_76 k57_4
@[simp] theorem xk57_77 : GoC fns Q s k57_77 st ↔ GoC fns Q (.sq k57_4 :: s) k57_76 st := goC_seq
def k57_78 : ACode :=
  .ops [⟨.move .head (.p 0), (some 19), none⟩] k57_77
@[simp] theorem xk57_78 : GoC fns Q s k57_78 st ↔ GoO fns Q s [⟨.move .head (.p 0), (some 19), none⟩] k57_77 st := goC_ops
def k57_79 : ACode :=
  .ops q57_49 k57_78
@[simp] theorem xk57_79 : GoC fns Q s k57_79 st ↔ GoO fns Q s q57_49 k57_78 st := goC_ops
def k57_80 : ACode :=
  .ops q57_50 k57_79
@[simp] theorem xk57_80 : GoC fns Q s k57_80 st ↔ GoO fns Q s q57_50 k57_79 st := goC_ops
def af57 : AFunc := ⟨229, k57_80, [.cell 4 true 8, .tmp 5, .tmp 6], fun _ => none⟩

theorem ok57 : ∃ hs, pFunc Tryz.prog sg hs Tryz.f57 = some af57 := ⟨fun i => if i == 11 then 1 else if i == 13 then 1 else 0, by kernel_rfl⟩
def q166_0 : List AOper :=
  [⟨.move .look (.t 0), (some 5), none⟩,
    ⟨.move .look (.t 1), (some 6), none⟩,
    ⟨.build [.slice .nil 0 1 [], .slice .nil 0 1 []] [(0, 1, .t 5), (1, 1, .t 6)], (some 7), none⟩,
    ⟨.store 2 (.p 4) (.p 7), none, none⟩]
@[simp] def eq166_0 := id q166_0.eq_1
def k166_0 : ACode :=
  .ops q166_0 .ret
@[simp] theorem xk166_0 : GoC fns Q s k166_0 st ↔ GoO fns Q s q166_0 .ret st := goC_ops
def k166_1 : ACode :=
  .ops [⟨.newbox 4 [.slice .nil 0 1 [], .slice .nil 0 1 []], (some 4), none⟩] k166_0
@[simp] theorem xk166_1 : GoC fns Q s k166_1 st ↔ GoO fns Q s [⟨.newbox 4 [.slice .nil 0 1 [], .slice .nil 0 1 []], (some 4), none⟩] k166_0 st := goC_ops
def af166 : AFunc := ⟨8, k166_1, [.cell 4 true 2], fun _ => none⟩

theorem ok166 : ∃ hs, pFunc Tryz.prog sg hs Tryz.f166 = some af166 := ⟨fun i => 0, by kernel_rfl⟩
def q258_0 : List AOper :=
  [⟨.move .look (.t 0), (some 15), none⟩,
    ⟨.move .look (.p 4), (some 16), none⟩,
    ⟨.bin .add 1 true (.p 16) (.c (.int .i64 1)), (some 17), none⟩,
    ⟨.sliceSl 1 (.t 15) (some (.c (.int .i64 1))) (some (.p 17)), (some 18), none⟩,
    ⟨.assign (.t 18), (some 2), none⟩,
    ⟨.assign (.c (.nilI)), (some 3), none⟩]
@[simp] def eq258_0 := id q258_0.eq_1
def q258_1 : List AOper :=
  [⟨.mkIface 241 (.c (.str [101, 108, 101, 109, 101, 110, 116, 32, 105, 115, 32, 109, 105, 115, 115, 105, 110, 103, 32, 107, 101, 121])), (some 14), none⟩,
    ⟨.assign (.c (.slice .nil 0 1 [])), (some 2), none⟩,
    ⟨.assign (.p 14), (some 3), none⟩]
@[simp] def eq258_1 := id q258_1.eq_1
def q258_2 : List AOper :=
  [⟨.move .head (.p 4), (some 12), none⟩,
    ⟨.bin .eql 1 true (.p 12) (.c (.int .i64 (-1))), (some 13), none⟩]
@[simp] def eq258_2 := id q258_2.eq_1
def q258_3 : List AOper :=
  [⟨.move .look (.t 0), (some 9), none⟩,
    ⟨.sliceSl 1 (.t 9) (some (.c (.int .i64 1))) none, (some 10), none⟩,
    ⟨.call 220 [(.t 10, false), (.c (.int .u8 0), false)], (some 11), none⟩,
    ⟨.assign (.p 11), (some 4), none⟩]
@[simp] def eq258_3 := id q258_3.eq_1
def q258_4 : List AOper :=
  [⟨.mkIface 241 (.c (.str [101, 108, 101, 109, 101, 110, 116, 32, 105, 115, 32, 109, 105, 115, 115, 105, 110, 103, 32, 116, 121, 112, 101])), (some 8), none⟩,
    ⟨.assign (.c (.slice .nil 0 1 [])), (some 2), none⟩,
    ⟨.assign (.p 8), (some 3), none⟩]
@[simp] def eq258_4 := id q258_4.eq_1
def q258_5 : List AOper :=
  [⟨.move .head (.t 0), (some 5), none⟩,
    ⟨.len false (.p 5), (some 6), none⟩,
    ⟨.bin .eql 1 true (.p 6) (.c (.int .i64 0)), (some 7), none⟩]
@[simp] def eq258_5 := id q258_5.eq_1
def q258_6 : List AOper :=
  [⟨.assign (.c (.slice .nil 0 1 [])), (some 2), none⟩,
    ⟨.assign (.c (.nilI)), (some 3), none⟩]
@[simp] def eq258_6 := id q258_6.eq_1
def k258_0 : ACode :=
  .ops q258_0 .ret
@[simp] theorem xk258_0 : GoC fns Q s k258_0 st ↔ GoO fns Q s q258_0 .ret st := goC_ops
def k258_1 : ACode :=
  .ops q258_1 .ret
@[simp] theorem xk258_1 : GoC fns Q s k258_1 st ↔ GoO fns Q s q258_1 .ret st := goC_ops
def k258_2 : ACode :=
  .cond (.p 13) k258_1 .skip
@[simp] theorem xk258_2 : GoC fns Q s k258_2 st ↔ GB fns Q s (peek st (.p 13)) k258_1 .skip st := goC_cond
def k258_3 : ACode :=
  .seq k258_2 k258_0
@[simp] theorem xk258_3 : GoC fns Q s k258_3 st ↔ GoC fns Q (.sq k258_0 :: s) k258_2 st := goC_seq
def k258_4 : ACode :=
  .ops q258_2 k258_3
@[simp] theorem xk258_4 : GoC fns Q s k258_4 st ↔ GoO fns Q s q258_2 k258_3 st := goC_ops
def k258_5 : ACode :=
  .ops q258_3 k258_4
@[simp] theorem xk258_5 : GoC fns Q s k258_5 st ↔ GoO fns Q s q258_3 k258_4 st := goC_ops
def k258_6 : ACode :=
  .ops q258_4 .ret
@[simp] theorem xk258_6 : GoC fns Q s k258_6 st ↔ GoO fns Q s q258_4 .ret st := goC_ops
def k258_7 : ACode :=
  .cond (.p 7) k258_6 .skip
@[simp] theorem xk258_7 : GoC fns Q s k258_7 st ↔ GB fns Q s (peek st (.p 7)) k258_6 .skip st := goC_cond
def k258_8 : ACode :=
  .seq k258_7 k258_5
@[simp] theorem xk258_8 : GoC fns Q s k258_8 st ↔ GoC fns Q (.sq k258_5 :: s) k258_7 st := goC_seq
def k258_9 : ACode :=
  .ops q258_5 k258_8
@[simp] theorem xk258_9 : GoC fns Q s k258_9 st ↔ GoO fns Q s q258_5 k258_8 st := goC_ops
def k258_10 : ACode :=
  .ops q258_6 k258_9
@[simp] theorem xk258_10 : GoC fns Q s k258_10 st ↔ GoO fns Q s q258_6 k258_9 st := goC_ops
def af258 : AFunc := ⟨19, k258_10, [.tmp 2, .tmp 3], fun _ => none⟩

theorem ok258 : ∃ hs, pFunc Tryz.prog sg hs Tryz.f258 = some af258 := ⟨fun i => 0, by kernel_rfl⟩
def q214_0 : List AOper :=
  [⟨.move .take (.t 3), (some 10), none⟩,
    ⟨.assign (.t 10), (some 2), none⟩]
@[simp] def eq214_0 := id q214_0.eq_1
def q214_1 : List AOper :=
  [⟨.move .look (.t 0), (some 6), none⟩,
    ⟨.call 258 [(.t 6, false)], (some 7), none⟩,
    ⟨.move .look (.t 7), (some 5), none⟩,
    ⟨.extract 5 0, (some 8), none⟩,
    ⟨.extract 5 1, (some 9), none⟩,
    ⟨.assign (.t 8), (some 3), none⟩,
    ⟨.assign (.p 9), (some 4), none⟩]
@[simp] def eq214_1 := id q214_1.eq_1
def k214_0 : ACode :=
  .ops q214_0 .ret
@[simp] theorem xk214_0 : GoC fns Q s k214_0 st ↔ GoO fns Q s q214_0 .ret st := goC_ops
def k214_1 : ACode :=
  .ops q214_1 k214_0
@[simp] theorem xk214_1 : GoC fns Q s k214_1 st ↔ GoO fns Q s q214_1 k214_0 st := goC_ops
def k214_2 : ACode :=
  .ops [⟨.assign (.c (.slice .nil 0 1 [])), (some 2), none⟩] k214_1
@[simp] theorem xk214_2 : GoC fns Q s k214_2 st ↔ GoO fns Q s [⟨.assign (.c (.slice .nil 0 1 [])), (some 2), none⟩] k214_1 st := goC_ops
def af214 : AFunc := ⟨11, k214_2, [.tmp 2], fun _ => none⟩

theorem ok214 : ∃ hs, pFunc Tryz.prog sg hs Tryz.f214 = some af214 := ⟨fun i => 0, by kernel_rfl⟩
def q218_0 : List AOper :=
  [⟨.load .take true 2 (.p 5), (some 39), none⟩,
    ⟨.store 2 (.p 2) (.p 39), none, none⟩,
    ⟨.assign (.c (.nilI)), (some 3), none⟩]
@[simp] def eq218_0 := id q218_0.eq_1
def q218_1 : List AOper :=
  [⟨.build [.int .u8 0, .slice .nil 0 1 []] [], (some 34), none⟩,
    ⟨.move .look (.t 0), (some 35), none⟩,
    ⟨.move .look (.t 6), (some 36), none⟩,
    ⟨.call 166 [(.t 35, false), (.t 36, false)], (some 37), none⟩,
    ⟨.mkIface 239 (.p 37), (some 38), none⟩,
    ⟨.store 2 (.p 2) (.p 34), none, none⟩,
    ⟨.assign (.p 38), (some 3), none⟩]
@[simp] def eq218_1 := id q218_1.eq_1
def q218_2 : List AOper :=
  [⟨.move .look (.p 7), (some 32), none⟩,
    ⟨.un .not (.p 32), (some 33), none⟩]
@[simp] def eq218_2 := id q218_2.eq_1
def q218_3 : List AOper :=
  [⟨.move .look (.t 0), (some 21), none⟩,
    ⟨.move .look (.p 4), (some 22), none⟩,
    ⟨.bin .add 1 true (.p 22) (.c (.int .i64 2)), (some 23), none⟩,
    ⟨.sliceSl 1 (.t 21) (some (.p 23)) none, (some 24), none⟩,
    ⟨.move .look (.t 0), (some 25), none⟩,
    ⟨.indexAddr 1 (.t 25) (.c (.int .i64 0)), (some 26), none⟩,
    ⟨.load .look false 1 (.p 26), (some 27), none⟩,
    ⟨.call 61 [(.t 24, false), (.p 27, false)], (some 28), none⟩,
    ⟨.move .look (.t 28), (some 20), none⟩,
    ⟨.extract 20 0, (some 29), none⟩,
    ⟨.extract 20 1, (some 30), none⟩,
    ⟨.extract 20 2, (some 31), none⟩,
    ⟨.newbox1 5 [.int .u8 0, .slice .nil 0 1 []], (some 5), none⟩,
    ⟨.store 2 (.p 5) (.p 29), none, none⟩,
    ⟨.assign (.t 30), (some 6), none⟩,
    ⟨.assign (.p 31), (some 7), none⟩]
@[simp] def eq218_3 := id q218_3.eq_1
def q218_4 : List AOper :=
  [⟨.build [.int .u8 0, .slice .nil 0 1 []] [], (some 18), none⟩,
    ⟨.mkIface 241 (.c (.str [101, 108, 101, 109, 101, 110, 116, 32, 105, 115, 32, 109, 105, 115, 115, 105, 110, 103, 32, 107, 101, 121])), (some 19), none⟩,
    ⟨.store 2 (.p 2) (.p 18), none, none⟩,
    ⟨.assign (.p 19), (some 3), none⟩]
@[simp] def eq218_4 := id q218_4.eq_1
def q218_5 : List AOper :=
  [⟨.move .head (.p 4), (some 16), none⟩,
    ⟨.bin .eql 1 true (.p 16) (.c (.int .i64 (-1))), (some 17), none⟩]
@[simp] def eq218_5 := id q218_5.eq_1
def q218_6 : List AOper :=
  [⟨.move .look (.t 0), (some 13), none⟩,
    ⟨.sliceSl 1 (.t 13) (some (.c (.int .i64 1))) none, (some 14), none⟩,
    ⟨.call 220 [(.t 14, false), (.c (.int .u8 0), false)], (some 15), none⟩,
    ⟨.assign (.p 15), (some 4), none⟩]
@[simp] def eq218_6 := id q218_6.eq_1
def q218_7 : List AOper :=
  [⟨.build [.int .u8 0, .slice .nil 0 1 []] [], (some 11), none⟩,
    ⟨.mkIface 241 (.c (.str [101, 108, 101, 109, 101, 110, 116, 32, 105, 115, 32, 109, 105, 115, 115, 105, 110, 103, 32, 116, 121, 112, 101])), (some 12), none⟩,
    ⟨.store 2 (.p 2) (.p 11), none, none⟩,
    ⟨.assign (.p 12), (some 3), none⟩]
@[simp] def eq218_7 := id q218_7.eq_1
def q218_8 : List AOper :=
  [⟨.move .head (.t 0), (some 8), none⟩,
    ⟨.len false (.p 8), (some 9), none⟩,
    ⟨.bin .eql 1 true (.p 9) (.c (.int .i64 0)), (some 10), none⟩]
@[simp] def eq218_8 := id q218_8.eq_1
def q218_9 : List AOper :=
  [⟨.newbox 2 [.int .u8 0, .slice .nil 0 1 []], (some 2), none⟩,
    ⟨.assign (.c (.nilI)), (some 3), none⟩]
@[simp] def eq218_9 := id q218_9.eq_1
def k218_0 : ACode :=
  .ops q218_0 .ret
@[simp] theorem xk218_0 : GoC fns Q s k218_0 st ↔ GoO fns Q s q218_0 .ret st := goC_ops
def k218_1 : ACode :=
  .ops q218_1 .ret
@[simp] theorem xk218_1 : GoC fns Q s k218_1 st ↔ GoO fns Q s q218_1 .ret st := goC_ops
def k218_2 : ACode :=
  .cond (.p 33) k218_1 .skip
@[simp] theorem xk218_2 : GoC fns Q s k218_2 st ↔ GB fns Q s (peek st (.p 33)) k218_1 .skip st := goC_cond
def k218_3 : ACode :=
  .seq k218_2 k218_0
@[simp] theorem xk218_3 : GoC fns Q s k218_3 st ↔ GoC fns Q (.sq k218_0 :: s) k218_2 st := goC_seq
def k218_4 : ACode :=
  .ops q218_2 k218_3
@[simp] theorem xk218_4 : GoC fns Q s k218_4 st ↔ GoO fns Q s q218_2 k218_3 st := goC_ops
def k218_5 : ACode :=
  .ops q218_3 k218_4
@[simp] theorem xk218_5 : GoC fns Q s k218_5 st ↔ GoO fns Q s q218_3 k218_4 st := goC_ops
def k218_6 : ACode :=
  .ops q218_4 .ret
@[simp] theorem xk218_6 : GoC fns Q s k218_6 st ↔ GoO fns Q s q218_4 .ret st := goC_ops
def k218_7 : ACode :=
  .cond (.p 17) k218_6 .skip
@[simp] theorem xk218_7 : GoC fns Q s k218_7 st ↔ GB fns Q s (peek st (.p 17)) k218_6 .skip st := goC_cond
def k218_8 : ACode :=
  .seq k218_7 k218_5
@[simp] theorem xk218_8 : GoC fns Q s k218_8 st ↔ GoC fns Q (.sq k218_5 :: s) k218_7 st := goC_seq
def k218_9 : ACode :=
  .ops q218_5 k218_8
@[simp] theorem xk218_9 : GoC fns Q s k218_9 st ↔ GoO fns Q s q218_5 k218_8 st := goC_ops
def k218_10 : ACode :=
  .ops q218_6 k218_9
@[simp] theorem xk218_10 : GoC fns Q s k218_10 st ↔ GoO fns Q s q218_6 k218_9 st := goC_ops
def k218_11 : ACode :=
  .ops q218_7 .ret
@[simp] theorem xk218_11 : GoC fns Q s k218_11 st ↔ GoO fns Q s q218_7 .ret st := goC_ops
def k218_12 : ACode :=
  .cond (.p 10) k218_11 .skip
@[simp] theorem xk218_12 : GoC fns Q s k218_12 st ↔ GB fns Q s (peek st (.p 10)) k218_11 .skip st := goC_cond
def k218_13 : ACode :=
  .seq k218_12 k218_10
@[simp] theorem xk218_13 : GoC fns Q s k218_13 st ↔ GoC fns Q (.sq k218_10 :: s) k218_12 st := goC_seq
def k218_14 : ACode :=
  .ops q218_8 k218_13
@[simp] theorem xk218_14 : GoC fns Q s k218_14 st ↔ GoO fns Q s q218_8 k218_13 st := goC_ops
def k218_15 : ACode :=
  .ops q218_9 k218_14
@[simp] theorem xk218_15 : GoC fns Q s k218_15 st ↔ GoO fns Q s q218_9 k218_14 st := goC_ops
def af218 : AFunc := ⟨40, k218_15, [.cell 2 true 2, .tmp 3], fun _ => none⟩

theorem ok218 : ∃ hs, pFunc Tryz.prog sg hs Tryz.f218 = some af218 := ⟨fun i => if i == 5 then 4 else 0, by kernel_rfl⟩
def q170_0 : List AOper :=
  [⟨.load .take true 2 (.p 3), (some 10), none⟩,
    ⟨.store 2 (.p 2) (.p 10), none, none⟩]
@[simp] def eq170_0 := id q170_0.eq_1
def q170_1 : List AOper :=
  [⟨.move .look (.t 0), (some 6), none⟩,
    ⟨.call 218 [(.t 6, false)], (some 7), none⟩,
    ⟨.move .look (.t 7), (some 5), none⟩,
    ⟨.extract 5 0, (some 8), none⟩,
    ⟨.extract 5 1, (some 9), none⟩,
    ⟨.newbox 3 [.int .u8 0, .slice .nil 0 1 []], (some 3), none⟩,
    ⟨.store 2 (.p 3) (.p 8), none, none⟩,
    ⟨.assign (.p 9), (some 4), none⟩]
@[simp] def eq170_1 := id q170_1.eq_1
def k170_0 : ACode :=
  .ops q170_0 .ret
@[simp] theorem xk170_0 : GoC fns Q s k170_0 st ↔ GoO fns Q s q170_0 .ret st := goC_ops
def k170_1 : ACode :=
  .ops q170_1 k170_0
@[simp] theorem xk170_1 : GoC fns Q s k170_1 st ↔ GoO fns Q s q170_1 k170_0 st := goC_ops
def k170_2 : ACode :=
  .ops [⟨.newbox 2 [.int .u8 0, .slice .nil 0 1 []], (some 2), none⟩] k170_1
@[simp] theorem xk170_2 : GoC fns Q s k170_2 st ↔ GoO fns Q s [⟨.newbox 2 [.int .u8 0, .slice .nil 0 1 []], (some 2), none⟩] k170_1 st := goC_ops
def af170 : AFunc := ⟨11, k170_2, [.cell 2 true 2], fun _ => none⟩

theorem ok170 : ∃ hs, pFunc Tryz.prog sg hs Tryz.f170 = some af170 := ⟨fun i => 0, by kernel_rfl⟩
def q215_0 : List AOper :=
  [⟨.move .take (.t 3), (some 28), none⟩,
    ⟨.assign (.t 28), (some 2), none⟩]
@[simp] def eq215_0 := id q215_0.eq_1
def q215_1 : List AOper :=
  [⟨.fieldAddr 1 (.p 1), (some 22), none⟩,
    ⟨.load .look false 1 (.p 22), (some 23), none⟩,
    ⟨.fieldAddr 1 (.p 1), (some 24), none⟩,
    ⟨.load .look false 1 (.p 24), (some 25), none⟩,
    ⟨.call 166 [(.t 23, false), (.t 25, false)], (some 26), none⟩,
    ⟨.mkIface 239 (.p 26), (some 27), none⟩,
    ⟨.dead, none, none⟩]
@[simp] def eq215_1 := id q215_1.eq_1
def q215_2 : List AOper :=
  [⟨.move .look (.p 5), (some 20), none⟩,
    ⟨.un .not (.p 20), (some 21), none⟩]
@[simp] def eq215_2 := id q215_2.eq_1
def q215_3 : List AOper :=
  [⟨.fieldAddr 1 (.p 1), (some 14), none⟩,
    ⟨.load .look false 1 (.p 14), (some 15), none⟩,
    ⟨.call 146 [(.t 15, false)], (some 16), none⟩,
    ⟨.move .look (.t 16), (some 13), none⟩,
    ⟨.extract 13 0, (some 17), none⟩,
    ⟨.extract 13 1, (some 18), none⟩,
    ⟨.extract 13 2, (some 19), none⟩,
    ⟨.assign (.t 17), (some 3), none⟩,
    ⟨.assign (.t 18), (some 4), none⟩,
    ⟨.assign (.p 19), (some 5), none⟩]
@[simp] def eq215_3 := id q215_3.eq_1
def q215_4 : List AOper :=
  [⟨.fieldAddr 0 (.p 1), (some 9), none⟩,
    ⟨.load .look false 1 (.p 9), (some 10), none⟩,
    ⟨.build [.str [], .int .u8 0] [(0, 1, .c (.str [98, 115, 111, 110, 99, 111, 114, 101, 46, 86, 97, 108, 117, 101, 46, 68, 111, 99, 117, 109, 101, 110, 116])), (1, 1, .p 10)], (some 11), none⟩,
    ⟨.mkIface 330 (.p 11), (some 12), none⟩,
    ⟨.dead, none, none⟩]
@[simp] def eq215_4 := id q215_4.eq_1
def q215_5 : List AOper :=
  [⟨.fieldAddr 0 (.p 1), (some 6), none⟩,
    ⟨.load .head false 1 (.p 6), (some 7), none⟩,
    ⟨.bin .neq 1 true (.p 7) (.c (.int .u8 3)), (some 8), none⟩]
@[simp] def eq215_5 := id q215_5.eq_1
def q215_6 : List AOper :=
  [⟨.box 1 (.p 0), (some 1), none⟩,
    ⟨.assign (.c (.slice .nil 0 1 [])), (some 2), none⟩]
@[simp] def eq215_6 := id q215_6.eq_1
def k215_0 : ACode :=
  .ops q215_0 .ret
@[simp] theorem xk215_0 : GoC fns Q s k215_0 st ↔ GoO fns Q s q215_0 .ret st := goC_ops
def k215_1 : ACode :=
  .ops q215_1 .skip
@[simp] theorem xk215_1 : GoC fns Q s k215_1 st ↔ GoO fns Q s q215_1 .skip st := goC_ops
def k215_2 : ACode :=
  .cond (.p 21) k215_1 .skip
@[simp] theorem xk215_2 : GoC fns Q s k215_2 st ↔ GB fns Q s (peek st (.p 21)) k215_1 .skip st := goC_cond
def k215_3 : ACode :=
  .seq k215_2 k215_0
@[simp] theorem xk215_3 : GoC fns Q s k215_3 st ↔ GoC fns Q (.sq k215_0 :: s) k215_2 st := goC_seq
def k215_4 : ACode :=
  .ops q215_2 k215_3
@[simp] theorem xk215_4 : GoC fns Q s k215_4 st ↔ GoO fns Q s q215_2 k215_3 st := goC_ops
def k215_5 : ACode :=
  .ops q215_3 k215_4
@[simp] theorem xk215_5 : GoC fns Q s k215_5 st ↔ GoO fns Q s q215_3 k215_4 st := goC_ops
def k215_6 : ACode :=
  .ops q215_4 .skip
@[simp] theorem xk215_6 : GoC fns Q s k215_6 st ↔ GoO fns Q s q215_4 .skip st := goC_ops
def k215_7 : ACode :=
  .cond (.p 8) k215_6 .skip
@[simp] theorem xk215_7 : GoC fns Q s k215_7 st ↔ GB fns Q s (peek st (.p 8)) k215_6 .skip st := goC_cond
def k215_8 : ACode :=
  .seq k215_7 k215_5
@[simp] theorem xk215_8 : GoC fns Q s k215_8 st ↔ GoC fns Q (.sq k215_5 :: s) k215_7 st := goC_seq
def k215_9 : ACode :=
  .ops q215_5 k215_8
@[simp] theorem xk215_9 : GoC fns Q s k215_9 st ↔ GoO fns Q s q215_5 k215_8 st := goC_ops
def k215_10 : ACode :=
  .ops q215_6 k215_9
@[simp] theorem xk215_10 : GoC fns Q s k215_10 st ↔ GoO fns Q s q215_6 k215_9 st := goC_ops
def af215 : AFunc := ⟨29, k215_10, [.tmp 2], fun _ => none⟩

theorem ok215 : ∃ hs, pFunc Tryz.prog sg hs Tryz.f215 = some af215 := ⟨fun i => 0, by kernel_rfl⟩
def q216_0 : List AOper :=
  [⟨.move .take (.t 3), (some 28), none⟩,
    ⟨.assign (.t 28), (some 2), none⟩]
@[simp] def eq216_0 := id q216_0.eq_1
def q216_1 : List AOper :=
  [⟨.fieldAddr 1 (.p 1), (some 22), none⟩,
    ⟨.load .look false 1 (.p 22), (some 23), none⟩,
    ⟨.fieldAddr 1 (.p 1), (some 24), none⟩,
    ⟨.load .look false 1 (.p 24), (some 25), none⟩,
    ⟨.call 166 [(.t 23, false), (.t 25, false)], (some 26), none⟩,
    ⟨.mkIface 239 (.p 26), (some 27), none⟩,
    ⟨.dead, none, none⟩]
@[simp] def eq216_1 := id q216_1.eq_1
def q216_2 : List AOper :=
  [⟨.move .look (.p 5), (some 20), none⟩,
    ⟨.un .not (.p 20), (some 21), none⟩]
@[simp] def eq216_2 := id q216_2.eq_1
def q216_3 : List AOper :=
  [⟨.fieldAddr 1 (.p 1), (some 14), none⟩,
    ⟨.load .look false 1 (.p 14), (some 15), none⟩,
    ⟨.call 147 [(.t 15, false)], (some 16), none⟩,
    ⟨.move .look (.t 16), (some 13), none⟩,
    ⟨.extract 13 0, (some 17), none⟩,
    ⟨.extract 13 1, (some 18), none⟩,
    ⟨.extract 13 2, (some 19), none⟩,
    ⟨.assign (.t 17), (some 3), none⟩,
    ⟨.assign (.t 18), (some 4), none⟩,
    ⟨.assign (.p 19), (some 5), none⟩]
@[simp] def eq216_3 := id q216_3.eq_1
def q216_4 : List AOper :=
  [⟨.fieldAddr 0 (.p 1), (some 9), none⟩,
    ⟨.load .look false 1 (.p 9), (some 10), none⟩,
    ⟨.build [.str [], .int .u8 0] [(0, 1, .c (.str [98, 115, 111, 110, 99, 111, 114, 101, 46, 86, 97, 108, 117, 101, 46, 65, 114, 114, 97, 121])), (1, 1, .p 10)], (some 11), none⟩,
    ⟨.mkIface 330 (.p 11), (some 12), none⟩,
    ⟨.dead, none, none⟩]
@[simp] def eq216_4 := id q216_4.eq_1
def q216_5 : List AOper :=
  [⟨.fieldAddr 0 (.p 1), (some 6), none⟩,
    ⟨.load .head false 1 (.p 6), (some 7), none⟩,
    ⟨.bin .neq 1 true (.p 7) (.c (.int .u8 4)), (some 8), none⟩]
@[simp] def eq216_5 := id q216_5.eq_1
def q216_6 : List AOper :=
  [⟨.box 1 (.p 0), (some 1), none⟩,
    ⟨.assign (.c (.slice .nil 0 1 [])), (some 2), none⟩]
@[simp] def eq216_6 := id q216_6.eq_1
def k216_0 : ACode :=
  .ops q216_0 .ret
@[simp] theorem xk216_0 : GoC fns Q s k216_0 st ↔ GoO fns Q s q216_0 .ret st := goC_ops
def k216_1 : ACode :=
  .ops q216_1 .skip
@[simp] theorem xk216_1 : GoC fns Q s k216_1 st ↔ GoO fns Q s q216_1 .skip st := goC_ops
def k216_2 : ACode :=
  .cond (.p 21) k216_1 .skip
@[simp] theorem xk216_2 : GoC fns Q s k216_2 st ↔ GB fns Q s (peek st (.p 21)) k216_1 .skip st := goC_cond
def k216_3 : ACode :=
  .seq k216_2 k216_0
@[simp] theorem xk216_3 : GoC fns Q s k216_3 st ↔ GoC fns Q (.sq k216_0 :: s) k216_2 st := goC_seq
def k216_4 : ACode :=
  .ops q216_2 k216_3
@[simp] theorem xk216_4 : GoC fns Q s k216_4 st ↔ GoO fns Q s q216_2 k216_3 st := goC_ops
def k216_5 : ACode :=
  .ops q216_3 k216_4
@[simp] theorem xk216_5 : GoC fns Q s k216_5 st ↔ GoO fns Q s q216_3 k216_4 st := goC_ops
def k216_6 : ACode :=
  .ops q216_4 .skip
@[simp] theorem xk216_6 : GoC fns Q s k216_6 st ↔ GoO fns Q s q216_4 .skip st := goC_ops
def k216_7 : ACode :=
  .cond (.p 8) k216_6 .skip
@[simp] theorem xk216_7 : GoC fns Q s k216_7 st ↔ GB fns Q s (peek st (.p 8)) k216_6 .skip st := goC_cond
def k216_8 : ACode :=
  .seq k216_7 k216_5
@[simp] theorem xk216_8 : GoC fns Q s k216_8 st ↔ GoC fns Q (.sq k216_5 :: s) k216_7 st := goC_seq
def k216_9 : ACode :=
  .ops q216_5 k216_8
@[simp] theorem xk216_9 : GoC fns Q s k216_9 st ↔ GoO fns Q s q216_5 k216_8 st := goC_ops
def k216_10 : ACode :=
  .ops q216_6 k216_9
@[simp] theorem xk216_10 : GoC fns Q s k216_10 st ↔ GoO fns Q s q216_6 k216_9 st := goC_ops
def af216 : AFunc := ⟨29, k216_10, [.tmp 2], fun _ => none⟩

theorem ok216 : ∃ hs, pFunc Tryz.prog sg hs Tryz.f216 = some af216 := ⟨fun i => 0, by kernel_rfl⟩
def q259_0 : List AOper :=
  [⟨.move .look (.t 4), (some 11), none⟩,
    ⟨.convBS (.t 11), (some 12), none⟩,
    ⟨.move .take (.p 5), (some 13), none⟩,
    ⟨.assign (.p 12), (some 2), none⟩,
    ⟨.assign (.p 13), (some 3), none⟩]
@[simp] def eq259_0 := id q259_0.eq_1
def q259_1 : List AOper :=
  [⟨.move .look (.t 0), (some 7), none⟩,
    ⟨.call 258 [(.t 7, false)], (some 8), none⟩,
    ⟨.move .look (.t 8), (some 6), none⟩,
    ⟨.extract 6 0, (some 9), none⟩,
    ⟨.extract 6 1, (some 10), none⟩,
    ⟨.assign (.t 9), (some 4), none⟩,
    ⟨.assign (.p 10), (some 5), none⟩]
@[simp] def eq259_1 := id q259_1.eq_1
def q259_2 : List AOper :=
  [⟨.assign (.c (.str [])), (some 2), none⟩,
    ⟨.assign (.c (.nilI)), (some 3), none⟩]
@[simp] def eq259_2 := id q259_2.eq_1
def k259_0 : ACode :=
  .ops q259_0 .ret
@[simp] theorem xk259_0 : GoC fns Q s k259_0 st ↔ GoO fns Q s q259_0 .ret st := goC_ops
def k259_1 : ACode :=
  .ops q259_1 k259_0
@[simp] theorem xk259_1 : GoC fns Q s k259_1 st ↔ GoO fns Q s q259_1 k259_0 st := goC_ops
def k259_2 : ACode :=
  .ops q259_2 k259_1
@[simp] theorem xk259_2 : GoC fns Q s k259_2 st ↔ GoO fns Q s q259_2 k259_1 st := goC_ops
def af259 : AFunc := ⟨14, k259_2, [.tmp 2, .tmp 3], fun _ => none⟩

theorem ok259 : ∃ hs, pFunc Tryz.prog sg hs Tryz.f259 = some af259 := ⟨fun i => 0, by kernel_rfl⟩
def q217_0 : List AOper :=
  [⟨.move .take (.p 3), (some 10), none⟩,
    ⟨.assign (.p 10), (some 2), none⟩]
@[simp] def eq217_0 := id q217_0.eq_1
def q217_1 : List AOper :=
  [⟨.move .look (.t 0), (some 6), none⟩,
    ⟨.call 259 [(.t 6, false)], (some 7), none⟩,
    ⟨.move .look (.t 7), (some 5), none⟩,
    ⟨.extract 5 0, (some 8), none⟩,
    ⟨.extract 5 1, (some 9), none⟩,
    ⟨.assign (.p 8), (some 3), none⟩,
    ⟨.assign (.p 9), (some 4), none⟩]
@[simp] def eq217_1 := id q217_1.eq_1
def k217_0 : ACode :=
  .ops q217_0 .ret
@[simp] theorem xk217_0 : GoC fns Q s k217_0 st ↔ GoO fns Q s q217_0 .ret st := goC_ops
def k217_1 : ACode :=
  .ops q217_1 k217_0
@[simp] theorem xk217_1 : GoC fns Q s k217_1 st ↔ GoO fns Q s q217_1 k217_0 st := goC_ops
def k217_2 : ACode :=
  .ops [⟨.assign (.c (.str [])), (some 2), none⟩] k217_1
@[simp] theorem xk217_2 : GoC fns Q s k217_2 st ↔ GoO fns Q s [⟨.assign (.c (.str [])), (some 2), none⟩] k217_1 st := goC_ops
def af217 : AFunc := ⟨11, k217_2, [.tmp 2], fun _ => none⟩

theorem ok217 : ∃ hs, pFunc Tryz.prog sg hs Tryz.f217 = some af217 := ⟨fun i => 0, by kernel_rfl⟩
def q161_0 : List AOper :=
  [⟨.load .take false 1 (.c (.gl 1)), (some 112), none⟩,
    ⟨.build [.int .u8 0, .slice .nil 0 1 []] [], (some 111), none⟩,
    ⟨.store 2 (.p 4) (.p 111), none, none⟩,
    ⟨.assign (.p 112), (some 5), none⟩]
@[simp] def eq161_0 := id q161_0.eq_1
def q161_1 : List AOper :=
  [⟨.move .look (.t 9), (some 107), none⟩,
    ⟨.call 218 [(.t 107, false)], (some 108), none⟩,
    ⟨.extract 108 0, (some 109), none⟩,
    ⟨.extract 108 1, (some 110), none⟩,
    ⟨.store 2 (.p 4) (.p 109), none, none⟩,
    ⟨.assign (.p 110), (some 5), none⟩]
@[simp] def eq161_1 := id q161_1.eq_1
def q161_2 : List AOper :=
  [⟨.load .take true 2 (.p 11), (some 90), none⟩,
    ⟨.store 2 (.p 4) (.p 90), none, none⟩,
    ⟨.assign (.c (.nilI)), (some 5), none⟩]
@[simp] def eq161_2 := id q161_2.eq_1
def q161_3 : List AOper :=
  [⟨.build [.int .u8 0, .slice .nil 0 1 []] [], (some 88), none⟩,
    ⟨.move .take (.p 12), (some 89), none⟩,
    ⟨.store 2 (.p 4) (.p 88), none, none⟩,
    ⟨.assign (.p 89), (some 5), none⟩]
@[simp] def eq161_3 := id q161_3.eq_1
def q161_4 : List AOper :=
  [⟨.move .head (.p 12), (some 86), none⟩,
    ⟨.bin .neq 5 true (.p 86) (.c (.nilI)), (some 87), none⟩]
@[simp] def eq161_4 := id q161_4.eq_1
def q161_5 : List AOper :=
  [⟨.move .look (.t 9), (some 78), none⟩,
    ⟨.move .look (.t 1), (some 81), none⟩,
    ⟨.sliceSl 1 (.t 81) (some (.c (.int .i64 1))) none, (some 82), none⟩,
    ⟨.call 170 [(.t 78, false)], (some 79), none⟩,
    ⟨.call 215 [(.p 79, false)], (some 80), none⟩,
    ⟨.call 161 [(.t 80, false), (.t 82, false)], (some 83), none⟩,
    ⟨.move .look (.t 83), (some 77), none⟩,
    ⟨.extract 77 0, (some 84), none⟩,
    ⟨.extract 77 1, (some 85), none⟩,
    ⟨.newbox1 11 [.int .u8 0, .slice .nil 0 1 []], (some 11), none⟩,
    ⟨.store 2 (.p 11) (.p 84), none, none⟩,
    ⟨.assign (.p 85), (some 12), none⟩]
@[simp] def eq161_5 := id q161_5.eq_1
def q161_6 : List AOper :=
  [⟨.load .take true 2 (.p 13), (some 106), none⟩,
    ⟨.store 2 (.p 4) (.p 106), none, none⟩,
    ⟨.assign (.c (.nilI)), (some 5), none⟩]
@[simp] def eq161_6 := id q161_6.eq_1
def q161_7 : List AOper :=
  [⟨.build [.int .u8 0, .slice .nil 0 1 []] [], (some 104), none⟩,
    ⟨.move .take (.p 14), (some 105), none⟩,
    ⟨.store 2 (.p 4) (.p 104), none, none⟩,
    ⟨.assign (.p 105), (some 5), none⟩]
@[simp] def eq161_7 := id q161_7.eq_1
def q161_8 : List AOper :=
  [⟨.move .head (.p 14), (some 102), none⟩,
    ⟨.bin .neq 5 true (.p 102) (.c (.nilI)), (some 103), none⟩]
@[simp] def eq161_8 := id q161_8.eq_1
def q161_9 : List AOper :=
  [⟨.move .look (.t 9), (some 94), none⟩,
    ⟨.move .look (.t 1), (some 97), none⟩,
    ⟨.sliceSl 1 (.t 97) (some (.c (.int .i64 1))) none, (some 98), none⟩,
    ⟨.call 170 [(.t 94, false)], (some 95), none⟩,
    ⟨.call 216 [(.p 95, false)], (some 96), none⟩,
    ⟨.call 161 [(.t 96, false), (.t 98, false)], (some 99), none⟩,
    ⟨.move .look (.t 99), (some 93), none⟩,
    ⟨.extract 93 0, (some 100), none⟩,
    ⟨.extract 93 1, (some 101), none⟩,
    ⟨.newbox1 13 [.int .u8 0, .slice .nil 0 1 []], (some 13), none⟩,
    ⟨.store 2 (.p 13) (.p 100), none, none⟩,
    ⟨.assign (.p 101), (some 14), none⟩]
@[simp] def eq161_9 := id q161_9.eq_1
def q161_10 : List AOper :=
  [⟨.build [.int .u8 0, .slice .nil 0 1 []] [], (some 69), none⟩,
    ⟨.move .look (.t 9), (some 70), none⟩,
    ⟨.call 217 [(.t 70, false)], (some 71), none⟩,
    ⟨.move .look (.p 10), (some 72), none⟩,
    ⟨.build [.str [], .int .u8 0] [(0, 1, .p 71), (1, 1, .p 72)], (some 73), none⟩,
    ⟨.mkIface 243 (.p 73), (some 74), none⟩,
    ⟨.store 2 (.p 4) (.p 69), none, none⟩,
    ⟨.assign (.p 74), (some 5), none⟩]
@[simp] def eq161_10 := id q161_10.eq_1
def q161_11 : List AOper :=
  [⟨.bin .eql 1 true (.p 68) (.c (.int .u8 4)), (some 92), none⟩,
    ⟨.assign (.p 92), (some 91), none⟩]
@[simp] def eq161_11 := id q161_11.eq_1
def q161_12 : List AOper :=
  [⟨.bin .eql 1 true (.p 68) (.c (.int .u8 3)), (some 76), none⟩,
    ⟨.assign (.p 76), (some 75), none⟩]
@[simp] def eq161_12 := id q161_12.eq_1
def q161_13 : List AOper :=
  [⟨.move .look (.t 9), (some 65), none⟩,
    ⟨.indexAddr 1 (.t 65) (.c (.int .i64 0)), (some 66), none⟩,
    ⟨.load .take false 1 (.p 66), (some 67), none⟩,
    ⟨.assign (.p 67), (some 10), none⟩]
@[simp] def eq161_13 := id q161_13.eq_1
def q161_14 : List AOper :=
  [⟨.move .head (.t 1), (some 62), none⟩,
    ⟨.len false (.p 62), (some 63), none⟩,
    ⟨.bin .gtr 1 true (.p 63) (.c (.int .i64 1)), (some 64), none⟩]
@[simp] def eq161_14 := id q161_14.eq_1
def q161_15 : List AOper :=
  [⟨.move .look (.t 9), (some 55), none⟩,
    ⟨.move .look (.t 1), (some 58), none⟩,
    ⟨.indexAddr 1 (.t 58) (.c (.int .i64 0)), (some 59), none⟩,
    ⟨.load .head false 1 (.p 59), (some 60), none⟩,
    ⟨.call 214 [(.t 55, false)], (some 56), none⟩,
    ⟨.convBS (.t 56), (some 57), none⟩,
    ⟨.bin .neq 2 false (.p 57) (.p 60), (some 61), none⟩]
@[simp] def eq161_15 := id q161_15.eq_1
def q161_16 : List AOper :=
  [⟨.build [.int .u8 0, .slice .nil 0 1 []] [], (some 50), none⟩,
    ⟨.move .look (.t 0), (some 51), none⟩,
    ⟨.move .look (.t 7), (some 52), none⟩,
    ⟨.call 166 [(.t 51, false), (.t 52, false)], (some 53), none⟩,
    ⟨.mkIface 239 (.p 53), (some 54), none⟩,
    ⟨.store 2 (.p 4) (.p 50), none, none⟩,
    ⟨.assign (.p 54), (some 5), none⟩]
@[simp] def eq161_16 := id q161_16.eq_1
def q161_17 : List AOper :=
  [⟨.move .look (.p 8), (some 48), none⟩,
    ⟨.un .not (.p 48), (some 49), none⟩]
@[simp] def eq161_17 := id q161_17.eq_1
def q161_18 : List AOper :=
  [⟨.move .look (.p 6), (some 43), none⟩,
    ⟨.move .head (.t 9), (some 44), none⟩,
    ⟨.len false (.p 44), (some 45), none⟩,
    ⟨.convInt .i32 (.p 45), (some 46), none⟩,
    ⟨.bin .sub 1 false (.p 43) (.p 46), (some 47), none⟩,
    ⟨.assign (.p 47), (some 6), none⟩]
@[simp] def eq161_18 := id q161_18.eq_1
def q161_19 : List AOper :=
  [⟨.move .look (.t 7), (some 38), none⟩,
    ⟨.call 64 [(.t 38, false)], (some 39), none⟩,
    ⟨.move .look (.t 39), (some 37), none⟩,
    ⟨.extract 37 0, (some 40), none⟩,
    ⟨.extract 37 1, (some 41), none⟩,
    ⟨.extract 37 2, (some 42), none⟩,
    ⟨.assign (.t 40), (some 9), none⟩,
    ⟨.assign (.t 41), (some 7), none⟩,
    ⟨.assign (.p 42), (some 8), none⟩]
@[simp] def eq161_19 := id q161_19.eq_1
def q161_20 : List AOper :=
  [⟨.move .look (.p 6), (some 35), none⟩,
    ⟨.bin .gtr 1 true (.p 35) (.c (.int .i32 1)), (some 36), none⟩]
@[simp] def eq161_20 := id q161_20.eq_1
def q161_21 : List AOper :=
  [⟨.move .look (.p 6), (some 33), none⟩,
    ⟨.bin .sub 1 true (.p 33) (.c (.int .i32 4)), (some 34), none⟩,
    ⟨.assign (.p 34), (some 6), none⟩]
@[simp] def eq161_21 := id q161_21.eq_1
def q161_22 : List AOper :=
  [⟨.build [.int .u8 0, .slice .nil 0 1 []] [], (some 28), none⟩,
    ⟨.move .look (.t 0), (some 29), none⟩,
    ⟨.move .look (.t 7), (some 30), none⟩,
    ⟨.call 166 [(.t 29, false), (.t 30, false)], (some 31), none⟩,
    ⟨.mkIface 239 (.p 31), (some 32), none⟩,
    ⟨.store 2 (.p 4) (.p 28), none, none⟩,
    ⟨.assign (.p 32), (some 5), none⟩]
@[simp] def eq161_22 := id q161_22.eq_1
def q161_23 : List AOper :=
  [⟨.move .look (.p 8), (some 26), none⟩,
    ⟨.un .not (.p 26), (some 27), none⟩]
@[simp] def eq161_23 := id q161_23.eq_1
def q161_24 : List AOper :=
  [⟨.move .look (.t 0), (some 21), none⟩,
    ⟨.call 54 [(.t 21, false)], (some 22), none⟩,
    ⟨.move .look (.t 22), (some 20), none⟩,
    ⟨.extract 20 0, (some 23), none⟩,
    ⟨.extract 20 1, (some 24), none⟩,
    ⟨.extract 20 2, (some 25), none⟩,
    ⟨.assign (.p 23), (some 6), none⟩,
    ⟨.assign (.t 24), (some 7), none⟩,
    ⟨.assign (.p 25), (some 8), none⟩]
@[simp] def eq161_24 := id q161_24.eq_1
def q161_25 : List AOper :=
  [⟨.load .take false 1 (.c (.gl 2)), (some 19), none⟩,
    ⟨.build [.int .u8 0, .slice .nil 0 1 []] [], (some 18), none⟩,
    ⟨.store 2 (.p 4) (.p 18), none, none⟩,
    ⟨.assign (.p 19), (some 5), none⟩]
@[simp] def eq161_25 := id q161_25.eq_1
def q161_26 : List AOper :=
  [⟨.move .head (.t 1), (some 15), none⟩,
    ⟨.len false (.p 15), (some 16), none⟩,
    ⟨.bin .lss 1 true (.p 16) (.c (.int .i64 1)), (some 17), none⟩]
@[simp] def eq161_26 := id q161_26.eq_1
def q161_27 : List AOper :=
  [⟨.newbox 4 [.int .u8 0, .slice .nil 0 1 []], (some 4), none⟩,
    ⟨.assign (.c (.nilI)), (some 5), none⟩]
@[simp] def eq161_27 := id q161_27.eq_1
def k161_0 : ACode :=
  .ops q161_0 .ret
@[simp] theorem xk161_0 : GoC fns Q s k161_0 st ↔ GoO fns Q s q161_0 .ret st := goC_ops
def k161_1 : ACode :=
  .ops q161_1 .ret
@[simp] theorem xk161_1 : GoC fns Q s k161_1 st ↔ GoO fns Q s q161_1 .ret st := goC_ops
def k161_2 : ACode :=
  .ops q161_2 .ret
@[simp] theorem xk161_2 : GoC fns Q s k161_2 st ↔ GoO fns Q s q161_2 .ret st := goC_ops
def k161_3 : ACode :=
  .ops q161_3 .ret
@[simp] theorem xk161_3 : GoC fns Q s k161_3 st ↔ GoO fns Q s q161_3 .ret st := goC_ops
def k161_4 : ACode :=
  .cond (.p 87) k161_3 .skip
@[simp] theorem xk161_4 : GoC fns Q s k161_4 st ↔ GB fns Q s (peek st (.p 87)) k161_3 .skip st := goC_cond
def k161_5 : ACode :=
  .seq k161_4 k161_2
@[simp] theorem xk161_5 : GoC fns Q s k161_5 st ↔ GoC fns Q (.sq k161_2 :: s) k161_4 st := goC_seq
def k161_6 : ACode :=
  .ops q161_4 k161_5
@[simp] theorem xk161_6 : GoC fns Q s k161_6 st ↔ GoO fns Q s q161_4 k161_5 st := goC_ops
def k161_7 : ACode :=
  .ops q161_5 k161_6
@[simp] theorem xk161_7 : GoC fns Q s k161_7 st ↔ GoO fns Q s q161_5 k161_6 st := goC_ops
def k161_8 : ACode :=
  .ops q161_6 .ret
@[simp] theorem xk161_8 : GoC fns Q s k161_8 st ↔ GoO fns Q s q161_6 .ret st := goC_ops
def k161_9 : ACode :=
  .ops q161_7 .ret
@[simp] theorem xk161_9 : GoC fns Q s k161_9 st ↔ GoO fns Q s q161_7 .ret st := goC_ops
def k161_10 : ACode :=
  .cond (.p 103) k161_9 .skip
@[simp] theorem xk161_10 : GoC fns Q s k161_10 st ↔ GB fns Q s (peek st (.p 103)) k161_9 .skip st := goC_cond
def k161_11 : ACode :=
  .seq k161_10 k161_8
@[simp] theorem xk161_11 : GoC fns Q s k161_11 st ↔ GoC fns Q (.sq k161_8 :: s) k161_10 st := goC_seq
def k161_12 : ACode :=
  .ops q161_8 k161_11
@[simp] theorem xk161_12 : GoC fns Q s k161_12 st ↔ GoO fns Q s q161_8 k161_11 st := goC_ops
def k161_13 : ACode :=
  .ops q161_9 k161_12
@[simp] theorem xk161_13 : GoC fns Q s k161_13 st ↔ GoO fns Q s q161_9 k161_12 st := goC_ops
def k161_14 : ACode :=
  .ops q161_10 .ret
@[simp] theorem xk161_14 : GoC fns Q s k161_14 st ↔ GoO fns Q s q161_10 .ret st := goC_ops
def k161_15 : ACode :=
  .cond (.p 91) k161_13 k161_14
@[simp] theorem xk161_15 : GoC fns Q s k161_15 st ↔ GB fns Q s (peek st (.p 91)) k161_13 k161_14 st := goC_cond
def k161_16 : ACode :=
  .ops q161_11 k161_15
@[simp] theorem xk161_16 : GoC fns Q s k161_16 st ↔ GoO fns Q s q161_11 k161_15 st := goC_ops
def k161_17 : ACode :=
  .cond (.p 75) k161_7 k161_16
@[simp] theorem xk161_17 : GoC fns Q s k161_17 st ↔ GB fns Q s (peek st (.p 75)) k161_7 k161_16 st := goC_cond
def k161_18 : ACode :=
  .ops q161_12 k161_17
@[simp] theorem xk161_18 : GoC fns Q s k161_18 st ↔ GoO fns Q s q161_12 k161_17 st := goC_ops
def k161_19 : ACode :=
  .block 2 k161_18
@[simp] theorem xk161_19 : GoC fns Q s k161_19 st ↔ GoC fns Q (.bl 2 :: s) k161_18 st := goC_block
def k161_20 : ACode :=
  .ops [⟨.move .head (.p 10), (some 68), none⟩] k161_19
@[simp] theorem xk161_20 : GoC fns Q s k161_20 st ↔ GoO fns Q s [⟨.move .head (.p 10), (some 68), none⟩] k161_19 st := goC_ops
def k161_21 : ACode :=
  .ops q161_13 k161_20
@[simp] theorem xk161_21 : GoC fns Q s k161_21 st ↔ GoO fns Q s q161_13 k161_20 st := goC_ops
def k161_22 : ACode :=
  .cond (.p 64) k161_21 .skip
@[simp] theorem xk161_22 : GoC fns Q s k161_22 st ↔ GB fns Q s (peek st (.p 64)) k161_21 .skip st := goC_cond
def k161_23 : ACode :=
  .seq k161_22 k161_1
@[simp] theorem xk161_23 : GoC fns Q s k161_23 st ↔ GoC fns Q (.sq k161_1 :: s) k161_22 st := goC_seq
def k161_24 : ACode :=
  .ops q161_14 k161_23
@[simp] theorem xk161_24 : GoC fns Q s k161_24 st ↔ GoO fns Q s q161_14 k161_23 st := goC_ops
def k161_25 : ACode :=
  .cond (.p 61) (.exit 1) .skip
@[simp] theorem xk161_25 : GoC fns Q s k161_25 st ↔ GB fns Q s (peek st (.p 61)) (.exit 1) .skip st := goC_cond
def k161_26 : ACode :=
  .seq k161_25 k161_24
@[simp] theorem xk161_26 : GoC fns Q s k161_26 st ↔ GoC fns Q (.sq k161_24 :: s) k161_25 st := goC_seq
def k161_27 : ACode :=
  .ops q161_15 k161_26
@[simp] theorem xk161_27 : GoC fns Q s k161_27 st ↔ GoO fns Q s q161_15 k161_26 st := goC_ops
def k161_28 : ACode :=
  .ops q161_16 .ret
@[simp] theorem xk161_28 : GoC fns Q s k161_28 st ↔ GoO fns Q s q161_16 .ret st := goC_ops
def k161_29 : ACode :=
  .cond (.p 49) k161_28 .skip
@[simp] theorem xk161_29 : GoC fns Q s k161_29 st ↔ GB fns Q s (peek st (.p 49)) k161_28 .skip st := goC_cond
def k161_30 : ACode :=
  .seq k161_29 k161_27
@[simp] theorem xk161_30 : GoC fns Q s k161_30 st ↔ GoC fns Q (.sq k161_27 :: s) k161_29 st := goC_seq
def k161_31 : ACode :=
  .ops q161_17 k161_30
@[simp] theorem xk161_31 : GoC fns Q s k161_31 st ↔ GoO fns Q s q161_17 k161_30 st := goC_ops
def k161_32 : ACode :=
  .ops q161_18 k161_31
@[simp] theorem xk161_32 : GoC fns Q s k161_32 st ↔ GoO fns Q s q161_18 k161_31 st := goC_ops
def k161_33 : ACode :=
  .ops q161_19 k161_32
@[simp] theorem xk161_33 : GoC fns Q s k161_33 st ↔ GoO fns Q s q161_19 k161_32 st := goC_ops
def k161_34 : ACode :=
  .block 1 k161_33
@[simp] theorem xk161_34 : GoC fns Q s k161_34 st ↔ GoC fns Q (.bl 1 :: s) k161_33 st := goC_block
def k161_35 : ACode :=
  .cond (.p 36) .skip (.exit 0)
@[simp] theorem xk161_35 : GoC fns Q s k161_35 st ↔ GB fns Q s (peek st (.p 36)) .skip (.exit 0) st := goC_cond
def k161_36 : ACode :=
  .seq k161_35 k161_34
@[simp] theorem xk161_36 : GoC fns Q s k161_36 st ↔ GoC fns Q (.sq k161_34 :: s) k161_35 st := goC_seq
def k161_37 : ACode :=
  .ops q161_20 k161_36
@[simp] theorem xk161_37 : GoC fns Q s k161_37 st ↔ GoO fns Q s q161_20 k161_36 st := goC_ops
def lc161_0 : ACode :=
  k161_37
@[simp] theorem xlc161_0 : GoC fns Q s lc161_0 st ↔ GoC fns Q s k161_37 st := Iff.rfl
def k161_39 : ACode :=
  .loop lc161_0
@[simp] theorem xk161_39 : GoC fns Q s k161_39 st ↔ (LoopR fns lc161_0 st fun r => GoE fns Q s r.1 r.2) := goC_loop
def k161_40 : ACode :=
  .block 0 k161_39
@[simp] theorem xk161_40 : GoC fns Q s k161_40 st ↔ GoC fns Q (.bl 0 :: s) k161_39 st := goC_block
def k161_41 : ACode :=
  .seq k161_40 k161_0
@[simp] theorem xk161_41 : GoC fns Q s k161_41 st ↔ GoC fns Q (.sq k161_0 :: s) k161_40 st := goC_seq
def k161_42 : ACode :=
  .ops [⟨.assign (.c (.slice .nil 0 1 [])), (some 9), none⟩] k161_41
@[simp] theorem xk161_42 : GoC fns Q s k161_42 st ↔ GoO fns Q s [⟨.assign (.c (.slice .nil 0 1 [])), (some 9), none⟩] k161_41 st := goC_ops
def k161_43 : ACode :=
  .ops q161_21 k161_42
@[simp] theorem xk161_43 : GoC fns Q s k161_43 st ↔ GoO fns Q s q161_21 k161_42 st := goC_ops
def k161_44 : ACode :=
  .ops q161_22 .ret
@[simp] theorem xk161_44 : GoC fns Q s k161_44 st ↔ GoO fns Q s q161_22 .ret st := goC_ops
def k161_45 : ACode :=
  .cond (.p 27) k161_44 .skip
@[simp] theorem xk161_45 : GoC fns Q s k161_45 st ↔ GB fns Q s (peek st (.p 27)) k161_44 .skip st := goC_cond
def k161_46 : ACode :=
  .seq k161_45 k161_43
@[simp] theorem xk161_46 : GoC fns Q s k161_46 st ↔ GoC fns Q (.sq k161_43 :: s) k161_45 st := goC_seq
def k161_47 : ACode :=
  .ops q161_23 k161_46
@[simp] theorem xk161_47 : GoC fns Q s k161_47 st ↔ GoO fns Q s q161_23 k161_46 st := goC_ops
def k161_48 : ACode :=
  .ops q161_24 k161_47
@[simp] theorem xk161_48 : GoC fns Q s k161_48 st ↔ GoO fns Q s q161_24 k161_47 st := goC_ops
def k161_49 : ACode :=
  .ops q161_25 .ret
@[simp] theorem xk161_49 : GoC fns Q s k161_49 st ↔ GoO fns Q s q161_25 .ret st := goC_ops
def k161_50 : ACode :=
  .cond (.p 17) k161_49 .skip
@[simp] theorem xk161_50 : GoC fns Q s k161_50 st ↔ GB fns Q s (peek st (.p 17)) k161_49 .skip st := goC_cond
def k161_51 : ACode :=
  .seq k161_50 k161_48
@[simp] theorem xk161_51 : GoC fns Q s k161_51 st ↔ GoC fns Q (.sq k161_48 :: s) k161_50 st := goC_seq
def k161_52 : ACode :=
  .ops q161_26 k161_51
@[simp] theorem xk161_52 : GoC fns Q s k161_52 st ↔ GoO fns Q s q161_26 k161_51 st := goC_ops
def k161_53 : ACode :=
  .ops q161_27 k161_52
@[simp] theorem xk161_53 : GoC fns Q s k161_53 st ↔ GoO fns Q s q161_27 k161_52 st := goC_ops
def af161 : AFunc := ⟨113, k161_53, [.cell 4 true 2, .tmp 5], fun _ => none⟩

theorem ok161 : ∃ hs, pFunc Tryz.prog sg hs Tryz.f161 = some af161 := ⟨fun i => if i == 11 then 4 else if i == 13 then 4 else 0, by kernel_rfl⟩
def q165_0 : List AOper :=
  [⟨.move .look (.p 0), (some 18), none⟩,
    ⟨.move .look (.p 1), (some 19), none⟩,
    ⟨.move .look (.p 5), (some 20), none⟩,
    ⟨.call 222 [(.p 18, false), (.p 19, false), (.p 20, false)], (some 21), none⟩,
    ⟨.assign (.p 21), (some 4), none⟩]
@[simp] def eq165_0 := id q165_0.eq_1
def q165_1 : List AOper :=
  [⟨.move .look (.p 1), (some 15), none⟩,
    ⟨.call 221 [(.p 15, false)], (some 16), none⟩,
    ⟨.dead, (some 17), none⟩,
    ⟨.assign (.p 17), (some 5), none⟩]
@[simp] def eq165_1 := id q165_1.eq_1
def q165_2 : List AOper :=
  [⟨.move .head (.p 0), (some 12), none⟩,
    ⟨.move .head (.p 1), (some 13), none⟩,
    ⟨.bin .eql 5 false (.p 12) (.p 13), (some 14), none⟩,
    ⟨.assign (.p 14), (some 4), none⟩]
@[simp] def eq165_2 := id q165_2.eq_1
def q165_3 : List AOper :=
  [⟨.move .head (.p 0), (some 6), none⟩,
    ⟨.bin .eql 5 true (.p 6) (.c (.nilI)), (some 7), none⟩,
    ⟨.move .look (.p 7), (some 8), none⟩,
    ⟨.move .head (.p 1), (some 9), (some (8, false))⟩,
    ⟨.bin .eql 5 true (.p 9) (.c (.nilI)), (some 10), (some (8, false))⟩,
    ⟨.pick (.p 8) (.c (.bool true)) (.p 10), (some 11), none⟩]
@[simp] def eq165_3 := id q165_3.eq_1
def k165_0 : ACode :=
  .ops q165_0 .ret
@[simp] theorem xk165_0 : GoC fns Q s k165_0 st ↔ GoO fns Q s q165_0 .ret st := goC_ops
def k165_1 : ACode :=
  .ops q165_1 k165_0
@[simp] theorem xk165_1 : GoC fns Q s k165_1 st ↔ GoO fns Q s q165_1 k165_0 st := goC_ops
def k165_2 : ACode :=
  .ops q165_2 .ret
@[simp] theorem xk165_2 : GoC fns Q s k165_2 st ↔ GoO fns Q s q165_2 .ret st := goC_ops
def k165_3 : ACode :=
  .cond (.p 11) k165_2 .skip
@[simp] theorem xk165_3 : GoC fns Q s k165_3 st ↔ GB fns Q s (peek st (.p 11)) k165_2 .skip st := goC_cond
def k165_4 : ACode :=
  .seq k165_3 k165_1
@[simp] theorem xk165_4 : GoC fns Q s k165_4 st ↔ GoC fns Q (.sq k165_1 :: s) k165_3 st := goC_seq
def k165_5 : ACode :=
  .ops q165_3 k165_4
@[simp] theorem xk165_5 : GoC fns Q s k165_5 st ↔ GoO fns Q s q165_3 k165_4 st := goC_ops
def k165_6 : ACode :=
  .ops [⟨.assign (.c (.bool false)), (some 4), none⟩] k165_5
@[simp] theorem xk165_6 : GoC fns Q s k165_6 st ↔ GoO fns Q s [⟨.assign (.c (.bool false)), (some 4), none⟩] k165_5 st := goC_ops
def af165 : AFunc := ⟨22, k165_6, [.tmp 4], isX⟩

theorem ok165 : ∃ hs, pFunc Tryz.prog sg hs Tryz.f165 = some ⟨af165.n, af165.code, af165.res, fun _ => none⟩ := ⟨fun i => if i == 17 then 3 else 0, by kernel_rfl⟩
end
end Go.Proofs.YtcodfehgnjplcaaGreatDoor.Abs
