/- The functions that the law reaches, made ready for the interpreter (printed by a program of this session; the kernel compares each with the given program). -/
import Derived.Test.YticoldgiebmmgaaGreatDoorA27
import Derived.Test.YticoldgiebmmgaaGreatDoorIsXYticoldgiebmmgaaGreatDoor
import Derived.Test.YticoldgiebmmgaaGreatDoorProg
import Derived.KernelRfl
namespace Go.Proofs.YticoldgiebmmgaaGreatDoor.Abs
set_option linter.all false
set_option maxRecDepth 100000
open Go.Proofs
def sg : FuncId → Nat → Nat := fun f i =>
  if f == 62 then (if i == 99 then 1 else 0) else
  if f == 63 then (if i == 99 then 1 else 0) else
  if f == 64 then (if i == 99 then 1 else 0) else
  if f == 82 then (if i == 99 then 1 else 0) else
  if f == 102 then (if i == 99 then 1 else 0) else
  if f == 108 then (if i == 0 then 1 else if i == 99 then 1 else 0) else
  if f == 125 then (if i == 0 then 1 else 0) else
  if f == 128 then (if i == 0 then 1 else 0) else
  if f == 144 then (if i == 0 then 1 else 0) else
  if f == 150 then (if i == 99 then 1 else 0) else
  if f == 151 then (if i == 0 then 1 else 0) else
  if f == 160 then (if i == 0 then 1 else 0) else
  if f == 164 then (if i == 0 then 1 else 0) else
  if f == 198 then (if i == 0 then 1 else 0) else
  if f == 202 then (if i == 1 then 2 else if i == 99 then 1 else 0) else
  if f == 213 then (if i == 0 then 1 else 0) else
  0
section
variable {fns : FuncId → Option AFunc} {Q : Ex × St → Prop} {s : List Fr} {c : ACode} {st : St}
def q4_0 : List AOper :=
  [⟨.fieldAddr 1 (.p 1), (some 3), none⟩,
 ⟨.load .head false 1 (.p 3), (some 4), none⟩,
 ⟨.len false (.p 4), (some 5), none⟩,
 ⟨.bin .gtr 1 true (.p 5) (.c (.int .i64 2147483647)), (some 6), none⟩]
@[simp] def eq4_0 := id q4_0.eq_1
def q4_1 : List AOper :=
  [⟨.box 1 (.p 0), (some 1), none⟩,
 ⟨.assign (.c (.bool false)), (some 2), none⟩]
@[simp] def eq4_1 := id q4_1.eq_1
def k4_0 : ACode :=
  .ops [⟨.assign (.c (.bool true)), (some 2), none⟩] .ret
@[simp] def xk4_0 := @xOps _ _ _ k4_0.eq_1
def k4_1 : ACode :=
  .ops [⟨.assign (.c (.bool false)), (some 2), none⟩] .ret
@[simp] def xk4_1 := @xOps _ _ _ k4_1.eq_1
def k4_2 : ACode :=
  .cond (.p 6) k4_1 .skip
@[simp] def xk4_2 := @xCond _ _ _ _ k4_2.eq_1
def k4_3 : ACode :=
  .seq k4_2 k4_0
@[simp] def xk4_3 := @xSeq _ _ _ k4_3.eq_1
def k4_4 : ACode :=
  .ops q4_0 k4_3
@[simp] def xk4_4 := @xOps _ _ _ k4_4.eq_1
def k4_5 : ACode :=
  .ops q4_1 k4_4
@[simp] def xk4_5 := @xOps _ _ _ k4_5.eq_1
def af4 : AFunc := ⟨7, k4_5, [.tmp 2], fun _ _ => none⟩

theorem ok4 : ∃ hs, pFunc Tryz.prog sg hs Tryz.f4 = some af4 := ⟨fun i => 0, by kernel_rfl⟩
def q5_0 : List AOper :=
  [⟨.move .look (.p 0), (some 3), none⟩,
 ⟨.bin .geq 1 true (.p 3) (.c (.int .i64 0)), (some 4), none⟩,
 ⟨.move .look (.p 4), (some 5), none⟩,
 ⟨.move .look (.p 0), (some 6), (some (5, true))⟩,
 ⟨.bin .leq 1 true (.p 6) (.c (.int .i64 255)), (some 7), (some (5, true))⟩,
 ⟨.pick (.p 5) (.p 7) (.c (.bool false)), (some 8), none⟩,
 ⟨.assign (.p 8), (some 2), none⟩]
@[simp] def eq5_0 := id q5_0.eq_1
def k5_0 : ACode :=
  .ops q5_0 .ret
@[simp] def xk5_0 := @xOps _ _ _ k5_0.eq_1
def k5_1 : ACode :=
  .ops [⟨.assign (.c (.bool false)), (some 2), none⟩] k5_0
@[simp] def xk5_1 := @xOps _ _ _ k5_1.eq_1
def af5 : AFunc := ⟨9, k5_1, [.tmp 2], fun _ _ => none⟩

theorem ok5 : ∃ hs, pFunc Tryz.prog sg hs Tryz.f5 = some af5 := ⟨fun i => 0, by kernel_rfl⟩
def q6_0 : List AOper :=
  [⟨.move .head (.t 0), (some 3), none⟩,
 ⟨.len false (.p 3), (some 4), none⟩,
 ⟨.bin .leq 1 true (.p 4) (.c (.int .i64 5000)), (some 5), none⟩,
 ⟨.assign (.p 5), (some 2), none⟩]
@[simp] def eq6_0 := id q6_0.eq_1
def k6_0 : ACode :=
  .ops q6_0 .ret
@[simp] def xk6_0 := @xOps _ _ _ k6_0.eq_1
def k6_1 : ACode :=
  .ops [⟨.assign (.c (.bool false)), (some 2), none⟩] k6_0
@[simp] def xk6_1 := @xOps _ _ _ k6_1.eq_1
def af6 : AFunc := ⟨6, k6_1, [.tmp 2], fun _ _ => none⟩

theorem ok6 : ∃ hs, pFunc Tryz.prog sg hs Tryz.f6 = some af6 := ⟨fun i => 0, by kernel_rfl⟩
def q15_0 : List AOper :=
  [⟨.move .look (.t 0), (some 7), none⟩,
 ⟨.indexAddr 1 (.t 7) (.c (.int .i64 0)), (some 8), none⟩,
 ⟨.load .look false 1 (.p 8), (some 9), none⟩,
 ⟨.convInt .u32 (.p 9), (some 10), none⟩,
 ⟨.move .look (.t 0), (some 11), none⟩,
 ⟨.indexAddr 1 (.t 11) (.c (.int .i64 1)), (some 12), none⟩,
 ⟨.load .look false 1 (.p 12), (some 13), none⟩,
 ⟨.convInt .u32 (.p 13), (some 14), none⟩,
 ⟨.bin .shl 1 true (.p 14) (.c (.int .u64 8)), (some 15), none⟩,
 ⟨.bin .or 1 false (.p 10) (.p 15), (some 16), none⟩,
 ⟨.move .look (.t 0), (some 17), none⟩,
 ⟨.indexAddr 1 (.t 17) (.c (.int .i64 2)), (some 18), none⟩,
 ⟨.load .look false 1 (.p 18), (some 19), none⟩,
 ⟨.convInt .u32 (.p 19), (some 20), none⟩,
 ⟨.bin .shl 1 true (.p 20) (.c (.int .u64 16)), (some 21), none⟩,
 ⟨.bin .or 1 false (.p 16) (.p 21), (some 22), none⟩,
 ⟨.move .look (.t 0), (some 23), none⟩,
 ⟨.indexAddr 1 (.t 23) (.c (.int .i64 3)), (some 24), none⟩,
 ⟨.load .look false 1 (.p 24), (some 25), none⟩,
 ⟨.convInt .u32 (.p 25), (some 26), none⟩,
 ⟨.bin .shl 1 true (.p 26) (.c (.int .u64 24)), (some 27), none⟩,
 ⟨.bin .or 1 false (.p 22) (.p 27), (some 28), none⟩,
 ⟨.convInt .i32 (.p 28), (some 29), none⟩,
 ⟨.convInt .i64 (.p 29), (some 30), none⟩,
 ⟨.assign (.p 30), (some 2), none⟩,
 ⟨.assign (.c (.bool true)), (some 3), none⟩]
@[simp] def eq15_0 := id q15_0.eq_1
def q15_1 : List AOper :=
  [⟨.assign (.c (.int .i64 0)), (some 2), none⟩,
 ⟨.assign (.c (.bool false)), (some 3), none⟩]
@[simp] def eq15_1 := id q15_1.eq_1
def q15_2 : List AOper :=
  [⟨.move .head (.t 0), (some 4), none⟩,
 ⟨.len false (.p 4), (some 5), none⟩,
 ⟨.bin .lss 1 true (.p 5) (.c (.int .i64 4)), (some 6), none⟩]
@[simp] def eq15_2 := id q15_2.eq_1
def q15_3 : List AOper :=
  [⟨.assign (.c (.int .i64 0)), (some 2), none⟩,
 ⟨.assign (.c (.bool false)), (some 3), none⟩]
@[simp] def eq15_3 := id q15_3.eq_1
def k15_0 : ACode :=
  .ops q15_0 .ret
@[simp] def xk15_0 := @xOps _ _ _ k15_0.eq_1
def k15_1 : ACode :=
  .ops q15_1 .ret
@[simp] def xk15_1 := @xOps _ _ _ k15_1.eq_1
def k15_2 : ACode :=
  .cond (.p 6) k15_1 .skip
@[simp] def xk15_2 := @xCond _ _ _ _ k15_2.eq_1
def k15_3 : ACode :=
  .seq k15_2 k15_0
@[simp] def xk15_3 := @xSeq _ _ _ k15_3.eq_1
def k15_4 : ACode :=
  .ops q15_2 k15_3
@[simp] def xk15_4 := @xOps _ _ _ k15_4.eq_1
def k15_5 : ACode :=
  .ops q15_3 k15_4
@[simp] def xk15_5 := @xOps _ _ _ k15_5.eq_1
def af15 : AFunc := ⟨31, k15_5, [.tmp 2, .tmp 3], fun _ _ => none⟩

theorem ok15 : ∃ hs, pFunc Tryz.prog sg hs Tryz.f15 = some af15 := ⟨fun i => 0, by kernel_rfl⟩
def q43_0 : List AOper :=
  [⟨.assign (.c (.str [])), (some 2), none⟩,
 ⟨.assign (.c (.int .i64 0)), (some 3), none⟩,
 ⟨.assign (.c (.bool false)), (some 4), none⟩]
@[simp] def eq43_0 := id q43_0.eq_1
def q43_1 : List AOper :=
  [⟨.move .look (.p 5), (some 10), none⟩,
 ⟨.bin .add 1 true (.p 10) (.c (.int .i64 1)), (some 11), none⟩,
 ⟨.assign (.p 11), (some 5), none⟩]
@[simp] def eq43_1 := id q43_1.eq_1
def q43_2 : List AOper :=
  [⟨.move .look (.t 0), (some 17), none⟩,
 ⟨.move .head (.p 5), (some 18), none⟩,
 ⟨.sliceSl 1 (.t 17) none (some (.p 18)), (some 19), none⟩,
 ⟨.convBS (.t 19), (some 20), none⟩,
 ⟨.move .look (.p 5), (some 21), none⟩,
 ⟨.bin .add 1 true (.p 21) (.c (.int .i64 1)), (some 22), none⟩,
 ⟨.assign (.p 20), (some 2), none⟩,
 ⟨.assign (.p 22), (some 3), none⟩,
 ⟨.assign (.c (.bool true)), (some 4), none⟩]
@[simp] def eq43_2 := id q43_2.eq_1
def q43_3 : List AOper :=
  [⟨.move .look (.t 0), (some 12), none⟩,
 ⟨.move .look (.p 5), (some 13), none⟩,
 ⟨.indexAddr 1 (.t 12) (.p 13), (some 14), none⟩,
 ⟨.load .head false 1 (.p 14), (some 15), none⟩,
 ⟨.bin .eql 1 true (.p 15) (.c (.int .u8 0)), (some 16), none⟩]
@[simp] def eq43_3 := id q43_3.eq_1
def q43_4 : List AOper :=
  [⟨.move .look (.p 5), (some 6), none⟩,
 ⟨.move .head (.t 0), (some 7), none⟩,
 ⟨.len false (.p 7), (some 8), none⟩,
 ⟨.bin .lss 1 false (.p 6) (.p 8), (some 9), none⟩]
@[simp] def eq43_4 := id q43_4.eq_1
def q43_5 : List AOper :=
  [⟨.assign (.c (.str [])), (some 2), none⟩,
 ⟨.assign (.c (.int .i64 0)), (some 3), none⟩,
 ⟨.assign (.c (.bool false)), (some 4), none⟩]
@[simp] def eq43_5 := id q43_5.eq_1
def k43_0 : ACode :=
  .ops q43_0 .ret
@[simp] def xk43_0 := @xOps _ _ _ k43_0.eq_1
def k43_1 : ACode :=
  .ops q43_1 .skip
@[simp] def xk43_1 := @xOps _ _ _ k43_1.eq_1
def k43_2 : ACode :=
  .ops q43_2 .ret
@[simp] def xk43_2 := @xOps _ _ _ k43_2.eq_1
def k43_3 : ACode :=
  .cond (.p 16) k43_2 .skip
@[simp] def xk43_3 := @xCond _ _ _ _ k43_3.eq_1
def k43_4 : ACode :=
  .ops q43_3 k43_3
@[simp] def xk43_4 := @xOps _ _ _ k43_4.eq_1
def k43_5 : ACode :=
  .block 1 k43_4
@[simp] def xk43_5 := @xBlock _ _ _ k43_5.eq_1
def k43_6 : ACode :=
  .seq k43_5 k43_1
@[simp] def xk43_6 := @xSeq _ _ _ k43_6.eq_1
def k43_7 : ACode :=
  .cond (.p 9) .skip (.exit 0)
@[simp] def xk43_7 := @xCond _ _ _ _ k43_7.eq_1
def k43_8 : ACode :=
  .seq k43_7 k43_6
@[simp] def xk43_8 := @xSeq _ _ _ k43_8.eq_1
def k43_9 : ACode :=
  .ops q43_4 k43_8
@[simp] def xk43_9 := @xOps _ _ _ k43_9.eq_1
def lc43_0 : ACode :=
  k43_9
@[simp] def xlc43_0 := @xSame _ _ lc43_0.eq_1
def k43_11 : ACode :=
  .loop lc43_0
@[simp] def xk43_11 := @xLoop _ _ k43_11.eq_1
def k43_12 : ACode :=
  .block 0 k43_11
@[simp] def xk43_12 := @xBlock _ _ _ k43_12.eq_1
def k43_13 : ACode :=
  .seq k43_12 k43_0
@[simp] def xk43_13 := @xSeq _ _ _ k43_13.eq_1
def k43_14 : ACode :=
  .ops [⟨.assign (.c (.int .i64 0)), (some 5), none⟩] k43_13
@[simp] def xk43_14 := @xOps _ _ _ k43_14.eq_1
def k43_15 : ACode :=
  .ops q43_5 k43_14
@[simp] def xk43_15 := @xOps _ _ _ k43_15.eq_1
def af43 : AFunc := ⟨23, k43_15, [.tmp 2, .tmp 3, .tmp 4], fun _ _ => none⟩

theorem ok43 : ∃ hs, pFunc Tryz.prog sg hs Tryz.f43 = some af43 := ⟨fun i => 0, by kernel_rfl⟩
def q14_0 : List AOper :=
  [⟨.assign (.c (.int .i64 0)), (some 4), none⟩,
 ⟨.assign (.c (.bool false)), (some 5), none⟩]
@[simp] def eq14_0 := id q14_0.eq_1
def q14_1 : List AOper :=
  [⟨.assign (.c (.int .i64 0)), (some 4), none⟩,
 ⟨.assign (.c (.bool true)), (some 5), none⟩]
@[simp] def eq14_1 := id q14_1.eq_1
def q14_2 : List AOper :=
  [⟨.move .head (.t 1), (some 27), none⟩,
 ⟨.len false (.p 27), (some 28), none⟩,
 ⟨.bin .geq 1 true (.p 28) (.c (.int .i64 1)), (some 29), none⟩,
 ⟨.assign (.c (.int .i64 1)), (some 4), none⟩,
 ⟨.assign (.p 29), (some 5), none⟩]
@[simp] def eq14_2 := id q14_2.eq_1
def q14_3 : List AOper :=
  [⟨.move .take (.p 7), (some 32), none⟩,
 ⟨.assign (.c (.int .i64 4)), (some 4), none⟩,
 ⟨.assign (.p 32), (some 5), none⟩]
@[simp] def eq14_3 := id q14_3.eq_1
def q14_4 : List AOper :=
  [⟨.move .head (.t 1), (some 38), none⟩,
 ⟨.len false (.p 38), (some 39), none⟩,
 ⟨.bin .geq 1 true (.p 39) (.c (.int .i64 8)), (some 40), none⟩,
 ⟨.assign (.c (.int .i64 8)), (some 4), none⟩,
 ⟨.assign (.p 40), (some 5), none⟩]
@[simp] def eq14_4 := id q14_4.eq_1
def q14_5 : List AOper :=
  [⟨.move .head (.t 1), (some 43), none⟩,
 ⟨.len false (.p 43), (some 44), none⟩,
 ⟨.bin .geq 1 true (.p 44) (.c (.int .i64 12)), (some 45), none⟩,
 ⟨.assign (.c (.int .i64 12)), (some 4), none⟩,
 ⟨.assign (.p 45), (some 5), none⟩]
@[simp] def eq14_5 := id q14_5.eq_1
def q14_6 : List AOper :=
  [⟨.move .head (.t 1), (some 48), none⟩,
 ⟨.len false (.p 48), (some 49), none⟩,
 ⟨.bin .geq 1 true (.p 49) (.c (.int .i64 16)), (some 50), none⟩,
 ⟨.assign (.c (.int .i64 16)), (some 4), none⟩,
 ⟨.assign (.p 50), (some 5), none⟩]
@[simp] def eq14_6 := id q14_6.eq_1
def q14_7 : List AOper :=
  [⟨.move .look (.p 6), (some 55), none⟩,
 ⟨.bin .add 1 true (.c (.int .i64 4)) (.p 55), (some 56), none⟩,
 ⟨.move .look (.p 7), (some 57), none⟩,
 ⟨.move .look (.p 57), (some 58), none⟩,
 ⟨.move .look (.p 6), (some 59), (some (58, true))⟩,
 ⟨.bin .geq 1 true (.p 59) (.c (.int .i64 1)), (some 60), (some (58, true))⟩,
 ⟨.pick (.p 58) (.p 60) (.c (.bool false)), (some 61), none⟩,
 ⟨.move .look (.p 61), (some 62), none⟩,
 ⟨.move .head (.t 1), (some 63), (some (62, true))⟩,
 ⟨.len false (.p 63), (some 64), (some (62, true))⟩,
 ⟨.move .look (.p 6), (some 65), (some (62, true))⟩,
 ⟨.bin .add 1 true (.c (.int .i64 4)) (.p 65), (some 66), (some (62, true))⟩,
 ⟨.bin .geq 1 false (.p 64) (.p 66), (some 67), (some (62, true))⟩,
 ⟨.pick (.p 62) (.p 67) (.c (.bool false)), (some 68), none⟩,
 ⟨.assign (.p 56), (some 4), none⟩,
 ⟨.assign (.p 68), (some 5), none⟩]
@[simp] def eq14_7 := id q14_7.eq_1
def q14_8 : List AOper :=
  [⟨.move .take (.p 6), (some 73), none⟩,
 ⟨.move .look (.p 7), (some 74), none⟩,
 ⟨.move .look (.p 74), (some 75), none⟩,
 ⟨.move .look (.p 6), (some 76), (some (75, true))⟩,
 ⟨.bin .geq 1 true (.p 76) (.c (.int .i64 5)), (some 77), (some (75, true))⟩,
 ⟨.pick (.p 75) (.p 77) (.c (.bool false)), (some 78), none⟩,
 ⟨.move .look (.p 78), (some 79), none⟩,
 ⟨.move .head (.t 1), (some 80), (some (79, true))⟩,
 ⟨.len false (.p 80), (some 81), (some (79, true))⟩,
 ⟨.move .look (.p 6), (some 82), (some (79, true))⟩,
 ⟨.bin .geq 1 false (.p 81) (.p 82), (some 83), (some (79, true))⟩,
 ⟨.pick (.p 79) (.p 83) (.c (.bool false)), (some 84), none⟩,
 ⟨.assign (.p 73), (some 4), none⟩,
 ⟨.assign (.p 84), (some 5), none⟩]
@[simp] def eq14_8 := id q14_8.eq_1
def q14_9 : List AOper :=
  [⟨.move .look (.p 6), (some 87), none⟩,
 ⟨.bin .add 1 true (.c (.int .i64 5)) (.p 87), (some 88), none⟩,
 ⟨.move .look (.p 7), (some 89), none⟩,
 ⟨.move .look (.p 89), (some 90), none⟩,
 ⟨.move .look (.p 6), (some 91), (some (90, true))⟩,
 ⟨.bin .geq 1 true (.p 91) (.c (.int .i64 0)), (some 92), (some (90, true))⟩,
 ⟨.pick (.p 90) (.p 92) (.c (.bool false)), (some 93), none⟩,
 ⟨.move .look (.p 93), (some 94), none⟩,
 ⟨.move .head (.t 1), (some 95), (some (94, true))⟩,
 ⟨.len false (.p 95), (some 96), (some (94, true))⟩,
 ⟨.move .look (.p 6), (some 97), (some (94, true))⟩,
 ⟨.bin .add 1 true (.c (.int .i64 5)) (.p 97), (some 98), (some (94, true))⟩,
 ⟨.bin .geq 1 false (.p 96) (.p 98), (some 99), (some (94, true))⟩,
 ⟨.pick (.p 94) (.p 99) (.c (.bool false)), (some 100), none⟩,
 ⟨.assign (.p 88), (some 4), none⟩,
 ⟨.assign (.p 100), (some 5), none⟩]
@[simp] def eq14_9 := id q14_9.eq_1
def q14_10 : List AOper :=
  [⟨.move .look (.p 6), (some 103), none⟩,
 ⟨.bin .add 1 true (.c (.int .i64 16)) (.p 103), (some 104), none⟩,
 ⟨.move .look (.p 7), (some 105), none⟩,
 ⟨.move .look (.p 105), (some 106), none⟩,
 ⟨.move .look (.p 6), (some 107), (some (106, true))⟩,
 ⟨.bin .geq 1 true (.p 107) (.c (.int .i64 1)), (some 108), (some (106, true))⟩,
 ⟨.pick (.p 106) (.p 108) (.c (.bool false)), (some 109), none⟩,
 ⟨.move .look (.p 109), (some 110), none⟩,
 ⟨.move .head (.t 1), (some 111), (some (110, true))⟩,
 ⟨.len false (.p 111), (some 112), (some (110, true))⟩,
 ⟨.move .look (.p 6), (some 113), (some (110, true))⟩,
 ⟨.bin .add 1 true (.c (.int .i64 16)) (.p 113), (some 114), (some (110, true))⟩,
 ⟨.bin .geq 1 false (.p 112) (.p 114), (some 115), (some (110, true))⟩,
 ⟨.pick (.p 110) (.p 115) (.c (.bool false)), (some 116), none⟩,
 ⟨.assign (.p 104), (some 4), none⟩,
 ⟨.assign (.p 116), (some 5), none⟩]
@[simp] def eq14_10 := id q14_10.eq_1
def q14_11 : List AOper :=
  [⟨.move .look (.p 9), (some 133), none⟩,
 ⟨.move .look (.p 12), (some 134), none⟩,
 ⟨.bin .add 1 false (.p 133) (.p 134), (some 135), none⟩,
 ⟨.move .look (.p 10), (some 136), none⟩,
 ⟨.move .look (.p 136), (some 137), none⟩,
 ⟨.move .look (.p 13), (some 138), (some (137, true))⟩,
 ⟨.pick (.p 137) (.p 138) (.c (.bool false)), (some 139), none⟩,
 ⟨.assign (.p 135), (some 4), none⟩,
 ⟨.assign (.p 139), (some 5), none⟩]
@[simp] def eq14_11 := id q14_11.eq_1
def q14_12 : List AOper :=
  [⟨.move .look (.t 1), (some 126), none⟩,
 ⟨.move .head (.p 9), (some 127), none⟩,
 ⟨.sliceSl 1 (.t 126) (some (.p 127)) none, (some 128), none⟩,
 ⟨.call 43 [(.t 128, false)], (some 129), none⟩,
 ⟨.move .look (.t 129), (some 125), none⟩,
 ⟨.extract 125 0, (some 130), none⟩,
 ⟨.extract 125 1, (some 131), none⟩,
 ⟨.extract 125 2, (some 132), none⟩,
 ⟨.assign (.p 130), (some 11), none⟩,
 ⟨.assign (.p 131), (some 12), none⟩,
 ⟨.assign (.p 132), (some 13), none⟩]
@[simp] def eq14_12 := id q14_12.eq_1
def q14_13 : List AOper :=
  [⟨.move .look (.t 1), (some 120), none⟩,
 ⟨.call 43 [(.t 120, false)], (some 121), none⟩,
 ⟨.move .look (.t 121), (some 119), none⟩,
 ⟨.extract 119 0, (some 122), none⟩,
 ⟨.extract 119 1, (some 123), none⟩,
 ⟨.extract 119 2, (some 124), none⟩,
 ⟨.assign (.p 122), (some 8), none⟩,
 ⟨.assign (.p 123), (some 9), none⟩,
 ⟨.assign (.p 124), (some 10), none⟩]
@[simp] def eq14_13 := id q14_13.eq_1
def q14_14 : List AOper :=
  [⟨.bin .eql 1 true (.p 19) (.c (.int .i64 11)), (some 118), none⟩,
 ⟨.assign (.p 118), (some 117), none⟩]
@[simp] def eq14_14 := id q14_14.eq_1
def q14_15 : List AOper :=
  [⟨.bin .eql 1 true (.p 19) (.c (.int .i64 12)), (some 102), none⟩,
 ⟨.assign (.p 102), (some 101), none⟩]
@[simp] def eq14_15 := id q14_15.eq_1
def q14_16 : List AOper :=
  [⟨.bin .eql 1 true (.p 19) (.c (.int .i64 5)), (some 86), none⟩,
 ⟨.assign (.p 86), (some 85), none⟩]
@[simp] def eq14_16 := id q14_16.eq_1
def q14_17 : List AOper :=
  [⟨.bin .eql 1 true (.p 19) (.c (.int .i64 15)), (some 72), none⟩,
 ⟨.assign (.p 72), (some 69), none⟩]
@[simp] def eq14_17 := id q14_17.eq_1
def q14_18 : List AOper :=
  [⟨.bin .eql 1 true (.p 19) (.c (.int .i64 4)), (some 71), none⟩,
 ⟨.assign (.p 71), (some 69), none⟩]
@[simp] def eq14_18 := id q14_18.eq_1
def q14_19 : List AOper :=
  [⟨.bin .eql 1 true (.p 19) (.c (.int .i64 3)), (some 70), none⟩,
 ⟨.assign (.p 70), (some 69), none⟩]
@[simp] def eq14_19 := id q14_19.eq_1
def q14_20 : List AOper :=
  [⟨.bin .eql 1 true (.p 19) (.c (.int .i64 14)), (some 54), none⟩,
 ⟨.assign (.p 54), (some 51), none⟩]
@[simp] def eq14_20 := id q14_20.eq_1
def q14_21 : List AOper :=
  [⟨.bin .eql 1 true (.p 19) (.c (.int .i64 13)), (some 53), none⟩,
 ⟨.assign (.p 53), (some 51), none⟩]
@[simp] def eq14_21 := id q14_21.eq_1
def q14_22 : List AOper :=
  [⟨.bin .eql 1 true (.p 19) (.c (.int .i64 2)), (some 52), none⟩,
 ⟨.assign (.p 52), (some 51), none⟩]
@[simp] def eq14_22 := id q14_22.eq_1
def q14_23 : List AOper :=
  [⟨.bin .eql 1 true (.p 19) (.c (.int .i64 19)), (some 47), none⟩,
 ⟨.assign (.p 47), (some 46), none⟩]
@[simp] def eq14_23 := id q14_23.eq_1
def q14_24 : List AOper :=
  [⟨.bin .eql 1 true (.p 19) (.c (.int .i64 7)), (some 42), none⟩,
 ⟨.assign (.p 42), (some 41), none⟩]
@[simp] def eq14_24 := id q14_24.eq_1
def q14_25 : List AOper :=
  [⟨.bin .eql 1 true (.p 19) (.c (.int .i64 17)), (some 37), none⟩,
 ⟨.assign (.p 37), (some 33), none⟩]
@[simp] def eq14_25 := id q14_25.eq_1
def q14_26 : List AOper :=
  [⟨.bin .eql 1 true (.p 19) (.c (.int .i64 18)), (some 36), none⟩,
 ⟨.assign (.p 36), (some 33), none⟩]
@[simp] def eq14_26 := id q14_26.eq_1
def q14_27 : List AOper :=
  [⟨.bin .eql 1 true (.p 19) (.c (.int .i64 9)), (some 35), none⟩,
 ⟨.assign (.p 35), (some 33), none⟩]
@[simp] def eq14_27 := id q14_27.eq_1
def q14_28 : List AOper :=
  [⟨.bin .eql 1 true (.p 19) (.c (.int .i64 1)), (some 34), none⟩,
 ⟨.assign (.p 34), (some 33), none⟩]
@[simp] def eq14_28 := id q14_28.eq_1
def q14_29 : List AOper :=
  [⟨.bin .eql 1 true (.p 19) (.c (.int .i64 16)), (some 31), none⟩,
 ⟨.assign (.p 31), (some 30), none⟩]
@[simp] def eq14_29 := id q14_29.eq_1
def q14_30 : List AOper :=
  [⟨.bin .eql 1 true (.p 19) (.c (.int .i64 8)), (some 26), none⟩,
 ⟨.assign (.p 26), (some 25), none⟩]
@[simp] def eq14_30 := id q14_30.eq_1
def q14_31 : List AOper :=
  [⟨.bin .eql 1 true (.p 19) (.c (.int .i64 127)), (some 24), none⟩,
 ⟨.assign (.p 24), (some 20), none⟩]
@[simp] def eq14_31 := id q14_31.eq_1
def q14_32 : List AOper :=
  [⟨.bin .eql 1 true (.p 19) (.c (.int .i64 255)), (some 23), none⟩,
 ⟨.assign (.p 23), (some 20), none⟩]
@[simp] def eq14_32 := id q14_32.eq_1
def q14_33 : List AOper :=
  [⟨.bin .eql 1 true (.p 19) (.c (.int .i64 10)), (some 22), none⟩,
 ⟨.assign (.p 22), (some 20), none⟩]
@[simp] def eq14_33 := id q14_33.eq_1
def q14_34 : List AOper :=
  [⟨.bin .eql 1 true (.p 19) (.c (.int .i64 6)), (some 21), none⟩,
 ⟨.assign (.p 21), (some 20), none⟩]
@[simp] def eq14_34 := id q14_34.eq_1
def q14_35 : List AOper :=
  [⟨.move .look (.t 1), (some 15), none⟩,
 ⟨.call 15 [(.t 15, false)], (some 16), none⟩,
 ⟨.move .look (.t 16), (some 14), none⟩,
 ⟨.extract 14 0, (some 17), none⟩,
 ⟨.extract 14 1, (some 18), none⟩,
 ⟨.assign (.p 17), (some 6), none⟩,
 ⟨.assign (.p 18), (some 7), none⟩]
@[simp] def eq14_35 := id q14_35.eq_1
def q14_36 : List AOper :=
  [⟨.assign (.c (.int .i64 0)), (some 4), none⟩,
 ⟨.assign (.c (.bool false)), (some 5), none⟩]
@[simp] def eq14_36 := id q14_36.eq_1
def k14_0 : ACode :=
  .ops q14_0 .ret
@[simp] def xk14_0 := @xOps _ _ _ k14_0.eq_1
def k14_1 : ACode :=
  .ops q14_1 .ret
@[simp] def xk14_1 := @xOps _ _ _ k14_1.eq_1
def k14_2 : ACode :=
  .ops q14_2 .ret
@[simp] def xk14_2 := @xOps _ _ _ k14_2.eq_1
def k14_3 : ACode :=
  .ops q14_3 .ret
@[simp] def xk14_3 := @xOps _ _ _ k14_3.eq_1
def k14_4 : ACode :=
  .ops q14_4 .ret
@[simp] def xk14_4 := @xOps _ _ _ k14_4.eq_1
def k14_5 : ACode :=
  .ops q14_5 .ret
@[simp] def xk14_5 := @xOps _ _ _ k14_5.eq_1
def k14_6 : ACode :=
  .ops q14_6 .ret
@[simp] def xk14_6 := @xOps _ _ _ k14_6.eq_1
def k14_7 : ACode :=
  .ops q14_7 .ret
@[simp] def xk14_7 := @xOps _ _ _ k14_7.eq_1
def k14_8 : ACode :=
  .ops q14_8 .ret
@[simp] def xk14_8 := @xOps _ _ _ k14_8.eq_1
def k14_9 : ACode :=
  .ops q14_9 .ret
@[simp] def xk14_9 := @xOps _ _ _ k14_9.eq_1
def k14_10 : ACode :=
  .ops q14_10 .ret
@[simp] def xk14_10 := @xOps _ _ _ k14_10.eq_1
def k14_11 : ACode :=
  .ops q14_11 .ret
@[simp] def xk14_11 := @xOps _ _ _ k14_11.eq_1
def k14_12 : ACode :=
  .ops q14_12 k14_11
@[simp] def xk14_12 := @xOps _ _ _ k14_12.eq_1
def k14_13 : ACode :=
  .ops q14_13 k14_12
@[simp] def xk14_13 := @xOps _ _ _ k14_13.eq_1
def k14_14 : ACode :=
  .cond (.p 117) k14_13 .skip
@[simp] def xk14_14 := @xCond _ _ _ _ k14_14.eq_1
def k14_15 : ACode :=
  .ops q14_14 k14_14
@[simp] def xk14_15 := @xOps _ _ _ k14_15.eq_1
def k14_16 : ACode :=
  .cond (.p 101) k14_10 k14_15
@[simp] def xk14_16 := @xCond _ _ _ _ k14_16.eq_1
def k14_17 : ACode :=
  .ops q14_15 k14_16
@[simp] def xk14_17 := @xOps _ _ _ k14_17.eq_1
def k14_18 : ACode :=
  .cond (.p 85) k14_9 k14_17
@[simp] def xk14_18 := @xCond _ _ _ _ k14_18.eq_1
def k14_19 : ACode :=
  .ops q14_16 k14_18
@[simp] def xk14_19 := @xOps _ _ _ k14_19.eq_1
def k14_20 : ACode :=
  .cond (.p 69) k14_8 k14_19
@[simp] def xk14_20 := @xCond _ _ _ _ k14_20.eq_1
def k14_21 : ACode :=
  .ops q14_17 .skip
@[simp] def xk14_21 := @xOps _ _ _ k14_21.eq_1
def k14_22 : ACode :=
  .cond (.p 69) .skip k14_21
@[simp] def xk14_22 := @xCond _ _ _ _ k14_22.eq_1
def k14_23 : ACode :=
  .ops q14_18 k14_22
@[simp] def xk14_23 := @xOps _ _ _ k14_23.eq_1
def k14_24 : ACode :=
  .cond (.p 69) .skip k14_23
@[simp] def xk14_24 := @xCond _ _ _ _ k14_24.eq_1
def k14_25 : ACode :=
  .seq k14_24 k14_20
@[simp] def xk14_25 := @xSeq _ _ _ k14_25.eq_1
def k14_26 : ACode :=
  .ops q14_19 k14_25
@[simp] def xk14_26 := @xOps _ _ _ k14_26.eq_1
def k14_27 : ACode :=
  .cond (.p 51) k14_7 k14_26
@[simp] def xk14_27 := @xCond _ _ _ _ k14_27.eq_1
def k14_28 : ACode :=
  .ops q14_20 .skip
@[simp] def xk14_28 := @xOps _ _ _ k14_28.eq_1
def k14_29 : ACode :=
  .cond (.p 51) .skip k14_28
@[simp] def xk14_29 := @xCond _ _ _ _ k14_29.eq_1
def k14_30 : ACode :=
  .ops q14_21 k14_29
@[simp] def xk14_30 := @xOps _ _ _ k14_30.eq_1
def k14_31 : ACode :=
  .cond (.p 51) .skip k14_30
@[simp] def xk14_31 := @xCond _ _ _ _ k14_31.eq_1
def k14_32 : ACode :=
  .seq k14_31 k14_27
@[simp] def xk14_32 := @xSeq _ _ _ k14_32.eq_1
def k14_33 : ACode :=
  .ops q14_22 k14_32
@[simp] def xk14_33 := @xOps _ _ _ k14_33.eq_1
def k14_34 : ACode :=
  .cond (.p 46) k14_6 k14_33
@[simp] def xk14_34 := @xCond _ _ _ _ k14_34.eq_1
def k14_35 : ACode :=
  .ops q14_23 k14_34
@[simp] def xk14_35 := @xOps _ _ _ k14_35.eq_1
def k14_36 : ACode :=
  .cond (.p 41) k14_5 k14_35
@[simp] def xk14_36 := @xCond _ _ _ _ k14_36.eq_1
def k14_37 : ACode :=
  .ops q14_24 k14_36
@[simp] def xk14_37 := @xOps _ _ _ k14_37.eq_1
def k14_38 : ACode :=
  .cond (.p 33) k14_4 k14_37
@[simp] def xk14_38 := @xCond _ _ _ _ k14_38.eq_1
def k14_39 : ACode :=
  .ops q14_25 .skip
@[simp] def xk14_39 := @xOps _ _ _ k14_39.eq_1
def k14_40 : ACode :=
  .cond (.p 33) .skip k14_39
@[simp] def xk14_40 := @xCond _ _ _ _ k14_40.eq_1
def k14_41 : ACode :=
  .ops q14_26 k14_40
@[simp] def xk14_41 := @xOps _ _ _ k14_41.eq_1
def k14_42 : ACode :=
  .cond (.p 33) .skip k14_41
@[simp] def xk14_42 := @xCond _ _ _ _ k14_42.eq_1
def k14_43 : ACode :=
  .ops q14_27 k14_42
@[simp] def xk14_43 := @xOps _ _ _ k14_43.eq_1
def k14_44 : ACode :=
  .cond (.p 33) .skip k14_43
@[simp] def xk14_44 := @xCond _ _ _ _ k14_44.eq_1
def k14_45 : ACode :=
  .seq k14_44 k14_38
@[simp] def xk14_45 := @xSeq _ _ _ k14_45.eq_1
def k14_46 : ACode :=
  .ops q14_28 k14_45
@[simp] def xk14_46 := @xOps _ _ _ k14_46.eq_1
def k14_47 : ACode :=
  .cond (.p 30) k14_3 k14_46
@[simp] def xk14_47 := @xCond _ _ _ _ k14_47.eq_1
def k14_48 : ACode :=
  .ops q14_29 k14_47
@[simp] def xk14_48 := @xOps _ _ _ k14_48.eq_1
def k14_49 : ACode :=
  .cond (.p 25) k14_2 k14_48
@[simp] def xk14_49 := @xCond _ _ _ _ k14_49.eq_1
def k14_50 : ACode :=
  .ops q14_30 k14_49
@[simp] def xk14_50 := @xOps _ _ _ k14_50.eq_1
def k14_51 : ACode :=
  .cond (.p 20) k14_1 k14_50
@[simp] def xk14_51 := @xCond _ _ _ _ k14_51.eq_1
def k14_52 : ACode :=
  .ops q14_31 .skip
@[simp] def xk14_52 := @xOps _ _ _ k14_52.eq_1
def k14_53 : ACode :=
  .cond (.p 20) .skip k14_52
@[simp] def xk14_53 := @xCond _ _ _ _ k14_53.eq_1
def k14_54 : ACode :=
  .ops q14_32 k14_53
@[simp] def xk14_54 := @xOps _ _ _ k14_54.eq_1
def k14_55 : ACode :=
  .cond (.p 20) .skip k14_54
@[simp] def xk14_55 := @xCond _ _ _ _ k14_55.eq_1
def k14_56 : ACode :=
  .ops q14_33 k14_55
@[simp] def xk14_56 := @xOps _ _ _ k14_56.eq_1
def k14_57 : ACode :=
  .cond (.p 20) .skip k14_56
@[simp] def xk14_57 := @xCond _ _ _ _ k14_57.eq_1
def k14_58 : ACode :=
  .seq k14_57 k14_51
@[simp] def xk14_58 := @xSeq _ _ _ k14_58.eq_1
def k14_59 : ACode :=
  .ops q14_34 k14_58
@[simp] def xk14_59 := @xOps _ _ _ k14_59.eq_1
def k14_60 : ACode :=
  .block 0 k14_59
@[simp] def xk14_60 := @xBlock _ _ _ k14_60.eq_1
def k14_61 : ACode :=
  .seq k14_60 k14_0
@[simp] def xk14_61 := @xSeq _ _ _ k14_61.eq_1
def k14_62 : ACode :=
  .ops [⟨.move .head (.p 0), (some 19), none⟩] k14_61
@[simp] def xk14_62 := @xOps _ _ _ k14_62.eq_1
def k14_63 : ACode :=
  .ops q14_35 k14_62
@[simp] def xk14_63 := @xOps _ _ _ k14_63.eq_1
def k14_64 : ACode :=
  .ops q14_36 k14_63
@[simp] def xk14_64 := @xOps _ _ _ k14_64.eq_1
def af14 : AFunc := ⟨140, k14_64, [.tmp 4, .tmp 5], fun _ _ => none⟩

theorem ok14 : ∃ hs, pFunc Tryz.prog sg hs Tryz.f14 = some af14 := ⟨fun i => 0, by kernel_rfl⟩
def q70_0 : List AOper :=
  [⟨.move .take (.p 3), (some 17), none⟩,
 ⟨.assign (.p 17), (some 2), none⟩]
@[simp] def eq70_0 := id q70_0.eq_1
def q70_1 : List AOper :=
  [⟨.move .look (.p 4), (some 7), none⟩,
 ⟨.bin .sub 1 true (.p 7) (.c (.int .i64 1)), (some 8), none⟩,
 ⟨.assign (.p 8), (some 4), none⟩]
@[simp] def eq70_1 := id q70_1.eq_1
def q70_2 : List AOper :=
  [⟨.move .look (.p 3), (some 9), none⟩,
 ⟨.bin .shl 1 true (.p 9) (.c (.int .u64 8)), (some 10), none⟩,
 ⟨.move .look (.t 0), (some 11), none⟩,
 ⟨.move .look (.p 4), (some 12), none⟩,
 ⟨.indexAddr 1 (.t 11) (.p 12), (some 13), none⟩,
 ⟨.load .look false 1 (.p 13), (some 14), none⟩,
 ⟨.convInt .u64 (.p 14), (some 15), none⟩,
 ⟨.bin .or 1 false (.p 10) (.p 15), (some 16), none⟩,
 ⟨.assign (.p 16), (some 3), none⟩]
@[simp] def eq70_2 := id q70_2.eq_1
def q70_3 : List AOper :=
  [⟨.move .look (.p 4), (some 5), none⟩,
 ⟨.bin .geq 1 true (.p 5) (.c (.int .i64 0)), (some 6), none⟩]
@[simp] def eq70_3 := id q70_3.eq_1
def k70_0 : ACode :=
  .ops q70_0 .ret
@[simp] def xk70_0 := @xOps _ _ _ k70_0.eq_1
def k70_1 : ACode :=
  .ops q70_1 .skip
@[simp] def xk70_1 := @xOps _ _ _ k70_1.eq_1
def k70_2 : ACode :=
  .ops q70_2 .skip
@[simp] def xk70_2 := @xOps _ _ _ k70_2.eq_1
def k70_3 : ACode :=
  .block 1 k70_2
@[simp] def xk70_3 := @xBlock _ _ _ k70_3.eq_1
def k70_4 : ACode :=
  .seq k70_3 k70_1
@[simp] def xk70_4 := @xSeq _ _ _ k70_4.eq_1
def k70_5 : ACode :=
  .cond (.p 6) .skip (.exit 0)
@[simp] def xk70_5 := @xCond _ _ _ _ k70_5.eq_1
def k70_6 : ACode :=
  .seq k70_5 k70_4
@[simp] def xk70_6 := @xSeq _ _ _ k70_6.eq_1
def k70_7 : ACode :=
  .ops q70_3 k70_6
@[simp] def xk70_7 := @xOps _ _ _ k70_7.eq_1
def lc70_0 : ACode :=
  k70_7
@[simp] def xlc70_0 := @xSame _ _ lc70_0.eq_1
def k70_9 : ACode :=
  .loop lc70_0
@[simp] def xk70_9 := @xLoop _ _ k70_9.eq_1
def k70_10 : ACode :=
  .block 0 k70_9
@[simp] def xk70_10 := @xBlock _ _ _ k70_10.eq_1
def k70_11 : ACode :=
  .seq k70_10 k70_0
@[simp] def xk70_11 := @xSeq _ _ _ k70_11.eq_1
def k70_12 : ACode :=
  .ops [⟨.assign (.c (.int .i64 7)), (some 4), none⟩] k70_11
@[simp] def xk70_12 := @xOps _ _ _ k70_12.eq_1
def k70_13 : ACode :=
  .ops [⟨.assign (.c (.int .u64 0)), (some 3), none⟩] k70_12
@[simp] def xk70_13 := @xOps _ _ _ k70_13.eq_1
def k70_14 : ACode :=
  .ops [⟨.assign (.c (.int .u64 0)), (some 2), none⟩] k70_13
@[simp] def xk70_14 := @xOps _ _ _ k70_14.eq_1
def af70 : AFunc := ⟨18, k70_14, [.tmp 2], fun _ _ => none⟩

theorem ok70 : ∃ hs, pFunc Tryz.prog sg hs Tryz.f70 = some af70 := ⟨fun i => 0, by kernel_rfl⟩
def q44_0 : List AOper :=
  [⟨.load .take true 8 (.p 9), (some 230), none⟩,
 ⟨.move .take (.p 10), (some 231), none⟩,
 ⟨.store 8 (.p 6) (.p 230), none, none⟩,
 ⟨.assign (.p 231), (some 7), none⟩,
 ⟨.assign (.c (.bool true)), (some 8), none⟩]
@[simp] def eq44_0 := id q44_0.eq_1
def q44_1 : List AOper :=
  [⟨.build [.int .i64 0, .str [], .str [], .int .i64 0, .int .u64 0, .int .u64 0, .slice .nil 0 1 [], .slice .nil 0 1 []] [], (some 229), none⟩,
 ⟨.store 8 (.p 6) (.p 229), none, none⟩,
 ⟨.assign (.c (.int .i64 0)), (some 7), none⟩,
 ⟨.assign (.c (.bool false)), (some 8), none⟩]
@[simp] def eq44_1 := id q44_1.eq_1
def q44_2 : List AOper :=
  [⟨.move .look (.p 12), (some 227), none⟩,
 ⟨.un .not (.p 227), (some 228), none⟩]
@[simp] def eq44_2 := id q44_2.eq_1
def q44_3 : List AOper :=
  [⟨.move .look (.t 1), (some 39), none⟩,
 ⟨.call 70 [(.t 39, false)], (some 40), none⟩,
 ⟨.fieldAddr 4 (.p 9), (some 41), none⟩,
 ⟨.store 1 (.p 41) (.p 40), none, none⟩]
@[simp] def eq44_3 := id q44_3.eq_1
def q44_4 : List AOper :=
  [⟨.move .look (.t 1), (some 45), none⟩,
 ⟨.call 70 [(.t 45, false)], (some 46), none⟩,
 ⟨.convInt .i64 (.p 46), (some 47), none⟩,
 ⟨.fieldAddr 3 (.p 9), (some 48), none⟩,
 ⟨.store 1 (.p 48) (.p 47), none, none⟩]
@[simp] def eq44_4 := id q44_4.eq_1
def q44_5 : List AOper :=
  [⟨.move .look (.t 1), (some 51), none⟩,
 ⟨.move .look (.t 1), (some 53), none⟩,
 ⟨.sliceSl 1 (.t 53) (some (.c (.int .i64 8))) none, (some 54), none⟩,
 ⟨.call 70 [(.t 51, false)], (some 52), none⟩,
 ⟨.fieldAddr 4 (.p 9), (some 56), none⟩,
 ⟨.call 70 [(.t 54, false)], (some 55), none⟩,
 ⟨.store 1 (.p 56) (.p 52), none, none⟩,
 ⟨.fieldAddr 5 (.p 9), (some 57), none⟩,
 ⟨.store 1 (.p 57) (.p 55), none, none⟩]
@[simp] def eq44_5 := id q44_5.eq_1
def q44_6 : List AOper :=
  [⟨.move .take (.p 14), (some 65), none⟩,
 ⟨.fieldAddr 3 (.p 9), (some 66), none⟩,
 ⟨.store 1 (.p 66) (.p 65), none, none⟩]
@[simp] def eq44_6 := id q44_6.eq_1
def q44_7 : List AOper :=
  [⟨.move .look (.t 1), (some 61), none⟩,
 ⟨.call 15 [(.t 61, false)], (some 62), none⟩,
 ⟨.move .look (.t 62), (some 60), none⟩,
 ⟨.extract 60 0, (some 63), none⟩,
 ⟨.extract 60 1, (some 64), none⟩,
 ⟨.assign (.p 63), (some 14), none⟩,
 ⟨.assign (.p 64), (some 15), none⟩]
@[simp] def eq44_7 := id q44_7.eq_1
def q44_8 : List AOper :=
  [⟨.fieldAddr 6 (.p 9), (some 80), none⟩,
 ⟨.load .take false 1 (.p 80), (some 81), none⟩,
 ⟨.move .look (.t 1), (some 82), none⟩,
 ⟨.sliceSl 1 (.t 82) none (some (.c (.int .i64 12))), (some 83), none⟩,
 ⟨.append 5 1 1 false (.t 81) (.p 83), (some 84), none⟩,
 ⟨.fieldAddr 6 (.p 9), (some 85), none⟩,
 ⟨.store 1 (.p 85) (.t 84), none, none⟩]
@[simp] def eq44_8 := id q44_8.eq_1
def q44_9 : List AOper :=
  [⟨.move .look (.t 1), (some 91), none⟩,
 ⟨.call 71 [(.t 91, false)], (some 92), none⟩,
 ⟨.move .look (.t 92), (some 90), none⟩,
 ⟨.extract 90 0, (some 93), none⟩,
 ⟨.extract 90 1, (some 94), none⟩,
 ⟨.extract 90 2, (some 95), none⟩,
 ⟨.fieldAddr 1 (.p 9), (some 96), none⟩,
 ⟨.store 1 (.p 96) (.p 93), none, none⟩,
 ⟨.assign (.p 95), (some 12), none⟩]
@[simp] def eq44_9 := id q44_9.eq_1
def q44_10 : List AOper :=
  [⟨.move .look (.t 1), (some 107), none⟩,
 ⟨.move .head (.p 13), (some 108), none⟩,
 ⟨.sliceSl 1 (.t 107) (some (.p 108)) none, (some 109), none⟩,
 ⟨.call 43 [(.t 109, false)], (some 110), none⟩,
 ⟨.move .look (.t 110), (some 106), none⟩,
 ⟨.extract 106 0, (some 111), none⟩,
 ⟨.extract 106 1, (some 112), none⟩,
 ⟨.extract 106 2, (some 113), none⟩,
 ⟨.fieldAddr 2 (.p 9), (some 114), none⟩,
 ⟨.store 1 (.p 114) (.p 111), none, none⟩]
@[simp] def eq44_10 := id q44_10.eq_1
def q44_11 : List AOper :=
  [⟨.move .look (.t 1), (some 100), none⟩,
 ⟨.call 43 [(.t 100, false)], (some 101), none⟩,
 ⟨.move .look (.t 101), (some 99), none⟩,
 ⟨.extract 99 0, (some 102), none⟩,
 ⟨.extract 99 1, (some 103), none⟩,
 ⟨.extract 99 2, (some 104), none⟩,
 ⟨.fieldAddr 1 (.p 9), (some 105), none⟩,
 ⟨.store 1 (.p 105) (.p 102), none, none⟩,
 ⟨.assign (.p 103), (some 13), none⟩]
@[simp] def eq44_11 := id q44_11.eq_1
def q44_12 : List AOper :=
  [⟨.fieldAddr 6 (.p 9), (some 125), none⟩,
 ⟨.load .take false 1 (.p 125), (some 126), none⟩,
 ⟨.move .look (.t 1), (some 127), none⟩,
 ⟨.move .head (.p 13), (some 128), none⟩,
 ⟨.move .look (.p 13), (some 129), none⟩,
 ⟨.bin .add 1 true (.p 129) (.c (.int .i64 12)), (some 130), none⟩,
 ⟨.sliceSl 1 (.t 127) (some (.p 128)) (some (.p 130)), (some 131), none⟩,
 ⟨.append 5 1 1 false (.t 126) (.p 131), (some 132), none⟩,
 ⟨.fieldAddr 6 (.p 9), (some 133), none⟩,
 ⟨.store 1 (.p 133) (.t 132), none, none⟩]
@[simp] def eq44_12 := id q44_12.eq_1
def q44_13 : List AOper :=
  [⟨.move .look (.t 1), (some 118), none⟩,
 ⟨.call 71 [(.t 118, false)], (some 119), none⟩,
 ⟨.move .look (.t 119), (some 117), none⟩,
 ⟨.extract 117 0, (some 120), none⟩,
 ⟨.extract 117 1, (some 121), none⟩,
 ⟨.extract 117 2, (some 122), none⟩,
 ⟨.fieldAddr 1 (.p 9), (some 123), none⟩,
 ⟨.store 1 (.p 123) (.p 120), none, none⟩,
 ⟨.assign (.p 121), (some 13), none⟩,
 ⟨.assign (.p 122), (some 12), none⟩]
@[simp] def eq44_13 := id q44_13.eq_1
def q44_14 : List AOper :=
  [⟨.fieldAddr 6 (.p 9), (some 167), none⟩,
 ⟨.load .look false 1 (.p 167), (some 168), none⟩,
 ⟨.sliceSl 1 (.t 168) (some (.c (.int .i64 4))) none, (some 169), none⟩,
 ⟨.fieldAddr 6 (.p 9), (some 170), none⟩,
 ⟨.store 1 (.p 170) (.t 169), none, none⟩]
@[simp] def eq44_14 := id q44_14.eq_1
def q44_15 : List AOper :=
  [⟨.move .look (.p 17), (some 157), none⟩,
 ⟨.move .look (.p 157), (some 158), none⟩,
 ⟨.move .head (.p 16), (some 159), (some (158, true))⟩,
 ⟨.fieldAddr 6 (.p 9), (some 160), (some (158, true))⟩,
 ⟨.load .head false 1 (.p 160), (some 161), (some (158, true))⟩,
 ⟨.len false (.p 161), (some 162), (some (158, true))⟩,
 ⟨.bin .sub 1 true (.p 162) (.c (.int .i64 4)), (some 163), (some (158, true))⟩,
 ⟨.bin .eql 1 false (.p 159) (.p 163), (some 164), (some (158, true))⟩,
 ⟨.pick (.p 158) (.p 164) (.c (.bool false)), (some 165), none⟩,
 ⟨.assign (.p 165), (some 12), none⟩]
@[simp] def eq44_15 := id q44_15.eq_1
def q44_16 : List AOper :=
  [⟨.fieldAddr 6 (.p 9), (some 152), none⟩,
 ⟨.load .look false 1 (.p 152), (some 153), none⟩,
 ⟨.call 15 [(.t 153, false)], (some 154), none⟩,
 ⟨.move .look (.t 154), (some 151), none⟩,
 ⟨.extract 151 0, (some 155), none⟩,
 ⟨.extract 151 1, (some 156), none⟩,
 ⟨.assign (.p 155), (some 16), none⟩,
 ⟨.assign (.p 156), (some 17), none⟩]
@[simp] def eq44_16 := id q44_16.eq_1
def q44_17 : List AOper :=
  [⟨.fieldAddr 3 (.p 9), (some 148), none⟩,
 ⟨.load .head false 1 (.p 148), (some 149), none⟩,
 ⟨.bin .eql 1 true (.p 149) (.c (.int .i64 2)), (some 150), none⟩]
@[simp] def eq44_17 := id q44_17.eq_1
def q44_18 : List AOper :=
  [⟨.fieldAddr 6 (.p 9), (some 141), none⟩,
 ⟨.load .take false 1 (.p 141), (some 142), none⟩,
 ⟨.move .look (.t 1), (some 143), none⟩,
 ⟨.move .head (.p 10), (some 144), none⟩,
 ⟨.sliceSl 1 (.t 143) (some (.c (.int .i64 5))) (some (.p 144)), (some 145), none⟩,
 ⟨.append 5 1 1 false (.t 142) (.p 145), (some 146), none⟩,
 ⟨.fieldAddr 6 (.p 9), (some 147), none⟩,
 ⟨.store 1 (.p 147) (.t 146), none, none⟩]
@[simp] def eq44_18 := id q44_18.eq_1
def q44_19 : List AOper :=
  [⟨.move .look (.t 1), (some 136), none⟩,
 ⟨.indexAddr 1 (.t 136) (.c (.int .i64 4)), (some 137), none⟩,
 ⟨.load .look false 1 (.p 137), (some 138), none⟩,
 ⟨.convInt .i64 (.p 138), (some 139), none⟩,
 ⟨.fieldAddr 3 (.p 9), (some 140), none⟩,
 ⟨.store 1 (.p 140) (.p 139), none, none⟩]
@[simp] def eq44_19 := id q44_19.eq_1
def q44_20 : List AOper :=
  [⟨.move .look (.t 1), (some 175), none⟩,
 ⟨.move .head (.p 10), (some 176), none⟩,
 ⟨.sliceSl 1 (.t 175) none (some (.p 176)), (some 177), none⟩,
 ⟨.move .head (.p 0), (some 178), none⟩,
 ⟨.bin .eql 1 true (.p 178) (.c (.int .i64 4)), (some 179), none⟩,
 ⟨.move .look (.p 2), (some 180), none⟩,
 ⟨.call 72 [(.t 177, false), (.p 179, false), (.p 180, false)], (some 181), none⟩,
 ⟨.move .look (.t 181), (some 174), none⟩,
 ⟨.extract 174 0, (some 182), none⟩,
 ⟨.extract 174 1, (some 183), none⟩,
 ⟨.fieldAddr 7 (.p 9), (some 184), none⟩,
 ⟨.store 1 (.p 184) (.t 182), none, none⟩,
 ⟨.assign (.p 183), (some 12), none⟩]
@[simp] def eq44_20 := id q44_20.eq_1
def q44_21 : List AOper :=
  [⟨.move .look (.t 1), (some 217), none⟩,
 ⟨.move .look (.p 13), (some 218), none⟩,
 ⟨.bin .add 1 true (.c (.int .i64 4)) (.p 218), (some 219), none⟩,
 ⟨.move .head (.p 10), (some 220), none⟩,
 ⟨.sliceSl 1 (.t 217) (some (.p 219)) (some (.p 220)), (some 221), none⟩,
 ⟨.move .look (.p 2), (some 222), none⟩,
 ⟨.call 72 [(.t 221, false), (.c (.bool false), false), (.p 222, false)], (some 223), none⟩,
 ⟨.move .look (.t 223), (some 216), none⟩,
 ⟨.extract 216 0, (some 224), none⟩,
 ⟨.extract 216 1, (some 225), none⟩,
 ⟨.fieldAddr 7 (.p 9), (some 226), none⟩,
 ⟨.store 1 (.p 226) (.t 224), none, none⟩,
 ⟨.assign (.p 225), (some 12), none⟩]
@[simp] def eq44_21 := id q44_21.eq_1
def q44_22 : List AOper :=
  [⟨.move .look (.p 19), (some 206), none⟩,
 ⟨.move .look (.p 206), (some 207), none⟩,
 ⟨.move .look (.p 13), (some 208), (some (207, true))⟩,
 ⟨.bin .add 1 true (.c (.int .i64 4)) (.p 208), (some 209), (some (207, true))⟩,
 ⟨.move .look (.p 18), (some 210), (some (207, true))⟩,
 ⟨.bin .add 1 false (.p 209) (.p 210), (some 211), (some (207, true))⟩,
 ⟨.move .head (.p 10), (some 212), (some (207, true))⟩,
 ⟨.bin .eql 1 false (.p 211) (.p 212), (some 213), (some (207, true))⟩,
 ⟨.pick (.p 207) (.p 213) (.c (.bool false)), (some 214), none⟩,
 ⟨.assign (.p 214), (some 12), none⟩]
@[simp] def eq44_22 := id q44_22.eq_1
def q44_23 : List AOper :=
  [⟨.move .look (.t 1), (some 198), none⟩,
 ⟨.move .look (.p 13), (some 199), none⟩,
 ⟨.bin .add 1 true (.c (.int .i64 4)) (.p 199), (some 200), none⟩,
 ⟨.move .head (.p 10), (some 201), none⟩,
 ⟨.sliceSl 1 (.t 198) (some (.p 200)) (some (.p 201)), (some 202), none⟩,
 ⟨.call 14 [(.c (.int .i64 3), false), (.t 202, false)], (some 203), none⟩,
 ⟨.move .look (.t 203), (some 197), none⟩,
 ⟨.extract 197 0, (some 204), none⟩,
 ⟨.extract 197 1, (some 205), none⟩,
 ⟨.assign (.p 204), (some 18), none⟩,
 ⟨.assign (.p 205), (some 19), none⟩]
@[simp] def eq44_23 := id q44_23.eq_1
def q44_24 : List AOper :=
  [⟨.move .look (.t 1), (some 188), none⟩,
 ⟨.move .head (.p 10), (some 189), none⟩,
 ⟨.sliceSl 1 (.t 188) (some (.c (.int .i64 4))) (some (.p 189)), (some 190), none⟩,
 ⟨.call 71 [(.t 190, false)], (some 191), none⟩,
 ⟨.move .look (.t 191), (some 187), none⟩,
 ⟨.extract 187 0, (some 192), none⟩,
 ⟨.extract 187 1, (some 193), none⟩,
 ⟨.extract 187 2, (some 194), none⟩,
 ⟨.fieldAddr 1 (.p 9), (some 195), none⟩,
 ⟨.store 1 (.p 195) (.p 192), none, none⟩,
 ⟨.assign (.p 193), (some 13), none⟩,
 ⟨.assign (.p 194), (some 12), none⟩]
@[simp] def eq44_24 := id q44_24.eq_1
def q44_25 : List AOper :=
  [⟨.bin .eql 1 true (.p 35) (.c (.int .i64 15)), (some 186), none⟩,
 ⟨.assign (.p 186), (some 185), none⟩]
@[simp] def eq44_25 := id q44_25.eq_1
def q44_26 : List AOper :=
  [⟨.bin .eql 1 true (.p 35) (.c (.int .i64 4)), (some 173), none⟩,
 ⟨.assign (.p 173), (some 171), none⟩]
@[simp] def eq44_26 := id q44_26.eq_1
def q44_27 : List AOper :=
  [⟨.bin .eql 1 true (.p 35) (.c (.int .i64 3)), (some 172), none⟩,
 ⟨.assign (.p 172), (some 171), none⟩]
@[simp] def eq44_27 := id q44_27.eq_1
def q44_28 : List AOper :=
  [⟨.bin .eql 1 true (.p 35) (.c (.int .i64 5)), (some 135), none⟩,
 ⟨.assign (.p 135), (some 134), none⟩]
@[simp] def eq44_28 := id q44_28.eq_1
def q44_29 : List AOper :=
  [⟨.bin .eql 1 true (.p 35) (.c (.int .i64 12)), (some 116), none⟩,
 ⟨.assign (.p 116), (some 115), none⟩]
@[simp] def eq44_29 := id q44_29.eq_1
def q44_30 : List AOper :=
  [⟨.bin .eql 1 true (.p 35) (.c (.int .i64 11)), (some 98), none⟩,
 ⟨.assign (.p 98), (some 97), none⟩]
@[simp] def eq44_30 := id q44_30.eq_1
def q44_31 : List AOper :=
  [⟨.bin .eql 1 true (.p 35) (.c (.int .i64 14)), (some 89), none⟩,
 ⟨.assign (.p 89), (some 86), none⟩]
@[simp] def eq44_31 := id q44_31.eq_1
def q44_32 : List AOper :=
  [⟨.bin .eql 1 true (.p 35) (.c (.int .i64 13)), (some 88), none⟩,
 ⟨.assign (.p 88), (some 86), none⟩]
@[simp] def eq44_32 := id q44_32.eq_1
def q44_33 : List AOper :=
  [⟨.bin .eql 1 true (.p 35) (.c (.int .i64 2)), (some 87), none⟩,
 ⟨.assign (.p 87), (some 86), none⟩]
@[simp] def eq44_33 := id q44_33.eq_1
def q44_34 : List AOper :=
  [⟨.bin .eql 1 true (.p 35) (.c (.int .i64 7)), (some 79), none⟩,
 ⟨.assign (.p 79), (some 78), none⟩]
@[simp] def eq44_34 := id q44_34.eq_1
def q44_35 : List AOper :=
  [⟨.bin .eql 1 true (.p 35) (.c (.int .i64 8)), (some 68), none⟩,
 ⟨.assign (.p 68), (some 67), none⟩]
@[simp] def eq44_35 := id q44_35.eq_1
def q44_36 : List AOper :=
  [⟨.bin .eql 1 true (.p 35) (.c (.int .i64 16)), (some 59), none⟩,
 ⟨.assign (.p 59), (some 58), none⟩]
@[simp] def eq44_36 := id q44_36.eq_1
def q44_37 : List AOper :=
  [⟨.bin .eql 1 true (.p 35) (.c (.int .i64 19)), (some 50), none⟩,
 ⟨.assign (.p 50), (some 49), none⟩]
@[simp] def eq44_37 := id q44_37.eq_1
def q44_38 : List AOper :=
  [⟨.bin .eql 1 true (.p 35) (.c (.int .i64 18)), (some 44), none⟩,
 ⟨.assign (.p 44), (some 42), none⟩]
@[simp] def eq44_38 := id q44_38.eq_1
def q44_39 : List AOper :=
  [⟨.bin .eql 1 true (.p 35) (.c (.int .i64 9)), (some 43), none⟩,
 ⟨.assign (.p 43), (some 42), none⟩]
@[simp] def eq44_39 := id q44_39.eq_1
def q44_40 : List AOper :=
  [⟨.bin .eql 1 true (.p 35) (.c (.int .i64 17)), (some 38), none⟩,
 ⟨.assign (.p 38), (some 36), none⟩]
@[simp] def eq44_40 := id q44_40.eq_1
def q44_41 : List AOper :=
  [⟨.bin .eql 1 true (.p 35) (.c (.int .i64 1)), (some 37), none⟩,
 ⟨.assign (.p 37), (some 36), none⟩]
@[simp] def eq44_41 := id q44_41.eq_1
def q44_42 : List AOper :=
  [⟨.build [.int .i64 0, .str [], .str [], .int .i64 0, .int .u64 0, .int .u64 0, .slice .nil 0 1 [], .slice .nil 0 1 []] [], (some 34), none⟩,
 ⟨.store 8 (.p 6) (.p 34), none, none⟩,
 ⟨.assign (.c (.int .i64 0)), (some 7), none⟩,
 ⟨.assign (.c (.bool false)), (some 8), none⟩]
@[simp] def eq44_42 := id q44_42.eq_1
def q44_43 : List AOper :=
  [⟨.move .look (.p 11), (some 28), none⟩,
 ⟨.un .not (.p 28), (some 29), none⟩,
 ⟨.move .look (.p 29), (some 30), none⟩,
 ⟨.move .head (.p 2), (some 31), (some (30, false))⟩,
 ⟨.bin .eql 1 true (.p 31) (.c (.int .i64 0)), (some 32), (some (30, false))⟩,
 ⟨.pick (.p 30) (.c (.bool true)) (.p 32), (some 33), none⟩]
@[simp] def eq44_43 := id q44_43.eq_1
def q44_44 : List AOper :=
  [⟨.move .look (.p 0), (some 23), none⟩,
 ⟨.move .look (.t 1), (some 24), none⟩,
 ⟨.call 14 [(.p 23, false), (.t 24, false)], (some 25), none⟩,
 ⟨.move .look (.t 25), (some 22), none⟩,
 ⟨.extract 22 0, (some 26), none⟩,
 ⟨.extract 22 1, (some 27), none⟩,
 ⟨.assign (.p 26), (some 10), none⟩,
 ⟨.assign (.p 27), (some 11), none⟩]
@[simp] def eq44_44 := id q44_44.eq_1
def q44_45 : List AOper :=
  [⟨.move .look (.p 0), (some 20), none⟩,
 ⟨.build [.int .i64 0, .str [], .str [], .int .i64 0, .int .u64 0, .int .u64 0, .slice .nil 0 1 [], .slice .nil 0 1 []] [(0, 1, .p 20)], (some 21), none⟩,
 ⟨.newbox 9 [.int .i64 0, .str [], .str [], .int .i64 0, .int .u64 0, .int .u64 0, .slice .nil 0 1 [], .slice .nil 0 1 []], (some 9), none⟩,
 ⟨.store 8 (.p 9) (.p 21), none, none⟩]
@[simp] def eq44_45 := id q44_45.eq_1
def q44_46 : List AOper :=
  [⟨.newbox 6 [.int .i64 0, .str [], .str [], .int .i64 0, .int .u64 0, .int .u64 0, .slice .nil 0 1 [], .slice .nil 0 1 []], (some 6), none⟩,
 ⟨.assign (.c (.int .i64 0)), (some 7), none⟩,
 ⟨.assign (.c (.bool false)), (some 8), none⟩]
@[simp] def eq44_46 := id q44_46.eq_1
def k44_0 : ACode :=
  .ops q44_0 .ret
@[simp] def xk44_0 := @xOps _ _ _ k44_0.eq_1
def k44_1 : ACode :=
  .ops q44_1 .ret
@[simp] def xk44_1 := @xOps _ _ _ k44_1.eq_1
def k44_2 : ACode :=
  .cond (.p 228) k44_1 .skip
@[simp] def xk44_2 := @xCond _ _ _ _ k44_2.eq_1
def k44_3 : ACode :=
  .seq k44_2 k44_0
@[simp] def xk44_3 := @xSeq _ _ _ k44_3.eq_1
def k44_4 : ACode :=
  .ops q44_2 k44_3
@[simp] def xk44_4 := @xOps _ _ _ k44_4.eq_1
def k44_5 : ACode :=
  .ops q44_3 .skip
@[simp] def xk44_5 := @xOps _ _ _ k44_5.eq_1
def k44_6 : ACode :=
  .ops q44_4 .skip
@[simp] def xk44_6 := @xOps _ _ _ k44_6.eq_1
def k44_7 : ACode :=
  .ops q44_5 .skip
@[simp] def xk44_7 := @xOps _ _ _ k44_7.eq_1
def k44_8 : ACode :=
  .ops q44_6 .skip
@[simp] def xk44_8 := @xOps _ _ _ k44_8.eq_1
def k44_9 : ACode :=
  .ops q44_7 k44_8
@[simp] def xk44_9 := @xOps _ _ _ k44_9.eq_1
def k44_10 : ACode :=
  .ops [⟨.dead, none, none⟩] .skip
def k44_11 : ACode :=
  .ops q44_8 .skip
@[simp] def xk44_11 := @xOps _ _ _ k44_11.eq_1
def k44_12 : ACode :=
  .ops q44_9 .skip
def k44_13 : ACode :=
  .ops q44_10 .skip
@[simp] def xk44_13 := @xOps _ _ _ k44_13.eq_1
def k44_14 : ACode :=
  .ops q44_11 k44_13
@[simp] def xk44_14 := @xOps _ _ _ k44_14.eq_1
def k44_15 : ACode :=
  .ops q44_12 .skip
def k44_16 : ACode :=
  .cond (.p 124) k44_15 .skip
def k44_17 : ACode :=
  .ops [⟨.move .head (.p 12), (some 124), none⟩] k44_16
def k44_18 : ACode :=
  .ops q44_13 k44_17
def k44_19 : ACode :=
  .ops q44_14 .skip
@[simp] def xk44_19 := @xOps _ _ _ k44_19.eq_1
def k44_20 : ACode :=
  .cond (.p 166) k44_19 .skip
@[simp] def xk44_20 := @xCond _ _ _ _ k44_20.eq_1
def k44_21 : ACode :=
  .ops [⟨.move .head (.p 12), (some 166), none⟩] k44_20
@[simp] def xk44_21 := @xOps _ _ _ k44_21.eq_1
def k44_22 : ACode :=
  .ops q44_15 k44_21
@[simp] def xk44_22 := @xOps _ _ _ k44_22.eq_1
def k44_23 : ACode :=
  .ops q44_16 k44_22
@[simp] def xk44_23 := @xOps _ _ _ k44_23.eq_1
def k44_24 : ACode :=
  .cond (.p 150) k44_23 .skip
@[simp] def xk44_24 := @xCond _ _ _ _ k44_24.eq_1
def k44_25 : ACode :=
  .ops q44_17 k44_24
@[simp] def xk44_25 := @xOps _ _ _ k44_25.eq_1
def k44_26 : ACode :=
  .ops q44_18 k44_25
@[simp] def xk44_26 := @xOps _ _ _ k44_26.eq_1
def k44_27 : ACode :=
  .ops q44_19 k44_26
@[simp] def xk44_27 := @xOps _ _ _ k44_27.eq_1
def k44_28 : ACode :=
  .ops q44_20 .skip
def k44_29 : ACode :=
  .ops q44_21 .skip
def k44_30 : ACode :=
  .cond (.p 215) k44_29 .skip
def k44_31 : ACode :=
  .ops [⟨.move .head (.p 12), (some 215), none⟩] k44_30
def k44_32 : ACode :=
  .ops q44_22 .skip
def k44_33 : ACode :=
  .ops q44_23 k44_32
def k44_34 : ACode :=
  .cond (.p 196) k44_33 .skip
def k44_35 : ACode :=
  .seq k44_34 k44_31
def k44_36 : ACode :=
  .ops [⟨.move .head (.p 12), (some 196), none⟩] k44_35
def k44_37 : ACode :=
  .ops q44_24 k44_36
def k44_38 : ACode :=
  .cond (.p 185) k44_37 .skip
@[simp] def xk44_38 := @xCond _ _ _ _ k44_38.eq_1
def k44_39 : ACode :=
  .ops q44_25 k44_38
@[simp] def xk44_39 := @xOps _ _ _ k44_39.eq_1
def k44_40 : ACode :=
  .cond (.p 171) k44_28 k44_39
@[simp] def xk44_40 := @xCond _ _ _ _ k44_40.eq_1
def k44_41 : ACode :=
  .ops q44_26 .skip
@[simp] def xk44_41 := @xOps _ _ _ k44_41.eq_1
def k44_42 : ACode :=
  .cond (.p 171) .skip k44_41
@[simp] def xk44_42 := @xCond _ _ _ _ k44_42.eq_1
def k44_43 : ACode :=
  .seq k44_42 k44_40
@[simp] def xk44_43 := @xSeq _ _ _ k44_43.eq_1
def k44_44 : ACode :=
  .ops q44_27 k44_43
@[simp] def xk44_44 := @xOps _ _ _ k44_44.eq_1
def k44_45 : ACode :=
  .cond (.p 134) k44_27 k44_44
@[simp] def xk44_45 := @xCond _ _ _ _ k44_45.eq_1
def k44_46 : ACode :=
  .ops q44_28 k44_45
@[simp] def xk44_46 := @xOps _ _ _ k44_46.eq_1
def k44_47 : ACode :=
  .cond (.p 115) k44_18 k44_46
@[simp] def xk44_47 := @xCond _ _ _ _ k44_47.eq_1
def k44_48 : ACode :=
  .ops q44_29 k44_47
@[simp] def xk44_48 := @xOps _ _ _ k44_48.eq_1
def k44_49 : ACode :=
  .cond (.p 97) k44_14 k44_48
@[simp] def xk44_49 := @xCond _ _ _ _ k44_49.eq_1
def k44_50 : ACode :=
  .ops q44_30 k44_49
@[simp] def xk44_50 := @xOps _ _ _ k44_50.eq_1
def k44_51 : ACode :=
  .cond (.p 86) k44_12 k44_50
@[simp] def xk44_51 := @xCond _ _ _ _ k44_51.eq_1
def k44_52 : ACode :=
  .ops q44_31 .skip
@[simp] def xk44_52 := @xOps _ _ _ k44_52.eq_1
def k44_53 : ACode :=
  .cond (.p 86) .skip k44_52
@[simp] def xk44_53 := @xCond _ _ _ _ k44_53.eq_1
def k44_54 : ACode :=
  .ops q44_32 k44_53
@[simp] def xk44_54 := @xOps _ _ _ k44_54.eq_1
def k44_55 : ACode :=
  .cond (.p 86) .skip k44_54
@[simp] def xk44_55 := @xCond _ _ _ _ k44_55.eq_1
def k44_56 : ACode :=
  .seq k44_55 k44_51
@[simp] def xk44_56 := @xSeq _ _ _ k44_56.eq_1
def k44_57 : ACode :=
  .ops q44_33 k44_56
@[simp] def xk44_57 := @xOps _ _ _ k44_57.eq_1
def k44_58 : ACode :=
  .cond (.p 78) k44_11 k44_57
@[simp] def xk44_58 := @xCond _ _ _ _ k44_58.eq_1
def k44_59 : ACode :=
  .ops q44_34 k44_58
@[simp] def xk44_59 := @xOps _ _ _ k44_59.eq_1
def k44_60 : ACode :=
  .cond (.p 67) k44_10 k44_59
@[simp] def xk44_60 := @xCond _ _ _ _ k44_60.eq_1
def k44_61 : ACode :=
  .ops q44_35 k44_60
@[simp] def xk44_61 := @xOps _ _ _ k44_61.eq_1
def k44_62 : ACode :=
  .cond (.p 58) k44_9 k44_61
@[simp] def xk44_62 := @xCond _ _ _ _ k44_62.eq_1
def k44_63 : ACode :=
  .ops q44_36 k44_62
@[simp] def xk44_63 := @xOps _ _ _ k44_63.eq_1
def k44_64 : ACode :=
  .cond (.p 49) k44_7 k44_63
@[simp] def xk44_64 := @xCond _ _ _ _ k44_64.eq_1
def k44_65 : ACode :=
  .ops q44_37 k44_64
@[simp] def xk44_65 := @xOps _ _ _ k44_65.eq_1
def k44_66 : ACode :=
  .cond (.p 42) k44_6 k44_65
@[simp] def xk44_66 := @xCond _ _ _ _ k44_66.eq_1
def k44_67 : ACode :=
  .ops q44_38 .skip
@[simp] def xk44_67 := @xOps _ _ _ k44_67.eq_1
def k44_68 : ACode :=
  .cond (.p 42) .skip k44_67
@[simp] def xk44_68 := @xCond _ _ _ _ k44_68.eq_1
def k44_69 : ACode :=
  .seq k44_68 k44_66
@[simp] def xk44_69 := @xSeq _ _ _ k44_69.eq_1
def k44_70 : ACode :=
  .ops q44_39 k44_69
@[simp] def xk44_70 := @xOps _ _ _ k44_70.eq_1
def k44_71 : ACode :=
  .cond (.p 36) k44_5 k44_70
@[simp] def xk44_71 := @xCond _ _ _ _ k44_71.eq_1
def k44_72 : ACode :=
  .ops q44_40 .skip
@[simp] def xk44_72 := @xOps _ _ _ k44_72.eq_1
def k44_73 : ACode :=
  .cond (.p 36) .skip k44_72
@[simp] def xk44_73 := @xCond _ _ _ _ k44_73.eq_1
def k44_74 : ACode :=
  .seq k44_73 k44_71
@[simp] def xk44_74 := @xSeq _ _ _ k44_74.eq_1
def k44_75 : ACode :=
  .ops q44_41 k44_74
@[simp] def xk44_75 := @xOps _ _ _ k44_75.eq_1
def k44_76 : ACode :=
  .block 0 k44_75
@[simp] def xk44_76 := @xBlock _ _ _ k44_76.eq_1
def k44_77 : ACode :=
  .seq k44_76 k44_4
@[simp] def xk44_77 := @xSeq _ _ _ k44_77.eq_1
def k44_78 : ACode :=
  .ops [⟨.move .head (.p 0), (some 35), none⟩] k44_77
@[simp] def xk44_78 := @xOps _ _ _ k44_78.eq_1
def k44_79 : ACode :=
  .ops [⟨.assign (.c (.int .i64 0)), (some 13), none⟩] k44_78
@[simp] def xk44_79 := @xOps _ _ _ k44_79.eq_1
def k44_80 : ACode :=
  .ops [⟨.assign (.c (.bool true)), (some 12), none⟩] k44_79
@[simp] def xk44_80 := @xOps _ _ _ k44_80.eq_1
def k44_81 : ACode :=
  .ops q44_42 .ret
def k44_82 : ACode :=
  .cond (.p 33) k44_81 .skip
@[simp] def xk44_82 := @xCond _ _ _ _ k44_82.eq_1
def k44_83 : ACode :=
  .seq k44_82 k44_80
@[simp] def xk44_83 := @xSeq _ _ _ k44_83.eq_1
def k44_84 : ACode :=
  .ops q44_43 k44_83
@[simp] def xk44_84 := @xOps _ _ _ k44_84.eq_1
def k44_85 : ACode :=
  .ops q44_44 k44_84
@[simp] def xk44_85 := @xOps _ _ _ k44_85.eq_1
def k44_86 : ACode :=
  .ops q44_45 k44_85
@[simp] def xk44_86 := @xOps _ _ _ k44_86.eq_1
def k44_87 : ACode :=
  .ops q44_46 k44_86
@[simp] def xk44_87 := @xOps _ _ _ k44_87.eq_1
def af44 : AFunc := ⟨232, k44_87, [.cell 6 true 8, .tmp 7, .tmp 8], fun _ _ => none⟩

theorem ok44 : ∃ hs, pFunc Tryz.prog sg hs Tryz.f44 = some af44 := ⟨fun i => 0, by kernel_rfl⟩
def q16_0 : List AOper :=
  [⟨.move .look (.p 0), (some 7), none⟩,
 ⟨.move .look (.t 1), (some 8), none⟩,
 ⟨.call 44 [(.p 7, false), (.t 8, false), (.c (.int .i64 200), false)], (some 9), none⟩,
 ⟨.extract 9 0, (some 10), none⟩,
 ⟨.extract 9 1, (some 11), none⟩,
 ⟨.extract 9 2, (some 12), none⟩,
 ⟨.store 8 (.p 4) (.p 10), none, none⟩,
 ⟨.assign (.p 11), (some 5), none⟩,
 ⟨.assign (.p 12), (some 6), none⟩]
@[simp] def eq16_0 := id q16_0.eq_1
def q16_1 : List AOper :=
  [⟨.newbox 4 [.int .i64 0, .str [], .str [], .int .i64 0, .int .u64 0, .int .u64 0, .slice .nil 0 1 [], .slice .nil 0 1 []], (some 4), none⟩,
 ⟨.assign (.c (.int .i64 0)), (some 5), none⟩,
 ⟨.assign (.c (.bool false)), (some 6), none⟩]
@[simp] def eq16_1 := id q16_1.eq_1
def k16_0 : ACode :=
  .ops q16_0 .ret
@[simp] def xk16_0 := @xOps _ _ _ k16_0.eq_1
def k16_1 : ACode :=
  .ops q16_1 k16_0
@[simp] def xk16_1 := @xOps _ _ _ k16_1.eq_1
def af16 : AFunc := ⟨13, k16_1, [.cell 4 true 8, .tmp 5, .tmp 6], fun _ _ => none⟩

theorem ok16 : ∃ hs, pFunc Tryz.prog sg hs Tryz.f16 = some af16 := ⟨fun i => 0, by kernel_rfl⟩
def q8_0 : List AOper :=
  [⟨.load .take true 8 (.p 7), (some 135), none⟩,
 ⟨.move .take (.p 8), (some 136), none⟩,
 ⟨.store 8 (.p 4) (.p 135), none, none⟩,
 ⟨.assign (.p 136), (some 5), none⟩,
 ⟨.assign (.c (.bool true)), (some 6), none⟩]
@[simp] def eq8_0 := id q8_0.eq_1
def q8_1 : List AOper :=
  [⟨.move .look (.t 1), (some 56), none⟩,
 ⟨.move .look (.p 8), (some 57), none⟩,
 ⟨.bin .sub 1 true (.p 57) (.c (.int .i64 1)), (some 58), none⟩,
 ⟨.sliceSl 1 (.t 56) (some (.c (.int .i64 4))) (some (.p 58)), (some 59), none⟩,
 ⟨.convBS (.t 59), (some 60), none⟩,
 ⟨.fieldAddr 1 (.p 7), (some 61), none⟩,
 ⟨.store 1 (.p 61) (.p 60), none, none⟩]
@[simp] def eq8_1 := id q8_1.eq_1
def q8_2 : List AOper :=
  [⟨.fieldAddr 3 (.p 7), (some 68), none⟩,
 ⟨.store 1 (.p 68) (.c (.int .i64 1)), none, none⟩]
@[simp] def eq8_2 := id q8_2.eq_1
def q8_3 : List AOper :=
  [⟨.move .look (.t 1), (some 64), none⟩,
 ⟨.indexAddr 1 (.t 64) (.c (.int .i64 0)), (some 65), none⟩,
 ⟨.load .head false 1 (.p 65), (some 66), none⟩,
 ⟨.bin .eql 1 true (.p 66) (.c (.int .u8 1)), (some 67), none⟩]
@[simp] def eq8_3 := id q8_3.eq_1
def q8_4 : List AOper :=
  [⟨.move .look (.t 1), (some 72), none⟩,
 ⟨.move .head (.p 8), (some 73), none⟩,
 ⟨.sliceSl 1 (.t 72) none (some (.p 73)), (some 74), none⟩,
 ⟨.fieldAddr 6 (.p 7), (some 75), none⟩,
 ⟨.store 1 (.p 75) (.t 74), none, none⟩]
@[simp] def eq8_4 := id q8_4.eq_1
def q8_5 : List AOper :=
  [⟨.move .look (.t 1), (some 78), none⟩,
 ⟨.move .look (.p 8), (some 79), none⟩,
 ⟨.bin .sub 1 true (.p 79) (.c (.int .i64 13)), (some 80), none⟩,
 ⟨.sliceSl 1 (.t 78) (some (.c (.int .i64 4))) (some (.p 80)), (some 81), none⟩,
 ⟨.convBS (.t 81), (some 82), none⟩,
 ⟨.move .look (.t 1), (some 83), none⟩,
 ⟨.move .look (.p 8), (some 84), none⟩,
 ⟨.bin .sub 1 true (.p 84) (.c (.int .i64 12)), (some 85), none⟩,
 ⟨.move .head (.p 8), (some 86), none⟩,
 ⟨.sliceSl 1 (.t 83) (some (.p 85)) (some (.p 86)), (some 87), none⟩,
 ⟨.fieldAddr 1 (.p 7), (some 88), none⟩,
 ⟨.store 1 (.p 88) (.p 82), none, none⟩,
 ⟨.fieldAddr 6 (.p 7), (some 89), none⟩,
 ⟨.store 1 (.p 89) (.t 87), none, none⟩]
@[simp] def eq8_5 := id q8_5.eq_1
def q8_6 : List AOper :=
  [⟨.move .look (.t 1), (some 122), none⟩,
 ⟨.move .look (.p 12), (some 123), none⟩,
 ⟨.bin .add 1 true (.c (.int .i64 4)) (.p 123), (some 124), none⟩,
 ⟨.bin .sub 1 true (.p 124) (.c (.int .i64 1)), (some 125), none⟩,
 ⟨.sliceSl 1 (.t 122) (some (.c (.int .i64 8))) (some (.p 125)), (some 126), none⟩,
 ⟨.convBS (.t 126), (some 127), none⟩,
 ⟨.move .look (.t 1), (some 128), none⟩,
 ⟨.move .look (.p 12), (some 129), none⟩,
 ⟨.bin .add 1 true (.c (.int .i64 4)) (.p 129), (some 130), none⟩,
 ⟨.move .head (.p 8), (some 131), none⟩,
 ⟨.sliceSl 1 (.t 128) (some (.p 130)) (some (.p 131)), (some 132), none⟩,
 ⟨.fieldAddr 1 (.p 7), (some 133), none⟩,
 ⟨.store 1 (.p 133) (.p 127), none, none⟩,
 ⟨.fieldAddr 6 (.p 7), (some 134), none⟩,
 ⟨.store 1 (.p 134) (.t 132), none, none⟩]
@[simp] def eq8_6 := id q8_6.eq_1
def q8_7 : List AOper :=
  [⟨.build [.int .i64 0, .str [], .str [], .int .i64 0, .int .u64 0, .int .u64 0, .slice .nil 0 1 [], .slice .nil 0 1 []] [], (some 121), none⟩,
 ⟨.store 8 (.p 4) (.p 121), none, none⟩,
 ⟨.assign (.c (.int .i64 0)), (some 5), none⟩,
 ⟨.assign (.c (.bool false)), (some 6), none⟩]
@[simp] def eq8_7 := id q8_7.eq_1
def q8_8 : List AOper :=
  [⟨.move .look (.p 15), (some 111), none⟩,
 ⟨.un .not (.p 111), (some 112), none⟩,
 ⟨.move .look (.p 112), (some 113), none⟩,
 ⟨.move .look (.p 12), (some 114), (some (113, false))⟩,
 ⟨.bin .add 1 true (.c (.int .i64 4)) (.p 114), (some 115), (some (113, false))⟩,
 ⟨.move .look (.p 14), (some 116), (some (113, false))⟩,
 ⟨.bin .add 1 false (.p 115) (.p 116), (some 117), (some (113, false))⟩,
 ⟨.move .head (.p 8), (some 118), (some (113, false))⟩,
 ⟨.bin .neq 1 false (.p 117) (.p 118), (some 119), (some (113, false))⟩,
 ⟨.pick (.p 113) (.c (.bool true)) (.p 119), (some 120), none⟩]
@[simp] def eq8_8 := id q8_8.eq_1
def q8_9 : List AOper :=
  [⟨.move .look (.t 1), (some 103), none⟩,
 ⟨.move .look (.p 12), (some 104), none⟩,
 ⟨.bin .add 1 true (.c (.int .i64 4)) (.p 104), (some 105), none⟩,
 ⟨.move .head (.p 8), (some 106), none⟩,
 ⟨.sliceSl 1 (.t 103) (some (.p 105)) (some (.p 106)), (some 107), none⟩,
 ⟨.call 14 [(.c (.int .i64 3), false), (.t 107, false)], (some 108), none⟩,
 ⟨.move .look (.t 108), (some 102), none⟩,
 ⟨.extract 102 0, (some 109), none⟩,
 ⟨.extract 102 1, (some 110), none⟩,
 ⟨.assign (.p 109), (some 14), none⟩,
 ⟨.assign (.p 110), (some 15), none⟩]
@[simp] def eq8_9 := id q8_9.eq_1
def q8_10 : List AOper :=
  [⟨.build [.int .i64 0, .str [], .str [], .int .i64 0, .int .u64 0, .int .u64 0, .slice .nil 0 1 [], .slice .nil 0 1 []] [], (some 101), none⟩,
 ⟨.store 8 (.p 4) (.p 101), none, none⟩,
 ⟨.assign (.c (.int .i64 0)), (some 5), none⟩,
 ⟨.assign (.c (.bool false)), (some 6), none⟩]
@[simp] def eq8_10 := id q8_10.eq_1
def q8_11 : List AOper :=
  [⟨.move .look (.p 13), (some 99), none⟩,
 ⟨.un .not (.p 99), (some 100), none⟩]
@[simp] def eq8_11 := id q8_11.eq_1
def q8_12 : List AOper :=
  [⟨.move .look (.t 1), (some 93), none⟩,
 ⟨.move .head (.p 8), (some 94), none⟩,
 ⟨.sliceSl 1 (.t 93) (some (.c (.int .i64 4))) (some (.p 94)), (some 95), none⟩,
 ⟨.call 14 [(.c (.int .i64 2), false), (.t 95, false)], (some 96), none⟩,
 ⟨.move .look (.t 96), (some 92), none⟩,
 ⟨.extract 92 0, (some 97), none⟩,
 ⟨.extract 92 1, (some 98), none⟩,
 ⟨.assign (.p 97), (some 12), none⟩,
 ⟨.assign (.p 98), (some 13), none⟩]
@[simp] def eq8_12 := id q8_12.eq_1
def q8_13 : List AOper :=
  [⟨.move .look (.p 0), (some 46), none⟩,
 ⟨.move .look (.t 1), (some 47), none⟩,
 ⟨.call 16 [(.p 46, false), (.t 47, false)], (some 48), none⟩,
 ⟨.extract 48 0, (some 49), none⟩,
 ⟨.extract 48 1, (some 50), none⟩,
 ⟨.extract 48 2, (some 51), none⟩,
 ⟨.store 8 (.p 4) (.p 49), none, none⟩,
 ⟨.assign (.p 50), (some 5), none⟩,
 ⟨.assign (.p 51), (some 6), none⟩]
@[simp] def eq8_13 := id q8_13.eq_1
def q8_14 : List AOper :=
  [⟨.bin .eql 1 true (.p 45) (.c (.int .i64 15)), (some 91), none⟩,
 ⟨.assign (.p 91), (some 90), none⟩]
@[simp] def eq8_14 := id q8_14.eq_1
def q8_15 : List AOper :=
  [⟨.bin .eql 1 true (.p 45) (.c (.int .i64 12)), (some 77), none⟩,
 ⟨.assign (.p 77), (some 76), none⟩]
@[simp] def eq8_15 := id q8_15.eq_1
def q8_16 : List AOper :=
  [⟨.bin .eql 1 true (.p 45) (.c (.int .i64 4)), (some 71), none⟩,
 ⟨.assign (.p 71), (some 69), none⟩]
@[simp] def eq8_16 := id q8_16.eq_1
def q8_17 : List AOper :=
  [⟨.bin .eql 1 true (.p 45) (.c (.int .i64 3)), (some 70), none⟩,
 ⟨.assign (.p 70), (some 69), none⟩]
@[simp] def eq8_17 := id q8_17.eq_1
def q8_18 : List AOper :=
  [⟨.bin .eql 1 true (.p 45) (.c (.int .i64 8)), (some 63), none⟩,
 ⟨.assign (.p 63), (some 62), none⟩]
@[simp] def eq8_18 := id q8_18.eq_1
def q8_19 : List AOper :=
  [⟨.bin .eql 1 true (.p 45) (.c (.int .i64 14)), (some 55), none⟩,
 ⟨.assign (.p 55), (some 52), none⟩]
@[simp] def eq8_19 := id q8_19.eq_1
def q8_20 : List AOper :=
  [⟨.bin .eql 1 true (.p 45) (.c (.int .i64 13)), (some 54), none⟩,
 ⟨.assign (.p 54), (some 52), none⟩]
@[simp] def eq8_20 := id q8_20.eq_1
def q8_21 : List AOper :=
  [⟨.bin .eql 1 true (.p 45) (.c (.int .i64 2)), (some 53), none⟩,
 ⟨.assign (.p 53), (some 52), none⟩]
@[simp] def eq8_21 := id q8_21.eq_1
def q8_22 : List AOper :=
  [⟨.build [.int .i64 0, .str [], .str [], .int .i64 0, .int .u64 0, .int .u64 0, .slice .nil 0 1 [], .slice .nil 0 1 []] [], (some 44), none⟩,
 ⟨.store 8 (.p 4) (.p 44), none, none⟩,
 ⟨.assign (.c (.int .i64 0)), (some 5), none⟩,
 ⟨.assign (.c (.bool false)), (some 6), none⟩]
@[simp] def eq8_22 := id q8_22.eq_1
def q8_23 : List AOper :=
  [⟨.move .look (.p 9), (some 42), none⟩,
 ⟨.un .not (.p 42), (some 43), none⟩]
@[simp] def eq8_23 := id q8_23.eq_1
def q8_24 : List AOper :=
  [⟨.assign (.c (.int .i64 4)), (some 8), none⟩,
 ⟨.assign (.c (.bool true)), (some 9), none⟩]
@[simp] def eq8_24 := id q8_24.eq_1
def q8_25 : List AOper :=
  [⟨.move .look (.p 11), (some 29), none⟩,
 ⟨.move .look (.p 29), (some 30), none⟩,
 ⟨.move .head (.p 10), (some 31), (some (30, true))⟩,
 ⟨.bin .eql 1 true (.p 31) (.c (.int .i64 4)), (some 32), (some (30, true))⟩,
 ⟨.pick (.p 30) (.p 32) (.c (.bool false)), (some 33), none⟩,
 ⟨.move .look (.p 33), (some 34), none⟩,
 ⟨.move .head (.p 0), (some 35), (some (34, true))⟩,
 ⟨.bin .eql 1 true (.p 35) (.c (.int .i64 3)), (some 36), (some (34, true))⟩,
 ⟨.move .look (.p 36), (some 37), (some (34, true))⟩,
 ⟨.move .head (.p 0), (some 38), (some (37, false))⟩,
 ⟨.bin .eql 1 true (.p 38) (.c (.int .i64 4)), (some 39), (some (37, false))⟩,
 ⟨.pick (.p 37) (.c (.bool true)) (.p 39), (some 40), (some (34, true))⟩,
 ⟨.pick (.p 34) (.p 40) (.c (.bool false)), (some 41), none⟩]
@[simp] def eq8_25 := id q8_25.eq_1
def q8_26 : List AOper :=
  [⟨.move .look (.t 1), (some 25), none⟩,
 ⟨.call 15 [(.t 25, false)], (some 26), none⟩,
 ⟨.move .look (.t 26), (some 24), none⟩,
 ⟨.extract 24 0, (some 27), none⟩,
 ⟨.extract 24 1, (some 28), none⟩,
 ⟨.assign (.p 27), (some 10), none⟩,
 ⟨.assign (.p 28), (some 11), none⟩]
@[simp] def eq8_26 := id q8_26.eq_1
def q8_27 : List AOper :=
  [⟨.move .look (.p 0), (some 19), none⟩,
 ⟨.move .look (.t 1), (some 20), none⟩,
 ⟨.call 14 [(.p 19, false), (.t 20, false)], (some 21), none⟩,
 ⟨.move .look (.t 21), (some 18), none⟩,
 ⟨.extract 18 0, (some 22), none⟩,
 ⟨.extract 18 1, (some 23), none⟩,
 ⟨.assign (.p 22), (some 8), none⟩,
 ⟨.assign (.p 23), (some 9), none⟩]
@[simp] def eq8_27 := id q8_27.eq_1
def q8_28 : List AOper :=
  [⟨.move .look (.p 0), (some 16), none⟩,
 ⟨.build [.int .i64 0, .str [], .str [], .int .i64 0, .int .u64 0, .int .u64 0, .slice .nil 0 1 [], .slice .nil 0 1 []] [(0, 1, .p 16)], (some 17), none⟩,
 ⟨.newbox 7 [.int .i64 0, .str [], .str [], .int .i64 0, .int .u64 0, .int .u64 0, .slice .nil 0 1 [], .slice .nil 0 1 []], (some 7), none⟩,
 ⟨.store 8 (.p 7) (.p 17), none, none⟩]
@[simp] def eq8_28 := id q8_28.eq_1
def q8_29 : List AOper :=
  [⟨.newbox 4 [.int .i64 0, .str [], .str [], .int .i64 0, .int .u64 0, .int .u64 0, .slice .nil 0 1 [], .slice .nil 0 1 []], (some 4), none⟩,
 ⟨.assign (.c (.int .i64 0)), (some 5), none⟩,
 ⟨.assign (.c (.bool false)), (some 6), none⟩]
@[simp] def eq8_29 := id q8_29.eq_1
def k8_0 : ACode :=
  .ops q8_0 .ret
@[simp] def xk8_0 := @xOps _ _ _ k8_0.eq_1
def k8_1 : ACode :=
  .ops q8_1 .skip
@[simp] def xk8_1 := @xOps _ _ _ k8_1.eq_1
def k8_2 : ACode :=
  .ops q8_2 .skip
@[simp] def xk8_2 := @xOps _ _ _ k8_2.eq_1
def k8_3 : ACode :=
  .cond (.p 67) k8_2 .skip
@[simp] def xk8_3 := @xCond _ _ _ _ k8_3.eq_1
def k8_4 : ACode :=
  .ops q8_3 k8_3
@[simp] def xk8_4 := @xOps _ _ _ k8_4.eq_1
def k8_5 : ACode :=
  .ops q8_4 .skip
@[simp] def xk8_5 := @xOps _ _ _ k8_5.eq_1
def k8_6 : ACode :=
  .ops q8_5 .skip
@[simp] def xk8_6 := @xOps _ _ _ k8_6.eq_1
def k8_7 : ACode :=
  .ops q8_6 .skip
@[simp] def xk8_7 := @xOps _ _ _ k8_7.eq_1
def k8_8 : ACode :=
  .ops q8_7 .ret
@[simp] def xk8_8 := @xOps _ _ _ k8_8.eq_1
def k8_9 : ACode :=
  .cond (.p 120) k8_8 .skip
@[simp] def xk8_9 := @xCond _ _ _ _ k8_9.eq_1
def k8_10 : ACode :=
  .seq k8_9 k8_7
@[simp] def xk8_10 := @xSeq _ _ _ k8_10.eq_1
def k8_11 : ACode :=
  .ops q8_8 k8_10
@[simp] def xk8_11 := @xOps _ _ _ k8_11.eq_1
def k8_12 : ACode :=
  .ops q8_9 k8_11
@[simp] def xk8_12 := @xOps _ _ _ k8_12.eq_1
def k8_13 : ACode :=
  .ops q8_10 .ret
@[simp] def xk8_13 := @xOps _ _ _ k8_13.eq_1
def k8_14 : ACode :=
  .cond (.p 100) k8_13 .skip
@[simp] def xk8_14 := @xCond _ _ _ _ k8_14.eq_1
def k8_15 : ACode :=
  .seq k8_14 k8_12
@[simp] def xk8_15 := @xSeq _ _ _ k8_15.eq_1
def k8_16 : ACode :=
  .ops q8_11 k8_15
@[simp] def xk8_16 := @xOps _ _ _ k8_16.eq_1
def k8_17 : ACode :=
  .ops q8_12 k8_16
@[simp] def xk8_17 := @xOps _ _ _ k8_17.eq_1
def k8_18 : ACode :=
  .ops q8_13 .ret
@[simp] def xk8_18 := @xOps _ _ _ k8_18.eq_1
def k8_19 : ACode :=
  .cond (.p 90) k8_17 k8_18
@[simp] def xk8_19 := @xCond _ _ _ _ k8_19.eq_1
def k8_20 : ACode :=
  .ops q8_14 k8_19
@[simp] def xk8_20 := @xOps _ _ _ k8_20.eq_1
def k8_21 : ACode :=
  .cond (.p 76) k8_6 k8_20
@[simp] def xk8_21 := @xCond _ _ _ _ k8_21.eq_1
def k8_22 : ACode :=
  .ops q8_15 k8_21
@[simp] def xk8_22 := @xOps _ _ _ k8_22.eq_1
def k8_23 : ACode :=
  .cond (.p 69) k8_5 k8_22
@[simp] def xk8_23 := @xCond _ _ _ _ k8_23.eq_1
def k8_24 : ACode :=
  .ops q8_16 .skip
@[simp] def xk8_24 := @xOps _ _ _ k8_24.eq_1
def k8_25 : ACode :=
  .cond (.p 69) .skip k8_24
@[simp] def xk8_25 := @xCond _ _ _ _ k8_25.eq_1
def k8_26 : ACode :=
  .seq k8_25 k8_23
@[simp] def xk8_26 := @xSeq _ _ _ k8_26.eq_1
def k8_27 : ACode :=
  .ops q8_17 k8_26
@[simp] def xk8_27 := @xOps _ _ _ k8_27.eq_1
def k8_28 : ACode :=
  .cond (.p 62) k8_4 k8_27
@[simp] def xk8_28 := @xCond _ _ _ _ k8_28.eq_1
def k8_29 : ACode :=
  .ops q8_18 k8_28
@[simp] def xk8_29 := @xOps _ _ _ k8_29.eq_1
def k8_30 : ACode :=
  .cond (.p 52) k8_1 k8_29
@[simp] def xk8_30 := @xCond _ _ _ _ k8_30.eq_1
def k8_31 : ACode :=
  .ops q8_19 .skip
@[simp] def xk8_31 := @xOps _ _ _ k8_31.eq_1
def k8_32 : ACode :=
  .cond (.p 52) .skip k8_31
@[simp] def xk8_32 := @xCond _ _ _ _ k8_32.eq_1
def k8_33 : ACode :=
  .ops q8_20 k8_32
@[simp] def xk8_33 := @xOps _ _ _ k8_33.eq_1
def k8_34 : ACode :=
  .cond (.p 52) .skip k8_33
@[simp] def xk8_34 := @xCond _ _ _ _ k8_34.eq_1
def k8_35 : ACode :=
  .seq k8_34 k8_30
@[simp] def xk8_35 := @xSeq _ _ _ k8_35.eq_1
def k8_36 : ACode :=
  .ops q8_21 k8_35
@[simp] def xk8_36 := @xOps _ _ _ k8_36.eq_1
def k8_37 : ACode :=
  .block 0 k8_36
@[simp] def xk8_37 := @xBlock _ _ _ k8_37.eq_1
def k8_38 : ACode :=
  .seq k8_37 k8_0
@[simp] def xk8_38 := @xSeq _ _ _ k8_38.eq_1
def k8_39 : ACode :=
  .ops [⟨.move .head (.p 0), (some 45), none⟩] k8_38
@[simp] def xk8_39 := @xOps _ _ _ k8_39.eq_1
def k8_40 : ACode :=
  .ops q8_22 .ret
@[simp] def xk8_40 := @xOps _ _ _ k8_40.eq_1
def k8_41 : ACode :=
  .cond (.p 43) k8_40 .skip
@[simp] def xk8_41 := @xCond _ _ _ _ k8_41.eq_1
def k8_42 : ACode :=
  .seq k8_41 k8_39
@[simp] def xk8_42 := @xSeq _ _ _ k8_42.eq_1
def k8_43 : ACode :=
  .ops q8_23 k8_42
@[simp] def xk8_43 := @xOps _ _ _ k8_43.eq_1
def k8_44 : ACode :=
  .ops q8_24 .skip
@[simp] def xk8_44 := @xOps _ _ _ k8_44.eq_1
def k8_45 : ACode :=
  .cond (.p 41) k8_44 .skip
@[simp] def xk8_45 := @xCond _ _ _ _ k8_45.eq_1
def k8_46 : ACode :=
  .seq k8_45 k8_43
@[simp] def xk8_46 := @xSeq _ _ _ k8_46.eq_1
def k8_47 : ACode :=
  .ops q8_25 k8_46
@[simp] def xk8_47 := @xOps _ _ _ k8_47.eq_1
def k8_48 : ACode :=
  .ops q8_26 k8_47
@[simp] def xk8_48 := @xOps _ _ _ k8_48.eq_1
def k8_49 : ACode :=
  .ops q8_27 k8_48
@[simp] def xk8_49 := @xOps _ _ _ k8_49.eq_1
def k8_50 : ACode :=
  .ops q8_28 k8_49
@[simp] def xk8_50 := @xOps _ _ _ k8_50.eq_1
def k8_51 : ACode :=
  .ops q8_29 k8_50
@[simp] def xk8_51 := @xOps _ _ _ k8_51.eq_1
def af8 : AFunc := ⟨137, k8_51, [.cell 4 true 8, .tmp 5, .tmp 6], fun _ _ => none⟩

theorem ok8 : ∃ hs, pFunc Tryz.prog sg hs Tryz.f8 = some af8 := ⟨fun i => 0, by kernel_rfl⟩
def q7_0 : List AOper :=
  [⟨.move .take (.p 7), (some 32), none⟩,
 ⟨.assign (.p 32), (some 4), none⟩]
@[simp] def eq7_0 := id q7_0.eq_1
def q7_1 : List AOper :=
  [⟨.move .look (.p 0), (some 26), none⟩,
 ⟨.move .look (.t 1), (some 27), none⟩,
 ⟨.call 8 [(.p 26, false), (.t 27, false)], (some 28), none⟩,
 ⟨.move .look (.t 28), (some 25), none⟩,
 ⟨.extract 25 0, (some 29), none⟩,
 ⟨.extract 25 1, (some 30), none⟩,
 ⟨.extract 25 2, (some 31), none⟩,
 ⟨.newbox 5 [.int .i64 0, .str [], .str [], .int .i64 0, .int .u64 0, .int .u64 0, .slice .nil 0 1 [], .slice .nil 0 1 []], (some 5), none⟩,
 ⟨.store 8 (.p 5) (.p 29), none, none⟩,
 ⟨.assign (.p 30), (some 6), none⟩,
 ⟨.assign (.p 31), (some 7), none⟩]
@[simp] def eq7_1 := id q7_1.eq_1
def q7_2 : List AOper :=
  [⟨.move .head (.p 0), (some 8), none⟩,
 ⟨.bin .eql 1 true (.p 8) (.c (.int .i64 5)), (some 9), none⟩,
 ⟨.move .look (.p 9), (some 10), none⟩,
 ⟨.move .head (.t 1), (some 11), (some (10, true))⟩,
 ⟨.len false (.p 11), (some 12), (some (10, true))⟩,
 ⟨.bin .gtr 1 true (.p 12) (.c (.int .i64 4)), (some 13), (some (10, true))⟩,
 ⟨.pick (.p 10) (.p 13) (.c (.bool false)), (some 14), none⟩,
 ⟨.move .look (.p 14), (some 15), none⟩,
 ⟨.move .look (.t 1), (some 16), (some (15, true))⟩,
 ⟨.indexAddr 1 (.t 16) (.c (.int .i64 4)), (some 17), (some (15, true))⟩,
 ⟨.load .head false 1 (.p 17), (some 18), (some (15, true))⟩,
 ⟨.bin .eql 1 true (.p 18) (.c (.int .u8 2)), (some 19), (some (15, true))⟩,
 ⟨.pick (.p 15) (.p 19) (.c (.bool false)), (some 20), none⟩,
 ⟨.move .look (.p 20), (some 21), none⟩,
 ⟨.move .head (.p 0), (some 22), (some (21, false))⟩,
 ⟨.bin .eql 1 true (.p 22) (.c (.int .i64 15)), (some 23), (some (21, false))⟩,
 ⟨.pick (.p 21) (.c (.bool true)) (.p 23), (some 24), none⟩]
@[simp] def eq7_2 := id q7_2.eq_1
def k7_0 : ACode :=
  .ops [⟨.assign (.c (.bool true)), (some 4), none⟩] .ret
@[simp] def xk7_0 := @xOps _ _ _ k7_0.eq_1
def k7_1 : ACode :=
  .ops q7_0 .ret
@[simp] def xk7_1 := @xOps _ _ _ k7_1.eq_1
def k7_2 : ACode :=
  .ops q7_1 k7_1
@[simp] def xk7_2 := @xOps _ _ _ k7_2.eq_1
def k7_3 : ACode :=
  .cond (.p 24) k7_2 .skip
@[simp] def xk7_3 := @xCond _ _ _ _ k7_3.eq_1
def k7_4 : ACode :=
  .seq k7_3 k7_0
@[simp] def xk7_4 := @xSeq _ _ _ k7_4.eq_1
def k7_5 : ACode :=
  .ops q7_2 k7_4
@[simp] def xk7_5 := @xOps _ _ _ k7_5.eq_1
def k7_6 : ACode :=
  .ops [⟨.assign (.c (.bool false)), (some 4), none⟩] k7_5
@[simp] def xk7_6 := @xOps _ _ _ k7_6.eq_1
def af7 : AFunc := ⟨33, k7_6, [.tmp 4], fun _ _ => none⟩

theorem ok7 : ∃ hs, pFunc Tryz.prog sg hs Tryz.f7 = some af7 := ⟨fun i => 0, by kernel_rfl⟩
def q17_0 : List AOper :=
  [⟨.move .look (.p 0), (some 3), none⟩,
 ⟨.bin .geq 1 true (.p 3) (.c (.int .i64 1)), (some 4), none⟩,
 ⟨.move .look (.p 4), (some 5), none⟩,
 ⟨.move .look (.p 0), (some 6), (some (5, true))⟩,
 ⟨.bin .leq 1 true (.p 6) (.c (.int .i64 19)), (some 7), (some (5, true))⟩,
 ⟨.pick (.p 5) (.p 7) (.c (.bool false)), (some 8), none⟩,
 ⟨.move .look (.p 8), (some 9), none⟩,
 ⟨.move .head (.p 0), (some 10), (some (9, false))⟩,
 ⟨.bin .eql 1 true (.p 10) (.c (.int .i64 255)), (some 11), (some (9, false))⟩,
 ⟨.pick (.p 9) (.c (.bool true)) (.p 11), (some 12), none⟩,
 ⟨.move .look (.p 12), (some 13), none⟩,
 ⟨.move .head (.p 0), (some 14), (some (13, false))⟩,
 ⟨.bin .eql 1 true (.p 14) (.c (.int .i64 127)), (some 15), (some (13, false))⟩,
 ⟨.pick (.p 13) (.c (.bool true)) (.p 15), (some 16), none⟩,
 ⟨.assign (.p 16), (some 2), none⟩]
@[simp] def eq17_0 := id q17_0.eq_1
def k17_0 : ACode :=
  .ops q17_0 .ret
@[simp] def xk17_0 := @xOps _ _ _ k17_0.eq_1
def k17_1 : ACode :=
  .ops [⟨.assign (.c (.bool false)), (some 2), none⟩] k17_0
@[simp] def xk17_1 := @xOps _ _ _ k17_1.eq_1
def af17 : AFunc := ⟨17, k17_1, [.tmp 2], fun _ _ => none⟩

theorem ok17 : ∃ hs, pFunc Tryz.prog sg hs Tryz.f17 = some af17 := ⟨fun i => 0, by kernel_rfl⟩
def q9_0 : List AOper :=
  [⟨.move .look (.p 0), (some 3), none⟩,
 ⟨.call 17 [(.p 3, false)], (some 4), none⟩,
 ⟨.move .look (.p 4), (some 5), none⟩,
 ⟨.move .head (.p 0), (some 6), (some (5, true))⟩,
 ⟨.bin .neq 1 true (.p 6) (.c (.int .i64 6)), (some 7), (some (5, true))⟩,
 ⟨.pick (.p 5) (.p 7) (.c (.bool false)), (some 8), none⟩,
 ⟨.move .look (.p 8), (some 9), none⟩,
 ⟨.move .head (.p 0), (some 10), (some (9, true))⟩,
 ⟨.bin .neq 1 true (.p 10) (.c (.int .i64 10)), (some 11), (some (9, true))⟩,
 ⟨.pick (.p 9) (.p 11) (.c (.bool false)), (some 12), none⟩,
 ⟨.move .look (.p 12), (some 13), none⟩,
 ⟨.move .head (.p 0), (some 14), (some (13, true))⟩,
 ⟨.bin .neq 1 true (.p 14) (.c (.int .i64 255)), (some 15), (some (13, true))⟩,
 ⟨.pick (.p 13) (.p 15) (.c (.bool false)), (some 16), none⟩,
 ⟨.move .look (.p 16), (some 17), none⟩,
 ⟨.move .head (.p 0), (some 18), (some (17, true))⟩,
 ⟨.bin .neq 1 true (.p 18) (.c (.int .i64 127)), (some 19), (some (17, true))⟩,
 ⟨.pick (.p 17) (.p 19) (.c (.bool false)), (some 20), none⟩,
 ⟨.assign (.p 20), (some 2), none⟩]
@[simp] def eq9_0 := id q9_0.eq_1
def k9_0 : ACode :=
  .ops q9_0 .ret
@[simp] def xk9_0 := @xOps _ _ _ k9_0.eq_1
def k9_1 : ACode :=
  .ops [⟨.assign (.c (.bool false)), (some 2), none⟩] k9_0
@[simp] def xk9_1 := @xOps _ _ _ k9_1.eq_1
def af9 : AFunc := ⟨21, k9_1, [.tmp 2], fun _ _ => none⟩

theorem ok9 : ∃ hs, pFunc Tryz.prog sg hs Tryz.f9 = some af9 := ⟨fun i => 0, by kernel_rfl⟩
def q11_0 : List AOper :=
  [⟨.buildSl 5 1 [] [], (some 3), none⟩,
 ⟨.move .look (.t 0), (some 4), none⟩,
 ⟨.append 5 1 1 false (.t 3) (.p 4), (some 5), none⟩,
 ⟨.assign (.t 5), (some 2), none⟩]
@[simp] def eq11_0 := id q11_0.eq_1
def k11_0 : ACode :=
  .ops q11_0 .ret
@[simp] def xk11_0 := @xOps _ _ _ k11_0.eq_1
def k11_1 : ACode :=
  .ops [⟨.assign (.c (.slice .nil 0 1 [])), (some 2), none⟩] k11_0
@[simp] def xk11_1 := @xOps _ _ _ k11_1.eq_1
def af11 : AFunc := ⟨6, k11_1, [.tmp 2], fun _ _ => none⟩

theorem ok11 : ∃ hs, pFunc Tryz.prog sg hs Tryz.f11 = some af11 := ⟨fun i => 0, by kernel_rfl⟩
def q18_0 : List AOper :=
  [⟨.fieldAddr 0 (.p 1), (some 3), none⟩,
 ⟨.load .look false 1 (.p 3), (some 4), none⟩,
 ⟨.convInt .u8 (.p 4), (some 5), none⟩,
 ⟨.fieldAddr 1 (.p 1), (some 6), none⟩,
 ⟨.load .look false 1 (.p 6), (some 7), none⟩,
 ⟨.build [.int .u8 0, .slice .nil 0 1 []] [(0, 1, .p 5), (1, 1, .t 7)], (some 8), none⟩,
 ⟨.store 2 (.p 2) (.p 8), none, none⟩]
@[simp] def eq18_0 := id q18_0.eq_1
def q18_1 : List AOper :=
  [⟨.box 1 (.p 0), (some 1), none⟩,
 ⟨.newbox 2 [.int .u8 0, .slice .nil 0 1 []], (some 2), none⟩]
@[simp] def eq18_1 := id q18_1.eq_1
def k18_0 : ACode :=
  .ops q18_0 .ret
@[simp] def xk18_0 := @xOps _ _ _ k18_0.eq_1
def k18_1 : ACode :=
  .ops q18_1 k18_0
@[simp] def xk18_1 := @xOps _ _ _ k18_1.eq_1
def af18 : AFunc := ⟨9, k18_1, [.cell 2 true 2], fun _ _ => none⟩

theorem ok18 : ∃ hs, pFunc Tryz.prog sg hs Tryz.f18 = some af18 := ⟨fun i => 0, by kernel_rfl⟩
def q122_0 : List AOper :=
  [⟨.move .look (.t 1), (some 8), none⟩,
 ⟨.indexAddr 1 (.t 8) (.c (.int .i64 0)), (some 9), none⟩,
 ⟨.load .look false 1 (.p 9), (some 10), none⟩,
 ⟨.convInt .u64 (.p 10), (some 11), none⟩,
 ⟨.move .look (.t 1), (some 12), none⟩,
 ⟨.indexAddr 1 (.t 12) (.c (.int .i64 1)), (some 13), none⟩,
 ⟨.load .look false 1 (.p 13), (some 14), none⟩,
 ⟨.convInt .u64 (.p 14), (some 15), none⟩,
 ⟨.bin .shl 1 true (.p 15) (.c (.int .u64 8)), (some 16), none⟩,
 ⟨.bin .or 1 false (.p 11) (.p 16), (some 17), none⟩,
 ⟨.move .look (.t 1), (some 18), none⟩,
 ⟨.indexAddr 1 (.t 18) (.c (.int .i64 2)), (some 19), none⟩,
 ⟨.load .look false 1 (.p 19), (some 20), none⟩,
 ⟨.convInt .u64 (.p 20), (some 21), none⟩,
 ⟨.bin .shl 1 true (.p 21) (.c (.int .u64 16)), (some 22), none⟩,
 ⟨.bin .or 1 false (.p 17) (.p 22), (some 23), none⟩,
 ⟨.move .look (.t 1), (some 24), none⟩,
 ⟨.indexAddr 1 (.t 24) (.c (.int .i64 3)), (some 25), none⟩,
 ⟨.load .look false 1 (.p 25), (some 26), none⟩,
 ⟨.convInt .u64 (.p 26), (some 27), none⟩,
 ⟨.bin .shl 1 true (.p 27) (.c (.int .u64 24)), (some 28), none⟩,
 ⟨.bin .or 1 false (.p 23) (.p 28), (some 29), none⟩,
 ⟨.move .look (.t 1), (some 30), none⟩,
 ⟨.indexAddr 1 (.t 30) (.c (.int .i64 4)), (some 31), none⟩,
 ⟨.load .look false 1 (.p 31), (some 32), none⟩,
 ⟨.convInt .u64 (.p 32), (some 33), none⟩,
 ⟨.bin .shl 1 true (.p 33) (.c (.int .u64 32)), (some 34), none⟩,
 ⟨.bin .or 1 false (.p 29) (.p 34), (some 35), none⟩,
 ⟨.move .look (.t 1), (some 36), none⟩,
 ⟨.indexAddr 1 (.t 36) (.c (.int .i64 5)), (some 37), none⟩,
 ⟨.load .look false 1 (.p 37), (some 38), none⟩,
 ⟨.convInt .u64 (.p 38), (some 39), none⟩,
 ⟨.bin .shl 1 true (.p 39) (.c (.int .u64 40)), (some 40), none⟩,
 ⟨.bin .or 1 false (.p 35) (.p 40), (some 41), none⟩,
 ⟨.move .look (.t 1), (some 42), none⟩,
 ⟨.indexAddr 1 (.t 42) (.c (.int .i64 6)), (some 43), none⟩,
 ⟨.load .look false 1 (.p 43), (some 44), none⟩,
 ⟨.convInt .u64 (.p 44), (some 45), none⟩,
 ⟨.bin .shl 1 true (.p 45) (.c (.int .u64 48)), (some 46), none⟩,
 ⟨.bin .or 1 false (.p 41) (.p 46), (some 47), none⟩,
 ⟨.move .look (.t 1), (some 48), none⟩,
 ⟨.indexAddr 1 (.t 48) (.c (.int .i64 7)), (some 49), none⟩,
 ⟨.load .look false 1 (.p 49), (some 50), none⟩,
 ⟨.convInt .u64 (.p 50), (some 51), none⟩,
 ⟨.bin .shl 1 true (.p 51) (.c (.int .u64 56)), (some 52), none⟩,
 ⟨.bin .or 1 false (.p 47) (.p 52), (some 53), none⟩,
 ⟨.assign (.p 53), (some 4), none⟩]
@[simp] def eq122_0 := id q122_0.eq_1
def q122_1 : List AOper :=
  [⟨.move .look (.t 1), (some 5), none⟩,
 ⟨.indexAddr 1 (.t 5) (.c (.int .i64 7)), (some 6), none⟩,
 ⟨.load .head false 1 (.p 6), (some 7), none⟩]
@[simp] def eq122_1 := id q122_1.eq_1
def q122_2 : List AOper :=
  [⟨.box 2 (.p 0), (some 2), none⟩,
 ⟨.assign (.c (.int .u64 0)), (some 4), none⟩]
@[simp] def eq122_2 := id q122_2.eq_1
def k122_0 : ACode :=
  .ops q122_0 .ret
@[simp] def xk122_0 := @xOps _ _ _ k122_0.eq_1
def k122_1 : ACode :=
  .ops q122_1 k122_0
@[simp] def xk122_1 := @xOps _ _ _ k122_1.eq_1
def k122_2 : ACode :=
  .ops q122_2 k122_1
@[simp] def xk122_2 := @xOps _ _ _ k122_2.eq_1
def af122 : AFunc := ⟨54, k122_2, [.tmp 4], fun _ _ => none⟩

theorem ok122 : ∃ hs, pFunc Tryz.prog sg hs Tryz.f122 = some af122 := ⟨fun i => 0, by kernel_rfl⟩
def q73_0 : List AOper :=
  [⟨.load .look true 0 (.c (.gl 5)), (some 9), none⟩,
 ⟨.move .look (.t 0), (some 10), none⟩,
 ⟨.move .look (.t 0), (some 12), none⟩,
 ⟨.sliceSl 1 (.t 12) (some (.c (.int .i64 8))) none, (some 13), none⟩,
 ⟨.call 122 [(.p 9, false), (.t 10, false)], (some 11), none⟩,
 ⟨.assign (.p 11), (some 2), none⟩,
 ⟨.assign (.t 13), (some 3), none⟩,
 ⟨.assign (.c (.bool true)), (some 4), none⟩]
@[simp] def eq73_0 := id q73_0.eq_1
def q73_1 : List AOper :=
  [⟨.move .take (.t 0), (some 8), none⟩,
 ⟨.assign (.c (.int .u64 0)), (some 2), none⟩,
 ⟨.assign (.t 8), (some 3), none⟩,
 ⟨.assign (.c (.bool false)), (some 4), none⟩]
@[simp] def eq73_1 := id q73_1.eq_1
def q73_2 : List AOper :=
  [⟨.move .head (.t 0), (some 5), none⟩,
 ⟨.len false (.p 5), (some 6), none⟩,
 ⟨.bin .lss 1 true (.p 6) (.c (.int .i64 8)), (some 7), none⟩]
@[simp] def eq73_2 := id q73_2.eq_1
def q73_3 : List AOper :=
  [⟨.assign (.c (.int .u64 0)), (some 2), none⟩,
 ⟨.assign (.c (.slice .nil 0 1 [])), (some 3), none⟩,
 ⟨.assign (.c (.bool false)), (some 4), none⟩]
@[simp] def eq73_3 := id q73_3.eq_1
def k73_0 : ACode :=
  .ops q73_0 .ret
@[simp] def xk73_0 := @xOps _ _ _ k73_0.eq_1
def k73_1 : ACode :=
  .ops q73_1 .ret
@[simp] def xk73_1 := @xOps _ _ _ k73_1.eq_1
def k73_2 : ACode :=
  .cond (.p 7) k73_1 .skip
@[simp] def xk73_2 := @xCond _ _ _ _ k73_2.eq_1
def k73_3 : ACode :=
  .seq k73_2 k73_0
@[simp] def xk73_3 := @xSeq _ _ _ k73_3.eq_1
def k73_4 : ACode :=
  .ops q73_2 k73_3
@[simp] def xk73_4 := @xOps _ _ _ k73_4.eq_1
def k73_5 : ACode :=
  .ops q73_3 k73_4
@[simp] def xk73_5 := @xOps _ _ _ k73_5.eq_1
def af73 : AFunc := ⟨14, k73_5, [.tmp 2, .tmp 3, .tmp 4], fun _ _ => none⟩

theorem ok73 : ∃ hs, pFunc Tryz.prog sg hs Tryz.f73 = some af73 := ⟨fun i => 0, by kernel_rfl⟩
def q45_0 : List AOper :=
  [⟨.move .look (.p 5), (some 16), none⟩,
 ⟨.px (.fb 1) [.p 16], (some 17), none⟩,
 ⟨.move .take (.t 0), (some 18), none⟩,
 ⟨.assign (.p 17), (some 2), none⟩,
 ⟨.assign (.t 18), (some 3), none⟩,
 ⟨.assign (.c (.bool true)), (some 4), none⟩]
@[simp] def eq45_0 := id q45_0.eq_1
def q45_1 : List AOper :=
  [⟨.move .take (.t 0), (some 15), none⟩,
 ⟨.assign (.c (.flt .f64 0)), (some 2), none⟩,
 ⟨.assign (.t 15), (some 3), none⟩,
 ⟨.assign (.c (.bool false)), (some 4), none⟩]
@[simp] def eq45_1 := id q45_1.eq_1
def q45_2 : List AOper :=
  [⟨.move .look (.p 6), (some 13), none⟩,
 ⟨.un .not (.p 13), (some 14), none⟩]
@[simp] def eq45_2 := id q45_2.eq_1
def q45_3 : List AOper :=
  [⟨.move .look (.t 0), (some 8), none⟩,
 ⟨.call 73 [(.t 8, false)], (some 9), none⟩,
 ⟨.move .look (.t 9), (some 7), none⟩,
 ⟨.extract 7 0, (some 10), none⟩,
 ⟨.extract 7 1, (some 11), none⟩,
 ⟨.extract 7 2, (some 12), none⟩,
 ⟨.assign (.p 10), (some 5), none⟩,
 ⟨.assign (.t 11), (some 0), none⟩,
 ⟨.assign (.p 12), (some 6), none⟩]
@[simp] def eq45_3 := id q45_3.eq_1
def q45_4 : List AOper :=
  [⟨.assign (.c (.flt .f64 0)), (some 2), none⟩,
 ⟨.assign (.c (.slice .nil 0 1 [])), (some 3), none⟩,
 ⟨.assign (.c (.bool false)), (some 4), none⟩]
@[simp] def eq45_4 := id q45_4.eq_1
def k45_0 : ACode :=
  .ops q45_0 .ret
@[simp] def xk45_0 := @xOps _ _ _ k45_0.eq_1
def k45_1 : ACode :=
  .ops q45_1 .ret
@[simp] def xk45_1 := @xOps _ _ _ k45_1.eq_1
def k45_2 : ACode :=
  .cond (.p 14) k45_1 .skip
@[simp] def xk45_2 := @xCond _ _ _ _ k45_2.eq_1
def k45_3 : ACode :=
  .seq k45_2 k45_0
@[simp] def xk45_3 := @xSeq _ _ _ k45_3.eq_1
def k45_4 : ACode :=
  .ops q45_2 k45_3
@[simp] def xk45_4 := @xOps _ _ _ k45_4.eq_1
def k45_5 : ACode :=
  .ops q45_3 k45_4
@[simp] def xk45_5 := @xOps _ _ _ k45_5.eq_1
def k45_6 : ACode :=
  .ops q45_4 k45_5
@[simp] def xk45_6 := @xOps _ _ _ k45_6.eq_1
def af45 : AFunc := ⟨19, k45_6, [.tmp 2, .tmp 3, .tmp 4], fun _ _ => none⟩

theorem ok45 : ∃ hs, pFunc Tryz.prog sg hs Tryz.f45 = some af45 := ⟨fun i => 0, by kernel_rfl⟩
def q19_0 : List AOper :=
  [⟨.move .take (.p 4), (some 19), none⟩,
 ⟨.assign (.p 19), (some 2), none⟩,
 ⟨.assign (.c (.bool true)), (some 3), none⟩]
@[simp] def eq19_0 := id q19_0.eq_1
def q19_1 : List AOper :=
  [⟨.assign (.c (.flt .f64 0)), (some 2), none⟩,
 ⟨.assign (.c (.bool false)), (some 3), none⟩]
@[simp] def eq19_1 := id q19_1.eq_1
def q19_2 : List AOper :=
  [⟨.move .look (.p 6), (some 17), none⟩,
 ⟨.un .not (.p 17), (some 18), none⟩]
@[simp] def eq19_2 := id q19_2.eq_1
def q19_3 : List AOper :=
  [⟨.fieldAddr 1 (.p 1), (some 11), none⟩,
 ⟨.load .look false 1 (.p 11), (some 12), none⟩,
 ⟨.call 45 [(.t 12, false)], (some 13), none⟩,
 ⟨.move .look (.t 13), (some 10), none⟩,
 ⟨.extract 10 0, (some 14), none⟩,
 ⟨.extract 10 1, (some 15), none⟩,
 ⟨.extract 10 2, (some 16), none⟩,
 ⟨.assign (.p 14), (some 4), none⟩,
 ⟨.assign (.t 15), (some 5), none⟩,
 ⟨.assign (.p 16), (some 6), none⟩]
@[simp] def eq19_3 := id q19_3.eq_1
def q19_4 : List AOper :=
  [⟨.assign (.c (.flt .f64 0)), (some 2), none⟩,
 ⟨.assign (.c (.bool false)), (some 3), none⟩]
@[simp] def eq19_4 := id q19_4.eq_1
def q19_5 : List AOper :=
  [⟨.fieldAddr 0 (.p 1), (some 7), none⟩,
 ⟨.load .head false 1 (.p 7), (some 8), none⟩,
 ⟨.bin .neq 1 true (.p 8) (.c (.int .u8 1)), (some 9), none⟩]
@[simp] def eq19_5 := id q19_5.eq_1
def q19_6 : List AOper :=
  [⟨.box 1 (.p 0), (some 1), none⟩,
 ⟨.assign (.c (.flt .f64 0)), (some 2), none⟩,
 ⟨.assign (.c (.bool false)), (some 3), none⟩]
@[simp] def eq19_6 := id q19_6.eq_1
def k19_0 : ACode :=
  .ops q19_0 .ret
@[simp] def xk19_0 := @xOps _ _ _ k19_0.eq_1
def k19_1 : ACode :=
  .ops q19_1 .ret
@[simp] def xk19_1 := @xOps _ _ _ k19_1.eq_1
def k19_2 : ACode :=
  .cond (.p 18) k19_1 .skip
@[simp] def xk19_2 := @xCond _ _ _ _ k19_2.eq_1
def k19_3 : ACode :=
  .seq k19_2 k19_0
@[simp] def xk19_3 := @xSeq _ _ _ k19_3.eq_1
def k19_4 : ACode :=
  .ops q19_2 k19_3
@[simp] def xk19_4 := @xOps _ _ _ k19_4.eq_1
def k19_5 : ACode :=
  .ops q19_3 k19_4
@[simp] def xk19_5 := @xOps _ _ _ k19_5.eq_1
def k19_6 : ACode :=
  .ops q19_4 .ret
@[simp] def xk19_6 := @xOps _ _ _ k19_6.eq_1
def k19_7 : ACode :=
  .cond (.p 9) k19_6 .skip
@[simp] def xk19_7 := @xCond _ _ _ _ k19_7.eq_1
def k19_8 : ACode :=
  .seq k19_7 k19_5
@[simp] def xk19_8 := @xSeq _ _ _ k19_8.eq_1
def k19_9 : ACode :=
  .ops q19_5 k19_8
@[simp] def xk19_9 := @xOps _ _ _ k19_9.eq_1
def k19_10 : ACode :=
  .ops q19_6 k19_9
@[simp] def xk19_10 := @xOps _ _ _ k19_10.eq_1
def af19 : AFunc := ⟨20, k19_10, [.tmp 2, .tmp 3], fun _ _ => none⟩

theorem ok19 : ∃ hs, pFunc Tryz.prog sg hs Tryz.f19 = some af19 := ⟨fun i => 0, by kernel_rfl⟩
def q80_0 : List AOper :=
  [⟨.move .take (.p 5), (some 35), none⟩,
 ⟨.move .look (.t 0), (some 36), none⟩,
 ⟨.sliceSl 1 (.t 36) (some (.c (.int .i64 4))) none, (some 37), none⟩,
 ⟨.assign (.p 35), (some 2), none⟩,
 ⟨.assign (.t 37), (some 3), none⟩,
 ⟨.assign (.c (.bool true)), (some 4), none⟩]
@[simp] def eq80_0 := id q80_0.eq_1
def q80_1 : List AOper :=
  [⟨.move .look (.t 0), (some 13), none⟩,
 ⟨.indexAddr 1 (.t 13) (.c (.int .i64 0)), (some 14), none⟩,
 ⟨.load .look false 1 (.p 14), (some 15), none⟩,
 ⟨.convInt .i32 (.p 15), (some 16), none⟩,
 ⟨.move .look (.t 0), (some 17), none⟩,
 ⟨.indexAddr 1 (.t 17) (.c (.int .i64 1)), (some 18), none⟩,
 ⟨.load .look false 1 (.p 18), (some 19), none⟩,
 ⟨.convInt .i32 (.p 19), (some 20), none⟩,
 ⟨.bin .shl 1 true (.p 20) (.c (.int .u64 8)), (some 21), none⟩,
 ⟨.bin .or 1 false (.p 16) (.p 21), (some 22), none⟩,
 ⟨.move .look (.t 0), (some 23), none⟩,
 ⟨.indexAddr 1 (.t 23) (.c (.int .i64 2)), (some 24), none⟩,
 ⟨.load .look false 1 (.p 24), (some 25), none⟩,
 ⟨.convInt .i32 (.p 25), (some 26), none⟩,
 ⟨.bin .shl 1 true (.p 26) (.c (.int .u64 16)), (some 27), none⟩,
 ⟨.bin .or 1 false (.p 22) (.p 27), (some 28), none⟩,
 ⟨.move .look (.t 0), (some 29), none⟩,
 ⟨.indexAddr 1 (.t 29) (.c (.int .i64 3)), (some 30), none⟩,
 ⟨.load .look false 1 (.p 30), (some 31), none⟩,
 ⟨.convInt .i32 (.p 31), (some 32), none⟩,
 ⟨.bin .shl 1 true (.p 32) (.c (.int .u64 24)), (some 33), none⟩,
 ⟨.bin .or 1 false (.p 28) (.p 33), (some 34), none⟩,
 ⟨.assign (.p 34), (some 5), none⟩]
@[simp] def eq80_1 := id q80_1.eq_1
def q80_2 : List AOper :=
  [⟨.move .look (.t 0), (some 10), none⟩,
 ⟨.indexAddr 1 (.t 10) (.c (.int .i64 3)), (some 11), none⟩,
 ⟨.load .head false 1 (.p 11), (some 12), none⟩]
@[simp] def eq80_2 := id q80_2.eq_1
def q80_3 : List AOper :=
  [⟨.move .take (.t 0), (some 9), none⟩,
 ⟨.assign (.c (.int .i32 0)), (some 2), none⟩,
 ⟨.assign (.t 9), (some 3), none⟩,
 ⟨.assign (.c (.bool false)), (some 4), none⟩]
@[simp] def eq80_3 := id q80_3.eq_1
def q80_4 : List AOper :=
  [⟨.move .head (.t 0), (some 6), none⟩,
 ⟨.len false (.p 6), (some 7), none⟩,
 ⟨.bin .lss 1 true (.p 7) (.c (.int .i64 4)), (some 8), none⟩]
@[simp] def eq80_4 := id q80_4.eq_1
def q80_5 : List AOper :=
  [⟨.assign (.c (.int .i32 0)), (some 2), none⟩,
 ⟨.assign (.c (.slice .nil 0 1 [])), (some 3), none⟩,
 ⟨.assign (.c (.bool false)), (some 4), none⟩]
@[simp] def eq80_5 := id q80_5.eq_1
def k80_0 : ACode :=
  .ops q80_0 .ret
@[simp] def xk80_0 := @xOps _ _ _ k80_0.eq_1
def k80_1 : ACode :=
  .ops q80_1 k80_0
@[simp] def xk80_1 := @xOps _ _ _ k80_1.eq_1
def k80_2 : ACode :=
  .ops q80_2 k80_1
@[simp] def xk80_2 := @xOps _ _ _ k80_2.eq_1
def k80_3 : ACode :=
  .ops q80_3 .ret
@[simp] def xk80_3 := @xOps _ _ _ k80_3.eq_1
def k80_4 : ACode :=
  .cond (.p 8) k80_3 .skip
@[simp] def xk80_4 := @xCond _ _ _ _ k80_4.eq_1
def k80_5 : ACode :=
  .seq k80_4 k80_2
@[simp] def xk80_5 := @xSeq _ _ _ k80_5.eq_1
def k80_6 : ACode :=
  .ops q80_4 k80_5
@[simp] def xk80_6 := @xOps _ _ _ k80_6.eq_1
def k80_7 : ACode :=
  .ops q80_5 k80_6
@[simp] def xk80_7 := @xOps _ _ _ k80_7.eq_1
def af80 : AFunc := ⟨38, k80_7, [.tmp 2, .tmp 3, .tmp 4], fun _ _ => none⟩

theorem ok80 : ∃ hs, pFunc Tryz.prog sg hs Tryz.f80 = some af80 := ⟨fun i => 0, by kernel_rfl⟩
def q77_0 : List AOper :=
  [⟨.move .take (.p 5), (some 17), none⟩,
 ⟨.move .take (.t 0), (some 18), none⟩,
 ⟨.move .take (.p 6), (some 19), none⟩,
 ⟨.assign (.p 17), (some 2), none⟩,
 ⟨.assign (.t 18), (some 3), none⟩,
 ⟨.assign (.p 19), (some 4), none⟩]
@[simp] def eq77_0 := id q77_0.eq_1
def q77_1 : List AOper :=
  [⟨.move .take (.p 5), (some 15), none⟩,
 ⟨.move .take (.t 0), (some 16), none⟩,
 ⟨.assign (.p 15), (some 2), none⟩,
 ⟨.assign (.t 16), (some 3), none⟩,
 ⟨.assign (.c (.bool false)), (some 4), none⟩]
@[simp] def eq77_1 := id q77_1.eq_1
def q77_2 : List AOper :=
  [⟨.move .look (.p 5), (some 13), none⟩,
 ⟨.bin .lss 1 true (.p 13) (.c (.int .i32 0)), (some 14), none⟩]
@[simp] def eq77_2 := id q77_2.eq_1
def q77_3 : List AOper :=
  [⟨.move .look (.t 0), (some 8), none⟩,
 ⟨.call 80 [(.t 8, false)], (some 9), none⟩,
 ⟨.move .look (.t 9), (some 7), none⟩,
 ⟨.extract 7 0, (some 10), none⟩,
 ⟨.extract 7 1, (some 11), none⟩,
 ⟨.extract 7 2, (some 12), none⟩,
 ⟨.assign (.p 10), (some 5), none⟩,
 ⟨.assign (.t 11), (some 0), none⟩,
 ⟨.assign (.p 12), (some 6), none⟩]
@[simp] def eq77_3 := id q77_3.eq_1
def q77_4 : List AOper :=
  [⟨.assign (.c (.int .i32 0)), (some 2), none⟩,
 ⟨.assign (.c (.slice .nil 0 1 [])), (some 3), none⟩,
 ⟨.assign (.c (.bool false)), (some 4), none⟩]
@[simp] def eq77_4 := id q77_4.eq_1
def k77_0 : ACode :=
  .ops q77_0 .ret
@[simp] def xk77_0 := @xOps _ _ _ k77_0.eq_1
def k77_1 : ACode :=
  .ops q77_1 .ret
@[simp] def xk77_1 := @xOps _ _ _ k77_1.eq_1
def k77_2 : ACode :=
  .cond (.p 14) k77_1 .skip
@[simp] def xk77_2 := @xCond _ _ _ _ k77_2.eq_1
def k77_3 : ACode :=
  .seq k77_2 k77_0
@[simp] def xk77_3 := @xSeq _ _ _ k77_3.eq_1
def k77_4 : ACode :=
  .ops q77_2 k77_3
@[simp] def xk77_4 := @xOps _ _ _ k77_4.eq_1
def k77_5 : ACode :=
  .ops q77_3 k77_4
@[simp] def xk77_5 := @xOps _ _ _ k77_5.eq_1
def k77_6 : ACode :=
  .ops q77_4 k77_5
@[simp] def xk77_6 := @xOps _ _ _ k77_6.eq_1
def af77 : AFunc := ⟨20, k77_6, [.tmp 2, .tmp 3, .tmp 4], fun _ _ => none⟩

theorem ok77 : ∃ hs, pFunc Tryz.prog sg hs Tryz.f77 = some af77 := ⟨fun i => 0, by kernel_rfl⟩
def q75_0 : List AOper :=
  [⟨.move .look (.t 6), (some 28), none⟩,
 ⟨.move .look (.p 5), (some 29), none⟩,
 ⟨.bin .sub 1 true (.p 29) (.c (.int .i32 1)), (some 30), none⟩,
 ⟨.sliceSl 1 (.t 28) none (some (.p 30)), (some 31), none⟩,
 ⟨.convBS (.t 31), (some 32), none⟩,
 ⟨.move .look (.t 6), (some 33), none⟩,
 ⟨.move .head (.p 5), (some 34), none⟩,
 ⟨.sliceSl 1 (.t 33) (some (.p 34)) none, (some 35), none⟩,
 ⟨.assign (.p 32), (some 2), none⟩,
 ⟨.assign (.t 35), (some 3), none⟩,
 ⟨.assign (.c (.bool true)), (some 4), none⟩]
@[simp] def eq75_0 := id q75_0.eq_1
def q75_1 : List AOper :=
  [⟨.move .take (.t 0), (some 27), none⟩,
 ⟨.assign (.c (.str [])), (some 2), none⟩,
 ⟨.assign (.t 27), (some 3), none⟩,
 ⟨.assign (.c (.bool false)), (some 4), none⟩]
@[simp] def eq75_1 := id q75_1.eq_1
def q75_2 : List AOper :=
  [⟨.move .head (.t 0), (some 17), none⟩,
 ⟨.sliceSl 1 (.t 17) (some (.c (.int .i64 4))) none, (some 18), none⟩,
 ⟨.len false (.p 18), (some 19), none⟩,
 ⟨.move .look (.p 5), (some 20), none⟩,
 ⟨.convInt .i64 (.p 20), (some 21), none⟩,
 ⟨.bin .lss 1 false (.p 19) (.p 21), (some 22), none⟩,
 ⟨.move .look (.p 22), (some 23), none⟩,
 ⟨.move .head (.p 5), (some 24), (some (23, false))⟩,
 ⟨.bin .eql 1 true (.p 24) (.c (.int .i32 0)), (some 25), (some (23, false))⟩,
 ⟨.pick (.p 23) (.c (.bool true)) (.p 25), (some 26), none⟩]
@[simp] def eq75_2 := id q75_2.eq_1
def q75_3 : List AOper :=
  [⟨.move .take (.t 0), (some 16), none⟩,
 ⟨.assign (.c (.str [])), (some 2), none⟩,
 ⟨.assign (.t 16), (some 3), none⟩,
 ⟨.assign (.c (.bool false)), (some 4), none⟩]
@[simp] def eq75_3 := id q75_3.eq_1
def q75_4 : List AOper :=
  [⟨.move .look (.p 7), (some 14), none⟩,
 ⟨.un .not (.p 14), (some 15), none⟩]
@[simp] def eq75_4 := id q75_4.eq_1
def q75_5 : List AOper :=
  [⟨.move .look (.t 0), (some 9), none⟩,
 ⟨.call 77 [(.t 9, false)], (some 10), none⟩,
 ⟨.move .look (.t 10), (some 8), none⟩,
 ⟨.extract 8 0, (some 11), none⟩,
 ⟨.extract 8 1, (some 12), none⟩,
 ⟨.extract 8 2, (some 13), none⟩,
 ⟨.assign (.p 11), (some 5), none⟩,
 ⟨.assign (.t 12), (some 6), none⟩,
 ⟨.assign (.p 13), (some 7), none⟩]
@[simp] def eq75_5 := id q75_5.eq_1
def q75_6 : List AOper :=
  [⟨.assign (.c (.str [])), (some 2), none⟩,
 ⟨.assign (.c (.slice .nil 0 1 [])), (some 3), none⟩,
 ⟨.assign (.c (.bool false)), (some 4), none⟩]
@[simp] def eq75_6 := id q75_6.eq_1
def k75_0 : ACode :=
  .ops q75_0 .ret
@[simp] def xk75_0 := @xOps _ _ _ k75_0.eq_1
def k75_1 : ACode :=
  .ops q75_1 .ret
@[simp] def xk75_1 := @xOps _ _ _ k75_1.eq_1
def k75_2 : ACode :=
  .cond (.p 26) k75_1 .skip
@[simp] def xk75_2 := @xCond _ _ _ _ k75_2.eq_1
def k75_3 : ACode :=
  .seq k75_2 k75_0
@[simp] def xk75_3 := @xSeq _ _ _ k75_3.eq_1
def k75_4 : ACode :=
  .ops q75_2 k75_3
@[simp] def xk75_4 := @xOps _ _ _ k75_4.eq_1
def k75_5 : ACode :=
  .ops q75_3 .ret
@[simp] def xk75_5 := @xOps _ _ _ k75_5.eq_1
def k75_6 : ACode :=
  .cond (.p 15) k75_5 .skip
@[simp] def xk75_6 := @xCond _ _ _ _ k75_6.eq_1
def k75_7 : ACode :=
  .seq k75_6 k75_4
@[simp] def xk75_7 := @xSeq _ _ _ k75_7.eq_1
def k75_8 : ACode :=
  .ops q75_4 k75_7
@[simp] def xk75_8 := @xOps _ _ _ k75_8.eq_1
def k75_9 : ACode :=
  .ops q75_5 k75_8
@[simp] def xk75_9 := @xOps _ _ _ k75_9.eq_1
def k75_10 : ACode :=
  .ops q75_6 k75_9
@[simp] def xk75_10 := @xOps _ _ _ k75_10.eq_1
def af75 : AFunc := ⟨36, k75_10, [.tmp 2, .tmp 3, .tmp 4], fun _ _ => none⟩

theorem ok75 : ∃ hs, pFunc Tryz.prog sg hs Tryz.f75 = some af75 := ⟨fun i => 0, by kernel_rfl⟩
def q46_0 : List AOper :=
  [⟨.move .look (.t 0), (some 5), none⟩,
 ⟨.call 75 [(.t 5, false)], (some 6), none⟩,
 ⟨.extract 6 0, (some 7), none⟩,
 ⟨.extract 6 1, (some 8), none⟩,
 ⟨.extract 6 2, (some 9), none⟩,
 ⟨.assign (.p 7), (some 2), none⟩,
 ⟨.assign (.t 8), (some 3), none⟩,
 ⟨.assign (.p 9), (some 4), none⟩]
@[simp] def eq46_0 := id q46_0.eq_1
def q46_1 : List AOper :=
  [⟨.assign (.c (.str [])), (some 2), none⟩,
 ⟨.assign (.c (.slice .nil 0 1 [])), (some 3), none⟩,
 ⟨.assign (.c (.bool false)), (some 4), none⟩]
@[simp] def eq46_1 := id q46_1.eq_1
def k46_0 : ACode :=
  .ops q46_0 .ret
@[simp] def xk46_0 := @xOps _ _ _ k46_0.eq_1
def k46_1 : ACode :=
  .ops q46_1 k46_0
@[simp] def xk46_1 := @xOps _ _ _ k46_1.eq_1
def af46 : AFunc := ⟨10, k46_1, [.tmp 2, .tmp 3, .tmp 4], fun _ _ => none⟩

theorem ok46 : ∃ hs, pFunc Tryz.prog sg hs Tryz.f46 = some af46 := ⟨fun i => 0, by kernel_rfl⟩
def q21_0 : List AOper :=
  [⟨.move .take (.p 4), (some 19), none⟩,
 ⟨.assign (.p 19), (some 2), none⟩,
 ⟨.assign (.c (.bool true)), (some 3), none⟩]
@[simp] def eq21_0 := id q21_0.eq_1
def q21_1 : List AOper :=
  [⟨.assign (.c (.str [])), (some 2), none⟩,
 ⟨.assign (.c (.bool false)), (some 3), none⟩]
@[simp] def eq21_1 := id q21_1.eq_1
def q21_2 : List AOper :=
  [⟨.move .look (.p 6), (some 17), none⟩,
 ⟨.un .not (.p 17), (some 18), none⟩]
@[simp] def eq21_2 := id q21_2.eq_1
def q21_3 : List AOper :=
  [⟨.fieldAddr 1 (.p 1), (some 11), none⟩,
 ⟨.load .look false 1 (.p 11), (some 12), none⟩,
 ⟨.call 46 [(.t 12, false)], (some 13), none⟩,
 ⟨.move .look (.t 13), (some 10), none⟩,
 ⟨.extract 10 0, (some 14), none⟩,
 ⟨.extract 10 1, (some 15), none⟩,
 ⟨.extract 10 2, (some 16), none⟩,
 ⟨.assign (.p 14), (some 4), none⟩,
 ⟨.assign (.t 15), (some 5), none⟩,
 ⟨.assign (.p 16), (some 6), none⟩]
@[simp] def eq21_3 := id q21_3.eq_1
def q21_4 : List AOper :=
  [⟨.assign (.c (.str [])), (some 2), none⟩,
 ⟨.assign (.c (.bool false)), (some 3), none⟩]
@[simp] def eq21_4 := id q21_4.eq_1
def q21_5 : List AOper :=
  [⟨.fieldAddr 0 (.p 1), (some 7), none⟩,
 ⟨.load .head false 1 (.p 7), (some 8), none⟩,
 ⟨.bin .neq 1 true (.p 8) (.c (.int .u8 2)), (some 9), none⟩]
@[simp] def eq21_5 := id q21_5.eq_1
def q21_6 : List AOper :=
  [⟨.box 1 (.p 0), (some 1), none⟩,
 ⟨.assign (.c (.str [])), (some 2), none⟩,
 ⟨.assign (.c (.bool false)), (some 3), none⟩]
@[simp] def eq21_6 := id q21_6.eq_1
def k21_0 : ACode :=
  .ops q21_0 .ret
@[simp] def xk21_0 := @xOps _ _ _ k21_0.eq_1
def k21_1 : ACode :=
  .ops q21_1 .ret
@[simp] def xk21_1 := @xOps _ _ _ k21_1.eq_1
def k21_2 : ACode :=
  .cond (.p 18) k21_1 .skip
@[simp] def xk21_2 := @xCond _ _ _ _ k21_2.eq_1
def k21_3 : ACode :=
  .seq k21_2 k21_0
@[simp] def xk21_3 := @xSeq _ _ _ k21_3.eq_1
def k21_4 : ACode :=
  .ops q21_2 k21_3
@[simp] def xk21_4 := @xOps _ _ _ k21_4.eq_1
def k21_5 : ACode :=
  .ops q21_3 k21_4
@[simp] def xk21_5 := @xOps _ _ _ k21_5.eq_1
def k21_6 : ACode :=
  .ops q21_4 .ret
@[simp] def xk21_6 := @xOps _ _ _ k21_6.eq_1
def k21_7 : ACode :=
  .cond (.p 9) k21_6 .skip
@[simp] def xk21_7 := @xCond _ _ _ _ k21_7.eq_1
def k21_8 : ACode :=
  .seq k21_7 k21_5
@[simp] def xk21_8 := @xSeq _ _ _ k21_8.eq_1
def k21_9 : ACode :=
  .ops q21_5 k21_8
@[simp] def xk21_9 := @xOps _ _ _ k21_9.eq_1
def k21_10 : ACode :=
  .ops q21_6 k21_9
@[simp] def xk21_10 := @xOps _ _ _ k21_10.eq_1
def af21 : AFunc := ⟨20, k21_10, [.tmp 2, .tmp 3], fun _ _ => none⟩

theorem ok21 : ∃ hs, pFunc Tryz.prog sg hs Tryz.f21 = some af21 := ⟨fun i => 0, by kernel_rfl⟩
def q76_0 : List AOper :=
  [⟨.move .look (.t 0), (some 26), none⟩,
 ⟨.move .head (.p 5), (some 27), none⟩,
 ⟨.sliceSl 1 (.t 26) none (some (.p 27)), (some 28), none⟩,
 ⟨.move .look (.t 0), (some 29), none⟩,
 ⟨.move .head (.p 5), (some 30), none⟩,
 ⟨.sliceSl 1 (.t 29) (some (.p 30)) none, (some 31), none⟩,
 ⟨.assign (.t 28), (some 2), none⟩,
 ⟨.assign (.t 31), (some 3), none⟩,
 ⟨.assign (.c (.bool true)), (some 4), none⟩]
@[simp] def eq76_0 := id q76_0.eq_1
def q76_1 : List AOper :=
  [⟨.move .take (.t 0), (some 25), none⟩,
 ⟨.assign (.c (.slice .nil 0 1 [])), (some 2), none⟩,
 ⟨.assign (.t 25), (some 3), none⟩,
 ⟨.assign (.c (.bool false)), (some 4), none⟩]
@[simp] def eq76_1 := id q76_1.eq_1
def q76_2 : List AOper :=
  [⟨.move .head (.t 0), (some 20), none⟩,
 ⟨.len false (.p 20), (some 21), none⟩,
 ⟨.move .look (.p 5), (some 22), none⟩,
 ⟨.convInt .i64 (.p 22), (some 23), none⟩,
 ⟨.bin .lss 1 false (.p 21) (.p 23), (some 24), none⟩]
@[simp] def eq76_2 := id q76_2.eq_1
def q76_3 : List AOper :=
  [⟨.move .take (.t 0), (some 19), none⟩,
 ⟨.assign (.c (.slice .nil 0 1 [])), (some 2), none⟩,
 ⟨.assign (.t 19), (some 3), none⟩,
 ⟨.assign (.c (.bool false)), (some 4), none⟩]
@[simp] def eq76_3 := id q76_3.eq_1
def q76_4 : List AOper :=
  [⟨.move .look (.p 5), (some 17), none⟩,
 ⟨.bin .lss 1 true (.p 17) (.c (.int .i32 4)), (some 18), none⟩]
@[simp] def eq76_4 := id q76_4.eq_1
def q76_5 : List AOper :=
  [⟨.move .take (.t 0), (some 16), none⟩,
 ⟨.assign (.c (.slice .nil 0 1 [])), (some 2), none⟩,
 ⟨.assign (.t 16), (some 3), none⟩,
 ⟨.assign (.c (.bool false)), (some 4), none⟩]
@[simp] def eq76_5 := id q76_5.eq_1
def q76_6 : List AOper :=
  [⟨.move .look (.p 7), (some 14), none⟩,
 ⟨.un .not (.p 14), (some 15), none⟩]
@[simp] def eq76_6 := id q76_6.eq_1
def q76_7 : List AOper :=
  [⟨.move .look (.t 0), (some 9), none⟩,
 ⟨.call 77 [(.t 9, false)], (some 10), none⟩,
 ⟨.move .look (.t 10), (some 8), none⟩,
 ⟨.extract 8 0, (some 11), none⟩,
 ⟨.extract 8 1, (some 12), none⟩,
 ⟨.extract 8 2, (some 13), none⟩,
 ⟨.assign (.p 11), (some 5), none⟩,
 ⟨.assign (.t 12), (some 6), none⟩,
 ⟨.assign (.p 13), (some 7), none⟩]
@[simp] def eq76_7 := id q76_7.eq_1
def q76_8 : List AOper :=
  [⟨.assign (.c (.slice .nil 0 1 [])), (some 2), none⟩,
 ⟨.assign (.c (.slice .nil 0 1 [])), (some 3), none⟩,
 ⟨.assign (.c (.bool false)), (some 4), none⟩]
@[simp] def eq76_8 := id q76_8.eq_1
def k76_0 : ACode :=
  .ops q76_0 .ret
@[simp] def xk76_0 := @xOps _ _ _ k76_0.eq_1
def k76_1 : ACode :=
  .ops q76_1 .ret
@[simp] def xk76_1 := @xOps _ _ _ k76_1.eq_1
def k76_2 : ACode :=
  .cond (.p 24) k76_1 .skip
@[simp] def xk76_2 := @xCond _ _ _ _ k76_2.eq_1
def k76_3 : ACode :=
  .seq k76_2 k76_0
@[simp] def xk76_3 := @xSeq _ _ _ k76_3.eq_1
def k76_4 : ACode :=
  .ops q76_2 k76_3
@[simp] def xk76_4 := @xOps _ _ _ k76_4.eq_1
def k76_5 : ACode :=
  .ops q76_3 .ret
@[simp] def xk76_5 := @xOps _ _ _ k76_5.eq_1
def k76_6 : ACode :=
  .cond (.p 18) k76_5 .skip
@[simp] def xk76_6 := @xCond _ _ _ _ k76_6.eq_1
def k76_7 : ACode :=
  .seq k76_6 k76_4
@[simp] def xk76_7 := @xSeq _ _ _ k76_7.eq_1
def k76_8 : ACode :=
  .ops q76_4 k76_7
@[simp] def xk76_8 := @xOps _ _ _ k76_8.eq_1
def k76_9 : ACode :=
  .ops q76_5 .ret
@[simp] def xk76_9 := @xOps _ _ _ k76_9.eq_1
def k76_10 : ACode :=
  .cond (.p 15) k76_9 .skip
@[simp] def xk76_10 := @xCond _ _ _ _ k76_10.eq_1
def k76_11 : ACode :=
  .seq k76_10 k76_8
@[simp] def xk76_11 := @xSeq _ _ _ k76_11.eq_1
def k76_12 : ACode :=
  .ops q76_6 k76_11
@[simp] def xk76_12 := @xOps _ _ _ k76_12.eq_1
def k76_13 : ACode :=
  .ops q76_7 k76_12
@[simp] def xk76_13 := @xOps _ _ _ k76_13.eq_1
def k76_14 : ACode :=
  .ops q76_8 k76_13
@[simp] def xk76_14 := @xOps _ _ _ k76_14.eq_1
def af76 : AFunc := ⟨32, k76_14, [.tmp 2, .tmp 3, .tmp 4], fun _ _ => none⟩

theorem ok76 : ∃ hs, pFunc Tryz.prog sg hs Tryz.f76 = some af76 := ⟨fun i => 0, by kernel_rfl⟩
def q47_0 : List AOper :=
  [⟨.move .look (.t 0), (some 5), none⟩,
 ⟨.call 76 [(.t 5, false)], (some 6), none⟩,
 ⟨.extract 6 0, (some 7), none⟩,
 ⟨.extract 6 1, (some 8), none⟩,
 ⟨.extract 6 2, (some 9), none⟩,
 ⟨.assign (.t 7), (some 2), none⟩,
 ⟨.assign (.t 8), (some 3), none⟩,
 ⟨.assign (.p 9), (some 4), none⟩]
@[simp] def eq47_0 := id q47_0.eq_1
def q47_1 : List AOper :=
  [⟨.assign (.c (.slice .nil 0 1 [])), (some 2), none⟩,
 ⟨.assign (.c (.slice .nil 0 1 [])), (some 3), none⟩,
 ⟨.assign (.c (.bool false)), (some 4), none⟩]
@[simp] def eq47_1 := id q47_1.eq_1
def k47_0 : ACode :=
  .ops q47_0 .ret
@[simp] def xk47_0 := @xOps _ _ _ k47_0.eq_1
def k47_1 : ACode :=
  .ops q47_1 k47_0
@[simp] def xk47_1 := @xOps _ _ _ k47_1.eq_1
def af47 : AFunc := ⟨10, k47_1, [.tmp 2, .tmp 3, .tmp 4], fun _ _ => none⟩

theorem ok47 : ∃ hs, pFunc Tryz.prog sg hs Tryz.f47 = some af47 := ⟨fun i => 0, by kernel_rfl⟩
def q22_0 : List AOper :=
  [⟨.move .take (.t 4), (some 19), none⟩,
 ⟨.assign (.t 19), (some 2), none⟩,
 ⟨.assign (.c (.bool true)), (some 3), none⟩]
@[simp] def eq22_0 := id q22_0.eq_1
def q22_1 : List AOper :=
  [⟨.assign (.c (.slice .nil 0 1 [])), (some 2), none⟩,
 ⟨.assign (.c (.bool false)), (some 3), none⟩]
@[simp] def eq22_1 := id q22_1.eq_1
def q22_2 : List AOper :=
  [⟨.move .look (.p 6), (some 17), none⟩,
 ⟨.un .not (.p 17), (some 18), none⟩]
@[simp] def eq22_2 := id q22_2.eq_1
def q22_3 : List AOper :=
  [⟨.fieldAddr 1 (.p 1), (some 11), none⟩,
 ⟨.load .look false 1 (.p 11), (some 12), none⟩,
 ⟨.call 47 [(.t 12, false)], (some 13), none⟩,
 ⟨.move .look (.t 13), (some 10), none⟩,
 ⟨.extract 10 0, (some 14), none⟩,
 ⟨.extract 10 1, (some 15), none⟩,
 ⟨.extract 10 2, (some 16), none⟩,
 ⟨.assign (.t 14), (some 4), none⟩,
 ⟨.assign (.t 15), (some 5), none⟩,
 ⟨.assign (.p 16), (some 6), none⟩]
@[simp] def eq22_3 := id q22_3.eq_1
def q22_4 : List AOper :=
  [⟨.assign (.c (.slice .nil 0 1 [])), (some 2), none⟩,
 ⟨.assign (.c (.bool false)), (some 3), none⟩]
@[simp] def eq22_4 := id q22_4.eq_1
def q22_5 : List AOper :=
  [⟨.fieldAddr 0 (.p 1), (some 7), none⟩,
 ⟨.load .head false 1 (.p 7), (some 8), none⟩,
 ⟨.bin .neq 1 true (.p 8) (.c (.int .u8 3)), (some 9), none⟩]
@[simp] def eq22_5 := id q22_5.eq_1
def q22_6 : List AOper :=
  [⟨.box 1 (.p 0), (some 1), none⟩,
 ⟨.assign (.c (.slice .nil 0 1 [])), (some 2), none⟩,
 ⟨.assign (.c (.bool false)), (some 3), none⟩]
@[simp] def eq22_6 := id q22_6.eq_1
def k22_0 : ACode :=
  .ops q22_0 .ret
@[simp] def xk22_0 := @xOps _ _ _ k22_0.eq_1
def k22_1 : ACode :=
  .ops q22_1 .ret
@[simp] def xk22_1 := @xOps _ _ _ k22_1.eq_1
def k22_2 : ACode :=
  .cond (.p 18) k22_1 .skip
@[simp] def xk22_2 := @xCond _ _ _ _ k22_2.eq_1
def k22_3 : ACode :=
  .seq k22_2 k22_0
@[simp] def xk22_3 := @xSeq _ _ _ k22_3.eq_1
def k22_4 : ACode :=
  .ops q22_2 k22_3
@[simp] def xk22_4 := @xOps _ _ _ k22_4.eq_1
def k22_5 : ACode :=
  .ops q22_3 k22_4
@[simp] def xk22_5 := @xOps _ _ _ k22_5.eq_1
def k22_6 : ACode :=
  .ops q22_4 .ret
@[simp] def xk22_6 := @xOps _ _ _ k22_6.eq_1
def k22_7 : ACode :=
  .cond (.p 9) k22_6 .skip
@[simp] def xk22_7 := @xCond _ _ _ _ k22_7.eq_1
def k22_8 : ACode :=
  .seq k22_7 k22_5
@[simp] def xk22_8 := @xSeq _ _ _ k22_8.eq_1
def k22_9 : ACode :=
  .ops q22_5 k22_8
@[simp] def xk22_9 := @xOps _ _ _ k22_9.eq_1
def k22_10 : ACode :=
  .ops q22_6 k22_9
@[simp] def xk22_10 := @xOps _ _ _ k22_10.eq_1
def af22 : AFunc := ⟨20, k22_10, [.tmp 2, .tmp 3], fun _ _ => none⟩

theorem ok22 : ∃ hs, pFunc Tryz.prog sg hs Tryz.f22 = some af22 := ⟨fun i => 0, by kernel_rfl⟩
def q23_0 : List AOper :=
  [⟨.move .look (.t 0), (some 3), none⟩,
 ⟨.append 5 1 1 false (.c (.slice .nil 0 1 [])) (.p 3), (some 4), none⟩,
 ⟨.assign (.t 4), (some 2), none⟩]
@[simp] def eq23_0 := id q23_0.eq_1
def k23_0 : ACode :=
  .ops q23_0 .ret
@[simp] def xk23_0 := @xOps _ _ _ k23_0.eq_1
def k23_1 : ACode :=
  .ops [⟨.assign (.c (.slice .nil 0 1 [])), (some 2), none⟩] k23_0
@[simp] def xk23_1 := @xOps _ _ _ k23_1.eq_1
def af23 : AFunc := ⟨5, k23_1, [.tmp 2], fun _ _ => none⟩

theorem ok23 : ∃ hs, pFunc Tryz.prog sg hs Tryz.f23 = some af23 := ⟨fun i => 0, by kernel_rfl⟩
def q48_0 : List AOper :=
  [⟨.move .look (.t 0), (some 5), none⟩,
 ⟨.call 76 [(.t 5, false)], (some 6), none⟩,
 ⟨.extract 6 0, (some 7), none⟩,
 ⟨.extract 6 1, (some 8), none⟩,
 ⟨.extract 6 2, (some 9), none⟩,
 ⟨.assign (.t 7), (some 2), none⟩,
 ⟨.assign (.t 8), (some 3), none⟩,
 ⟨.assign (.p 9), (some 4), none⟩]
@[simp] def eq48_0 := id q48_0.eq_1
def q48_1 : List AOper :=
  [⟨.assign (.c (.slice .nil 0 1 [])), (some 2), none⟩,
 ⟨.assign (.c (.slice .nil 0 1 [])), (some 3), none⟩,
 ⟨.assign (.c (.bool false)), (some 4), none⟩]
@[simp] def eq48_1 := id q48_1.eq_1
def k48_0 : ACode :=
  .ops q48_0 .ret
@[simp] def xk48_0 := @xOps _ _ _ k48_0.eq_1
def k48_1 : ACode :=
  .ops q48_1 k48_0
@[simp] def xk48_1 := @xOps _ _ _ k48_1.eq_1
def af48 : AFunc := ⟨10, k48_1, [.tmp 2, .tmp 3, .tmp 4], fun _ _ => none⟩

theorem ok48 : ∃ hs, pFunc Tryz.prog sg hs Tryz.f48 = some af48 := ⟨fun i => 0, by kernel_rfl⟩
def q24_0 : List AOper :=
  [⟨.move .take (.t 4), (some 19), none⟩,
 ⟨.assign (.t 19), (some 2), none⟩,
 ⟨.assign (.c (.bool true)), (some 3), none⟩]
@[simp] def eq24_0 := id q24_0.eq_1
def q24_1 : List AOper :=
  [⟨.assign (.c (.slice .nil 0 1 [])), (some 2), none⟩,
 ⟨.assign (.c (.bool false)), (some 3), none⟩]
@[simp] def eq24_1 := id q24_1.eq_1
def q24_2 : List AOper :=
  [⟨.move .look (.p 6), (some 17), none⟩,
 ⟨.un .not (.p 17), (some 18), none⟩]
@[simp] def eq24_2 := id q24_2.eq_1
def q24_3 : List AOper :=
  [⟨.fieldAddr 1 (.p 1), (some 11), none⟩,
 ⟨.load .look false 1 (.p 11), (some 12), none⟩,
 ⟨.call 48 [(.t 12, false)], (some 13), none⟩,
 ⟨.move .look (.t 13), (some 10), none⟩,
 ⟨.extract 10 0, (some 14), none⟩,
 ⟨.extract 10 1, (some 15), none⟩,
 ⟨.extract 10 2, (some 16), none⟩,
 ⟨.assign (.t 14), (some 4), none⟩,
 ⟨.assign (.t 15), (some 5), none⟩,
 ⟨.assign (.p 16), (some 6), none⟩]
@[simp] def eq24_3 := id q24_3.eq_1
def q24_4 : List AOper :=
  [⟨.assign (.c (.slice .nil 0 1 [])), (some 2), none⟩,
 ⟨.assign (.c (.bool false)), (some 3), none⟩]
@[simp] def eq24_4 := id q24_4.eq_1
def q24_5 : List AOper :=
  [⟨.fieldAddr 0 (.p 1), (some 7), none⟩,
 ⟨.load .head false 1 (.p 7), (some 8), none⟩,
 ⟨.bin .neq 1 true (.p 8) (.c (.int .u8 4)), (some 9), none⟩]
@[simp] def eq24_5 := id q24_5.eq_1
def q24_6 : List AOper :=
  [⟨.box 1 (.p 0), (some 1), none⟩,
 ⟨.assign (.c (.slice .nil 0 1 [])), (some 2), none⟩,
 ⟨.assign (.c (.bool false)), (some 3), none⟩]
@[simp] def eq24_6 := id q24_6.eq_1
def k24_0 : ACode :=
  .ops q24_0 .ret
@[simp] def xk24_0 := @xOps _ _ _ k24_0.eq_1
def k24_1 : ACode :=
  .ops q24_1 .ret
@[simp] def xk24_1 := @xOps _ _ _ k24_1.eq_1
def k24_2 : ACode :=
  .cond (.p 18) k24_1 .skip
@[simp] def xk24_2 := @xCond _ _ _ _ k24_2.eq_1
def k24_3 : ACode :=
  .seq k24_2 k24_0
@[simp] def xk24_3 := @xSeq _ _ _ k24_3.eq_1
def k24_4 : ACode :=
  .ops q24_2 k24_3
@[simp] def xk24_4 := @xOps _ _ _ k24_4.eq_1
def k24_5 : ACode :=
  .ops q24_3 k24_4
@[simp] def xk24_5 := @xOps _ _ _ k24_5.eq_1
def k24_6 : ACode :=
  .ops q24_4 .ret
@[simp] def xk24_6 := @xOps _ _ _ k24_6.eq_1
def k24_7 : ACode :=
  .cond (.p 9) k24_6 .skip
@[simp] def xk24_7 := @xCond _ _ _ _ k24_7.eq_1
def k24_8 : ACode :=
  .seq k24_7 k24_5
@[simp] def xk24_8 := @xSeq _ _ _ k24_8.eq_1
def k24_9 : ACode :=
  .ops q24_5 k24_8
@[simp] def xk24_9 := @xOps _ _ _ k24_9.eq_1
def k24_10 : ACode :=
  .ops q24_6 k24_9
@[simp] def xk24_10 := @xOps _ _ _ k24_10.eq_1
def af24 : AFunc := ⟨20, k24_10, [.tmp 2, .tmp 3], fun _ _ => none⟩

theorem ok24 : ∃ hs, pFunc Tryz.prog sg hs Tryz.f24 = some af24 := ⟨fun i => 0, by kernel_rfl⟩
def q49_0 : List AOper :=
  [⟨.move .take (.p 2), (some 49), none⟩,
 ⟨.move .look (.t 4), (some 50), none⟩,
 ⟨.move .head (.p 6), (some 51), none⟩,
 ⟨.sliceSl 1 (.t 50) none (some (.p 51)), (some 52), none⟩,
 ⟨.move .look (.t 4), (some 53), none⟩,
 ⟨.move .head (.p 6), (some 54), none⟩,
 ⟨.sliceSl 1 (.t 53) (some (.p 54)) none, (some 55), none⟩,
 ⟨.assign (.p 49), (some 2), none⟩,
 ⟨.assign (.t 52), (some 3), none⟩,
 ⟨.assign (.t 55), (some 4), none⟩,
 ⟨.assign (.c (.bool true)), (some 5), none⟩]
@[simp] def eq49_0 := id q49_0.eq_1
def q49_1 : List AOper :=
  [⟨.move .take (.t 0), (some 48), none⟩,
 ⟨.assign (.c (.int .u8 0)), (some 2), none⟩,
 ⟨.assign (.c (.slice .nil 0 1 [])), (some 3), none⟩,
 ⟨.assign (.t 48), (some 4), none⟩,
 ⟨.assign (.c (.bool false)), (some 5), none⟩]
@[simp] def eq49_1 := id q49_1.eq_1
def q49_2 : List AOper :=
  [⟨.move .look (.p 5), (some 39), none⟩,
 ⟨.un .not (.p 39), (some 40), none⟩,
 ⟨.move .look (.p 40), (some 41), none⟩,
 ⟨.move .head (.t 4), (some 42), (some (41, false))⟩,
 ⟨.len false (.p 42), (some 43), (some (41, false))⟩,
 ⟨.move .look (.p 6), (some 44), (some (41, false))⟩,
 ⟨.convInt .i64 (.p 44), (some 45), (some (41, false))⟩,
 ⟨.bin .lss 1 false (.p 43) (.p 45), (some 46), (some (41, false))⟩,
 ⟨.pick (.p 41) (.c (.bool true)) (.p 46), (some 47), none⟩]
@[simp] def eq49_2 := id q49_2.eq_1
def q49_3 : List AOper :=
  [⟨.move .look (.t 4), (some 34), none⟩,
 ⟨.call 77 [(.t 34, false)], (some 35), none⟩,
 ⟨.move .look (.t 35), (some 33), none⟩,
 ⟨.extract 33 0, (some 36), none⟩,
 ⟨.extract 33 1, (some 37), none⟩,
 ⟨.extract 33 2, (some 38), none⟩,
 ⟨.assign (.p 36), (some 6), none⟩,
 ⟨.assign (.t 37), (some 4), none⟩,
 ⟨.assign (.p 38), (some 5), none⟩]
@[simp] def eq49_3 := id q49_3.eq_1
def q49_4 : List AOper :=
  [⟨.move .head (.p 2), (some 31), none⟩,
 ⟨.bin .eql 1 true (.p 31) (.c (.int .u8 2)), (some 32), none⟩]
@[simp] def eq49_4 := id q49_4.eq_1
def q49_5 : List AOper :=
  [⟨.move .take (.t 0), (some 30), none⟩,
 ⟨.assign (.c (.int .u8 0)), (some 2), none⟩,
 ⟨.assign (.c (.slice .nil 0 1 [])), (some 3), none⟩,
 ⟨.assign (.t 30), (some 4), none⟩,
 ⟨.assign (.c (.bool false)), (some 5), none⟩]
@[simp] def eq49_5 := id q49_5.eq_1
def q49_6 : List AOper :=
  [⟨.move .head (.t 4), (some 25), none⟩,
 ⟨.len false (.p 25), (some 26), none⟩,
 ⟨.move .look (.p 6), (some 27), none⟩,
 ⟨.convInt .i64 (.p 27), (some 28), none⟩,
 ⟨.bin .lss 1 false (.p 26) (.p 28), (some 29), none⟩]
@[simp] def eq49_6 := id q49_6.eq_1
def q49_7 : List AOper :=
  [⟨.move .look (.t 4), (some 20), none⟩,
 ⟨.indexAddr 1 (.t 20) (.c (.int .i64 0)), (some 21), none⟩,
 ⟨.load .take false 1 (.p 21), (some 22), none⟩,
 ⟨.move .look (.t 4), (some 23), none⟩,
 ⟨.sliceSl 1 (.t 23) (some (.c (.int .i64 1))) none, (some 24), none⟩,
 ⟨.assign (.p 22), (some 2), none⟩,
 ⟨.assign (.t 24), (some 4), none⟩]
@[simp] def eq49_7 := id q49_7.eq_1
def q49_8 : List AOper :=
  [⟨.move .take (.t 0), (some 19), none⟩,
 ⟨.assign (.c (.int .u8 0)), (some 2), none⟩,
 ⟨.assign (.c (.slice .nil 0 1 [])), (some 3), none⟩,
 ⟨.assign (.t 19), (some 4), none⟩,
 ⟨.assign (.c (.bool false)), (some 5), none⟩]
@[simp] def eq49_8 := id q49_8.eq_1
def q49_9 : List AOper :=
  [⟨.move .head (.t 4), (some 16), none⟩,
 ⟨.len false (.p 16), (some 17), none⟩,
 ⟨.bin .lss 1 true (.p 17) (.c (.int .i64 1)), (some 18), none⟩]
@[simp] def eq49_9 := id q49_9.eq_1
def q49_10 : List AOper :=
  [⟨.move .take (.t 0), (some 15), none⟩,
 ⟨.assign (.c (.int .u8 0)), (some 2), none⟩,
 ⟨.assign (.c (.slice .nil 0 1 [])), (some 3), none⟩,
 ⟨.assign (.t 15), (some 4), none⟩,
 ⟨.assign (.c (.bool false)), (some 5), none⟩]
@[simp] def eq49_10 := id q49_10.eq_1
def q49_11 : List AOper :=
  [⟨.move .look (.p 5), (some 13), none⟩,
 ⟨.un .not (.p 13), (some 14), none⟩]
@[simp] def eq49_11 := id q49_11.eq_1
def q49_12 : List AOper :=
  [⟨.move .look (.t 0), (some 8), none⟩,
 ⟨.call 77 [(.t 8, false)], (some 9), none⟩,
 ⟨.move .look (.t 9), (some 7), none⟩,
 ⟨.extract 7 0, (some 10), none⟩,
 ⟨.extract 7 1, (some 11), none⟩,
 ⟨.extract 7 2, (some 12), none⟩,
 ⟨.assign (.p 10), (some 6), none⟩,
 ⟨.assign (.t 11), (some 4), none⟩,
 ⟨.assign (.p 12), (some 5), none⟩]
@[simp] def eq49_12 := id q49_12.eq_1
def q49_13 : List AOper :=
  [⟨.assign (.c (.int .u8 0)), (some 2), none⟩,
 ⟨.assign (.c (.slice .nil 0 1 [])), (some 3), none⟩,
 ⟨.assign (.c (.slice .nil 0 1 [])), (some 4), none⟩,
 ⟨.assign (.c (.bool false)), (some 5), none⟩]
@[simp] def eq49_13 := id q49_13.eq_1
def k49_0 : ACode :=
  .ops q49_0 .ret
@[simp] def xk49_0 := @xOps _ _ _ k49_0.eq_1
def k49_1 : ACode :=
  .ops q49_1 .ret
def k49_2 : ACode :=
  .cond (.p 47) k49_1 .skip
@[simp] def xk49_2 := @xCond _ _ _ _ k49_2.eq_1
def k49_3 : ACode :=
  .ops q49_2 k49_2
@[simp] def xk49_3 := @xOps _ _ _ k49_3.eq_1
def k49_4 : ACode :=
  .ops q49_3 k49_3
@[simp] def xk49_4 := @xOps _ _ _ k49_4.eq_1
def k49_5 : ACode :=
  .cond (.p 32) k49_4 .skip
@[simp] def xk49_5 := @xCond _ _ _ _ k49_5.eq_1
def k49_6 : ACode :=
  .seq k49_5 k49_0
@[simp] def xk49_6 := @xSeq _ _ _ k49_6.eq_1
def k49_7 : ACode :=
  .ops q49_4 k49_6
@[simp] def xk49_7 := @xOps _ _ _ k49_7.eq_1
def k49_8 : ACode :=
  .ops q49_5 .ret
@[simp] def xk49_8 := @xOps _ _ _ k49_8.eq_1
def k49_9 : ACode :=
  .cond (.p 29) k49_8 .skip
@[simp] def xk49_9 := @xCond _ _ _ _ k49_9.eq_1
def k49_10 : ACode :=
  .seq k49_9 k49_7
@[simp] def xk49_10 := @xSeq _ _ _ k49_10.eq_1
def k49_11 : ACode :=
  .ops q49_6 k49_10
@[simp] def xk49_11 := @xOps _ _ _ k49_11.eq_1
def k49_12 : ACode :=
  .ops q49_7 k49_11
@[simp] def xk49_12 := @xOps _ _ _ k49_12.eq_1
def k49_13 : ACode :=
  .ops q49_8 .ret
@[simp] def xk49_13 := @xOps _ _ _ k49_13.eq_1
def k49_14 : ACode :=
  .cond (.p 18) k49_13 .skip
@[simp] def xk49_14 := @xCond _ _ _ _ k49_14.eq_1
def k49_15 : ACode :=
  .seq k49_14 k49_12
@[simp] def xk49_15 := @xSeq _ _ _ k49_15.eq_1
def k49_16 : ACode :=
  .ops q49_9 k49_15
@[simp] def xk49_16 := @xOps _ _ _ k49_16.eq_1
def k49_17 : ACode :=
  .ops q49_10 .ret
@[simp] def xk49_17 := @xOps _ _ _ k49_17.eq_1
def k49_18 : ACode :=
  .cond (.p 14) k49_17 .skip
@[simp] def xk49_18 := @xCond _ _ _ _ k49_18.eq_1
def k49_19 : ACode :=
  .seq k49_18 k49_16
@[simp] def xk49_19 := @xSeq _ _ _ k49_19.eq_1
def k49_20 : ACode :=
  .ops q49_11 k49_19
@[simp] def xk49_20 := @xOps _ _ _ k49_20.eq_1
def k49_21 : ACode :=
  .ops q49_12 k49_20
@[simp] def xk49_21 := @xOps _ _ _ k49_21.eq_1
def k49_22 : ACode :=
  .ops q49_13 k49_21
@[simp] def xk49_22 := @xOps _ _ _ k49_22.eq_1
def af49 : AFunc := ⟨56, k49_22, [.tmp 2, .tmp 3, .tmp 4, .tmp 5], fun _ _ => none⟩

theorem ok49 : ∃ hs, pFunc Tryz.prog sg hs Tryz.f49 = some af49 := ⟨fun i => 0, by kernel_rfl⟩
def q25_0 : List AOper :=
  [⟨.move .take (.p 2), (some 18), none⟩,
 ⟨.move .take (.t 3), (some 19), none⟩,
 ⟨.assign (.p 18), (some 2), none⟩,
 ⟨.assign (.t 19), (some 3), none⟩,
 ⟨.assign (.c (.bool true)), (some 4), none⟩]
@[simp] def eq25_0 := id q25_0.eq_1
def q25_1 : List AOper :=
  [⟨.assign (.c (.int .u8 0)), (some 2), none⟩,
 ⟨.assign (.c (.slice .nil 0 1 [])), (some 3), none⟩,
 ⟨.assign (.c (.bool false)), (some 4), none⟩]
@[simp] def eq25_1 := id q25_1.eq_1
def q25_2 : List AOper :=
  [⟨.move .look (.p 4), (some 16), none⟩,
 ⟨.un .not (.p 16), (some 17), none⟩]
@[simp] def eq25_2 := id q25_2.eq_1
def q25_3 : List AOper :=
  [⟨.fieldAddr 1 (.p 1), (some 9), none⟩,
 ⟨.load .look false 1 (.p 9), (some 10), none⟩,
 ⟨.call 49 [(.t 10, false)], (some 11), none⟩,
 ⟨.move .look (.t 11), (some 8), none⟩,
 ⟨.extract 8 0, (some 12), none⟩,
 ⟨.extract 8 1, (some 13), none⟩,
 ⟨.extract 8 2, (some 14), none⟩,
 ⟨.extract 8 3, (some 15), none⟩,
 ⟨.assign (.p 12), (some 2), none⟩,
 ⟨.assign (.t 13), (some 3), none⟩,
 ⟨.assign (.p 15), (some 4), none⟩]
@[simp] def eq25_3 := id q25_3.eq_1
def q25_4 : List AOper :=
  [⟨.assign (.c (.int .u8 0)), (some 2), none⟩,
 ⟨.assign (.c (.slice .nil 0 1 [])), (some 3), none⟩,
 ⟨.assign (.c (.bool false)), (some 4), none⟩]
@[simp] def eq25_4 := id q25_4.eq_1
def q25_5 : List AOper :=
  [⟨.fieldAddr 0 (.p 1), (some 5), none⟩,
 ⟨.load .head false 1 (.p 5), (some 6), none⟩,
 ⟨.bin .neq 1 true (.p 6) (.c (.int .u8 5)), (some 7), none⟩]
@[simp] def eq25_5 := id q25_5.eq_1
def q25_6 : List AOper :=
  [⟨.box 1 (.p 0), (some 1), none⟩,
 ⟨.assign (.c (.int .u8 0)), (some 2), none⟩,
 ⟨.assign (.c (.slice .nil 0 1 [])), (some 3), none⟩,
 ⟨.assign (.c (.bool false)), (some 4), none⟩]
@[simp] def eq25_6 := id q25_6.eq_1
def k25_0 : ACode :=
  .ops q25_0 .ret
@[simp] def xk25_0 := @xOps _ _ _ k25_0.eq_1
def k25_1 : ACode :=
  .ops q25_1 .ret
@[simp] def xk25_1 := @xOps _ _ _ k25_1.eq_1
def k25_2 : ACode :=
  .cond (.p 17) k25_1 .skip
@[simp] def xk25_2 := @xCond _ _ _ _ k25_2.eq_1
def k25_3 : ACode :=
  .seq k25_2 k25_0
@[simp] def xk25_3 := @xSeq _ _ _ k25_3.eq_1
def k25_4 : ACode :=
  .ops q25_2 k25_3
@[simp] def xk25_4 := @xOps _ _ _ k25_4.eq_1
def k25_5 : ACode :=
  .ops q25_3 k25_4
@[simp] def xk25_5 := @xOps _ _ _ k25_5.eq_1
def k25_6 : ACode :=
  .ops q25_4 .ret
@[simp] def xk25_6 := @xOps _ _ _ k25_6.eq_1
def k25_7 : ACode :=
  .cond (.p 7) k25_6 .skip
@[simp] def xk25_7 := @xCond _ _ _ _ k25_7.eq_1
def k25_8 : ACode :=
  .seq k25_7 k25_5
@[simp] def xk25_8 := @xSeq _ _ _ k25_8.eq_1
def k25_9 : ACode :=
  .ops q25_5 k25_8
@[simp] def xk25_9 := @xOps _ _ _ k25_9.eq_1
def k25_10 : ACode :=
  .ops q25_6 k25_9
@[simp] def xk25_10 := @xOps _ _ _ k25_10.eq_1
def af25 : AFunc := ⟨20, k25_10, [.tmp 2, .tmp 3, .tmp 4], fun _ _ => none⟩

theorem ok25 : ∃ hs, pFunc Tryz.prog sg hs Tryz.f25 = some af25 := ⟨fun i => 0, by kernel_rfl⟩
def q50_0 : List AOper :=
  [⟨.load .take true 12 (.p 5), (some 18), none⟩,
 ⟨.move .look (.t 0), (some 19), none⟩,
 ⟨.move .head (.p 6), (some 20), none⟩,
 ⟨.sliceSl 1 (.t 19) (some (.p 20)) none, (some 21), none⟩,
 ⟨.store 12 (.p 2) (.p 18), none, none⟩,
 ⟨.assign (.t 21), (some 3), none⟩,
 ⟨.assign (.c (.bool true)), (some 4), none⟩]
@[simp] def eq50_0 := id q50_0.eq_1
def q50_1 : List AOper :=
  [⟨.px (.slArr 12 5 1) [.p 5, .c (.int .i64 0), .c (.int .i64 12)], (some 13), none⟩,
 ⟨.move .look (.t 0), (some 14), none⟩,
 ⟨.move .head (.p 6), (some 15), none⟩,
 ⟨.sliceSl 1 (.t 14) (some (.c (.int .i64 0))) (some (.p 15)), (some 16), none⟩,
 ⟨.copyB 1 false (.m 13) (.p 16), (some 17), none⟩]
@[simp] def eq50_1 := id q50_1.eq_1
def q50_2 : List AOper :=
  [⟨.load .take true 12 (.p 5), (some 11), none⟩,
 ⟨.move .take (.t 0), (some 12), none⟩,
 ⟨.store 12 (.p 2) (.p 11), none, none⟩,
 ⟨.assign (.t 12), (some 3), none⟩,
 ⟨.assign (.c (.bool false)), (some 4), none⟩]
@[simp] def eq50_2 := id q50_2.eq_1
def q50_3 : List AOper :=
  [⟨.move .head (.t 0), (some 7), none⟩,
 ⟨.len false (.p 7), (some 8), none⟩,
 ⟨.move .look (.p 6), (some 9), none⟩,
 ⟨.bin .lss 1 false (.p 8) (.p 9), (some 10), none⟩]
@[simp] def eq50_3 := id q50_3.eq_1
def q50_4 : List AOper :=
  [⟨.newbox 2 [.int .u8 0, .int .u8 0, .int .u8 0, .int .u8 0, .int .u8 0, .int .u8 0, .int .u8 0, .int .u8 0, .int .u8 0, .int .u8 0, .int .u8 0, .int .u8 0], (some 2), none⟩,
 ⟨.assign (.c (.slice .nil 0 1 [])), (some 3), none⟩,
 ⟨.assign (.c (.bool false)), (some 4), none⟩]
@[simp] def eq50_4 := id q50_4.eq_1
def k50_0 : ACode :=
  .ops q50_0 .ret
@[simp] def xk50_0 := @xOps _ _ _ k50_0.eq_1
def k50_1 : ACode :=
  .ops q50_1 k50_0
@[simp] def xk50_1 := @xOps _ _ _ k50_1.eq_1
def k50_2 : ACode :=
  .ops q50_2 .ret
@[simp] def xk50_2 := @xOps _ _ _ k50_2.eq_1
def k50_3 : ACode :=
  .cond (.p 10) k50_2 .skip
@[simp] def xk50_3 := @xCond _ _ _ _ k50_3.eq_1
def k50_4 : ACode :=
  .seq k50_3 k50_1
@[simp] def xk50_4 := @xSeq _ _ _ k50_4.eq_1
def k50_5 : ACode :=
  .ops q50_3 k50_4
@[simp] def xk50_5 := @xOps _ _ _ k50_5.eq_1
def k50_6 : ACode :=
  .ops [⟨.assign (.c (.int .i64 12)), (some 6), none⟩] k50_5
@[simp] def xk50_6 := @xOps _ _ _ k50_6.eq_1
def k50_7 : ACode :=
  .ops [⟨.newobj [.int .u8 0, .int .u8 0, .int .u8 0, .int .u8 0, .int .u8 0, .int .u8 0, .int .u8 0, .int .u8 0, .int .u8 0, .int .u8 0, .int .u8 0, .int .u8 0], (some 5), none⟩] k50_6
@[simp] def xk50_7 := @xOps _ _ _ k50_7.eq_1
def k50_8 : ACode :=
  .ops q50_4 k50_7
@[simp] def xk50_8 := @xOps _ _ _ k50_8.eq_1
def af50 : AFunc := ⟨22, k50_8, [.cell 2 true 12, .tmp 3, .tmp 4], fun _ _ => none⟩

theorem ok50 : ∃ hs, pFunc Tryz.prog sg hs Tryz.f50 = some af50 := ⟨fun i => if i == 5 then 1 else if i == 13 then 1 else 0, by kernel_rfl⟩
def q26_0 : List AOper :=
  [⟨.load .take true 12 (.p 4), (some 21), none⟩,
 ⟨.store 12 (.p 2) (.p 21), none, none⟩,
 ⟨.assign (.c (.bool true)), (some 3), none⟩]
@[simp] def eq26_0 := id q26_0.eq_1
def q26_1 : List AOper :=
  [⟨.build [.int .u8 0, .int .u8 0, .int .u8 0, .int .u8 0, .int .u8 0, .int .u8 0, .int .u8 0, .int .u8 0, .int .u8 0, .int .u8 0, .int .u8 0, .int .u8 0] [], (some 20), none⟩,
 ⟨.store 12 (.p 2) (.p 20), none, none⟩,
 ⟨.assign (.c (.bool false)), (some 3), none⟩]
@[simp] def eq26_1 := id q26_1.eq_1
def q26_2 : List AOper :=
  [⟨.move .look (.p 6), (some 18), none⟩,
 ⟨.un .not (.p 18), (some 19), none⟩]
@[simp] def eq26_2 := id q26_2.eq_1
def q26_3 : List AOper :=
  [⟨.fieldAddr 1 (.p 1), (some 12), none⟩,
 ⟨.load .look false 1 (.p 12), (some 13), none⟩,
 ⟨.call 50 [(.t 13, false)], (some 14), none⟩,
 ⟨.move .look (.t 14), (some 11), none⟩,
 ⟨.extract 11 0, (some 15), none⟩,
 ⟨.extract 11 1, (some 16), none⟩,
 ⟨.extract 11 2, (some 17), none⟩,
 ⟨.newbox 4 [.int .u8 0, .int .u8 0, .int .u8 0, .int .u8 0, .int .u8 0, .int .u8 0, .int .u8 0, .int .u8 0, .int .u8 0, .int .u8 0, .int .u8 0, .int .u8 0], (some 4), none⟩,
 ⟨.store 12 (.p 4) (.p 15), none, none⟩,
 ⟨.assign (.t 16), (some 5), none⟩,
 ⟨.assign (.p 17), (some 6), none⟩]
@[simp] def eq26_3 := id q26_3.eq_1
def q26_4 : List AOper :=
  [⟨.build [.int .u8 0, .int .u8 0, .int .u8 0, .int .u8 0, .int .u8 0, .int .u8 0, .int .u8 0, .int .u8 0, .int .u8 0, .int .u8 0, .int .u8 0, .int .u8 0] [], (some 10), none⟩,
 ⟨.store 12 (.p 2) (.p 10), none, none⟩,
 ⟨.assign (.c (.bool false)), (some 3), none⟩]
@[simp] def eq26_4 := id q26_4.eq_1
def q26_5 : List AOper :=
  [⟨.fieldAddr 0 (.p 1), (some 7), none⟩,
 ⟨.load .head false 1 (.p 7), (some 8), none⟩,
 ⟨.bin .neq 1 true (.p 8) (.c (.int .u8 7)), (some 9), none⟩]
@[simp] def eq26_5 := id q26_5.eq_1
def q26_6 : List AOper :=
  [⟨.box 1 (.p 0), (some 1), none⟩,
 ⟨.newbox 2 [.int .u8 0, .int .u8 0, .int .u8 0, .int .u8 0, .int .u8 0, .int .u8 0, .int .u8 0, .int .u8 0, .int .u8 0, .int .u8 0, .int .u8 0, .int .u8 0], (some 2), none⟩,
 ⟨.assign (.c (.bool false)), (some 3), none⟩]
@[simp] def eq26_6 := id q26_6.eq_1
def k26_0 : ACode :=
  .ops q26_0 .ret
@[simp] def xk26_0 := @xOps _ _ _ k26_0.eq_1
def k26_1 : ACode :=
  .ops q26_1 .ret
@[simp] def xk26_1 := @xOps _ _ _ k26_1.eq_1
def k26_2 : ACode :=
  .cond (.p 19) k26_1 .skip
@[simp] def xk26_2 := @xCond _ _ _ _ k26_2.eq_1
def k26_3 : ACode :=
  .seq k26_2 k26_0
@[simp] def xk26_3 := @xSeq _ _ _ k26_3.eq_1
def k26_4 : ACode :=
  .ops q26_2 k26_3
@[simp] def xk26_4 := @xOps _ _ _ k26_4.eq_1
def k26_5 : ACode :=
  .ops q26_3 k26_4
@[simp] def xk26_5 := @xOps _ _ _ k26_5.eq_1
def k26_6 : ACode :=
  .ops q26_4 .ret
@[simp] def xk26_6 := @xOps _ _ _ k26_6.eq_1
def k26_7 : ACode :=
  .cond (.p 9) k26_6 .skip
@[simp] def xk26_7 := @xCond _ _ _ _ k26_7.eq_1
def k26_8 : ACode :=
  .seq k26_7 k26_5
@[simp] def xk26_8 := @xSeq _ _ _ k26_8.eq_1
def k26_9 : ACode :=
  .ops q26_5 k26_8
@[simp] def xk26_9 := @xOps _ _ _ k26_9.eq_1
def k26_10 : ACode :=
  .ops q26_6 k26_9
@[simp] def xk26_10 := @xOps _ _ _ k26_10.eq_1
def af26 : AFunc := ⟨22, k26_10, [.cell 2 true 12, .tmp 3], fun _ _ => none⟩

theorem ok26 : ∃ hs, pFunc Tryz.prog sg hs Tryz.f26 = some af26 := ⟨fun i => 0, by kernel_rfl⟩
def q51_0 : List AOper :=
  [⟨.move .look (.t 0), (some 9), none⟩,
 ⟨.indexAddr 1 (.t 9) (.c (.int .i64 0)), (some 10), none⟩,
 ⟨.load .head false 1 (.p 10), (some 11), none⟩,
 ⟨.bin .eql 1 true (.p 11) (.c (.int .u8 1)), (some 12), none⟩,
 ⟨.move .look (.t 0), (some 13), none⟩,
 ⟨.sliceSl 1 (.t 13) (some (.c (.int .i64 1))) none, (some 14), none⟩,
 ⟨.assign (.p 12), (some 2), none⟩,
 ⟨.assign (.t 14), (some 3), none⟩,
 ⟨.assign (.c (.bool true)), (some 4), none⟩]
@[simp] def eq51_0 := id q51_0.eq_1
def q51_1 : List AOper :=
  [⟨.move .take (.t 0), (some 8), none⟩,
 ⟨.assign (.c (.bool false)), (some 2), none⟩,
 ⟨.assign (.t 8), (some 3), none⟩,
 ⟨.assign (.c (.bool false)), (some 4), none⟩]
@[simp] def eq51_1 := id q51_1.eq_1
def q51_2 : List AOper :=
  [⟨.move .head (.t 0), (some 5), none⟩,
 ⟨.len false (.p 5), (some 6), none⟩,
 ⟨.bin .lss 1 true (.p 6) (.c (.int .i64 1)), (some 7), none⟩]
@[simp] def eq51_2 := id q51_2.eq_1
def q51_3 : List AOper :=
  [⟨.assign (.c (.bool false)), (some 2), none⟩,
 ⟨.assign (.c (.slice .nil 0 1 [])), (some 3), none⟩,
 ⟨.assign (.c (.bool false)), (some 4), none⟩]
@[simp] def eq51_3 := id q51_3.eq_1
def k51_0 : ACode :=
  .ops q51_0 .ret
@[simp] def xk51_0 := @xOps _ _ _ k51_0.eq_1
def k51_1 : ACode :=
  .ops q51_1 .ret
@[simp] def xk51_1 := @xOps _ _ _ k51_1.eq_1
def k51_2 : ACode :=
  .cond (.p 7) k51_1 .skip
@[simp] def xk51_2 := @xCond _ _ _ _ k51_2.eq_1
def k51_3 : ACode :=
  .seq k51_2 k51_0
@[simp] def xk51_3 := @xSeq _ _ _ k51_3.eq_1
def k51_4 : ACode :=
  .ops q51_2 k51_3
@[simp] def xk51_4 := @xOps _ _ _ k51_4.eq_1
def k51_5 : ACode :=
  .ops q51_3 k51_4
@[simp] def xk51_5 := @xOps _ _ _ k51_5.eq_1
def af51 : AFunc := ⟨15, k51_5, [.tmp 2, .tmp 3, .tmp 4], fun _ _ => none⟩

theorem ok51 : ∃ hs, pFunc Tryz.prog sg hs Tryz.f51 = some af51 := ⟨fun i => 0, by kernel_rfl⟩
def q27_0 : List AOper :=
  [⟨.move .take (.p 4), (some 19), none⟩,
 ⟨.assign (.p 19), (some 2), none⟩,
 ⟨.assign (.c (.bool true)), (some 3), none⟩]
@[simp] def eq27_0 := id q27_0.eq_1
def q27_1 : List AOper :=
  [⟨.assign (.c (.bool false)), (some 2), none⟩,
 ⟨.assign (.c (.bool false)), (some 3), none⟩]
@[simp] def eq27_1 := id q27_1.eq_1
def q27_2 : List AOper :=
  [⟨.move .look (.p 6), (some 17), none⟩,
 ⟨.un .not (.p 17), (some 18), none⟩]
@[simp] def eq27_2 := id q27_2.eq_1
def q27_3 : List AOper :=
  [⟨.fieldAddr 1 (.p 1), (some 11), none⟩,
 ⟨.load .look false 1 (.p 11), (some 12), none⟩,
 ⟨.call 51 [(.t 12, false)], (some 13), none⟩,
 ⟨.move .look (.t 13), (some 10), none⟩,
 ⟨.extract 10 0, (some 14), none⟩,
 ⟨.extract 10 1, (some 15), none⟩,
 ⟨.extract 10 2, (some 16), none⟩,
 ⟨.assign (.p 14), (some 4), none⟩,
 ⟨.assign (.t 15), (some 5), none⟩,
 ⟨.assign (.p 16), (some 6), none⟩]
@[simp] def eq27_3 := id q27_3.eq_1
def q27_4 : List AOper :=
  [⟨.assign (.c (.bool false)), (some 2), none⟩,
 ⟨.assign (.c (.bool false)), (some 3), none⟩]
@[simp] def eq27_4 := id q27_4.eq_1
def q27_5 : List AOper :=
  [⟨.fieldAddr 0 (.p 1), (some 7), none⟩,
 ⟨.load .head false 1 (.p 7), (some 8), none⟩,
 ⟨.bin .neq 1 true (.p 8) (.c (.int .u8 8)), (some 9), none⟩]
@[simp] def eq27_5 := id q27_5.eq_1
def q27_6 : List AOper :=
  [⟨.box 1 (.p 0), (some 1), none⟩,
 ⟨.assign (.c (.bool false)), (some 2), none⟩,
 ⟨.assign (.c (.bool false)), (some 3), none⟩]
@[simp] def eq27_6 := id q27_6.eq_1
def k27_0 : ACode :=
  .ops q27_0 .ret
@[simp] def xk27_0 := @xOps _ _ _ k27_0.eq_1
def k27_1 : ACode :=
  .ops q27_1 .ret
@[simp] def xk27_1 := @xOps _ _ _ k27_1.eq_1
def k27_2 : ACode :=
  .cond (.p 18) k27_1 .skip
@[simp] def xk27_2 := @xCond _ _ _ _ k27_2.eq_1
def k27_3 : ACode :=
  .seq k27_2 k27_0
@[simp] def xk27_3 := @xSeq _ _ _ k27_3.eq_1
def k27_4 : ACode :=
  .ops q27_2 k27_3
@[simp] def xk27_4 := @xOps _ _ _ k27_4.eq_1
def k27_5 : ACode :=
  .ops q27_3 k27_4
@[simp] def xk27_5 := @xOps _ _ _ k27_5.eq_1
def k27_6 : ACode :=
  .ops q27_4 .ret
@[simp] def xk27_6 := @xOps _ _ _ k27_6.eq_1
def k27_7 : ACode :=
  .cond (.p 9) k27_6 .skip
@[simp] def xk27_7 := @xCond _ _ _ _ k27_7.eq_1
def k27_8 : ACode :=
  .seq k27_7 k27_5
@[simp] def xk27_8 := @xSeq _ _ _ k27_8.eq_1
def k27_9 : ACode :=
  .ops q27_5 k27_8
@[simp] def xk27_9 := @xOps _ _ _ k27_9.eq_1
def k27_10 : ACode :=
  .ops q27_6 k27_9
@[simp] def xk27_10 := @xOps _ _ _ k27_10.eq_1
def af27 : AFunc := ⟨20, k27_10, [.tmp 2, .tmp 3], fun _ _ => none⟩

theorem ok27 : ∃ hs, pFunc Tryz.prog sg hs Tryz.f27 = some af27 := ⟨fun i => 0, by kernel_rfl⟩
def k28_0 : ACode :=
  .ops [⟨.assign (.c (.int .i64 0)), (some 2), none⟩] .ret
@[simp] def xk28_0 := @xOps _ _ _ k28_0.eq_1
def k28_1 : ACode :=
  .ops [⟨.assign (.c (.int .i64 1)), (some 2), none⟩] .ret
@[simp] def xk28_1 := @xOps _ _ _ k28_1.eq_1
def k28_2 : ACode :=
  .cond (.p 3) k28_1 .skip
@[simp] def xk28_2 := @xCond _ _ _ _ k28_2.eq_1
def k28_3 : ACode :=
  .seq k28_2 k28_0
@[simp] def xk28_3 := @xSeq _ _ _ k28_3.eq_1
def k28_4 : ACode :=
  .ops [⟨.move .head (.p 0), (some 3), none⟩] k28_3
@[simp] def xk28_4 := @xOps _ _ _ k28_4.eq_1
def k28_5 : ACode :=
  .ops [⟨.assign (.c (.int .i64 0)), (some 2), none⟩] k28_4
@[simp] def xk28_5 := @xOps _ _ _ k28_5.eq_1
def af28 : AFunc := ⟨4, k28_5, [.tmp 2], fun _ _ => none⟩

theorem ok28 : ∃ hs, pFunc Tryz.prog sg hs Tryz.f28 = some af28 := ⟨fun i => 0, by kernel_rfl⟩
def q78_0 : List AOper :=
  [⟨.move .take (.p 5), (some 59), none⟩,
 ⟨.move .look (.t 0), (some 60), none⟩,
 ⟨.sliceSl 1 (.t 60) (some (.c (.int .i64 8))) none, (some 61), none⟩,
 ⟨.assign (.p 59), (some 2), none⟩,
 ⟨.assign (.t 61), (some 3), none⟩,
 ⟨.assign (.c (.bool true)), (some 4), none⟩]
@[simp] def eq78_0 := id q78_0.eq_1
def q78_1 : List AOper :=
  [⟨.move .look (.t 0), (some 13), none⟩,
 ⟨.indexAddr 1 (.t 13) (.c (.int .i64 0)), (some 14), none⟩,
 ⟨.load .look false 1 (.p 14), (some 15), none⟩,
 ⟨.convInt .i64 (.p 15), (some 16), none⟩,
 ⟨.move .look (.t 0), (some 17), none⟩,
 ⟨.indexAddr 1 (.t 17) (.c (.int .i64 1)), (some 18), none⟩,
 ⟨.load .look false 1 (.p 18), (some 19), none⟩,
 ⟨.convInt .i64 (.p 19), (some 20), none⟩,
 ⟨.bin .shl 1 true (.p 20) (.c (.int .u64 8)), (some 21), none⟩,
 ⟨.bin .or 1 false (.p 16) (.p 21), (some 22), none⟩,
 ⟨.move .look (.t 0), (some 23), none⟩,
 ⟨.indexAddr 1 (.t 23) (.c (.int .i64 2)), (some 24), none⟩,
 ⟨.load .look false 1 (.p 24), (some 25), none⟩,
 ⟨.convInt .i64 (.p 25), (some 26), none⟩,
 ⟨.bin .shl 1 true (.p 26) (.c (.int .u64 16)), (some 27), none⟩,
 ⟨.bin .or 1 false (.p 22) (.p 27), (some 28), none⟩,
 ⟨.move .look (.t 0), (some 29), none⟩,
 ⟨.indexAddr 1 (.t 29) (.c (.int .i64 3)), (some 30), none⟩,
 ⟨.load .look false 1 (.p 30), (some 31), none⟩,
 ⟨.convInt .i64 (.p 31), (some 32), none⟩,
 ⟨.bin .shl 1 true (.p 32) (.c (.int .u64 24)), (some 33), none⟩,
 ⟨.bin .or 1 false (.p 28) (.p 33), (some 34), none⟩,
 ⟨.move .look (.t 0), (some 35), none⟩,
 ⟨.indexAddr 1 (.t 35) (.c (.int .i64 4)), (some 36), none⟩,
 ⟨.load .look false 1 (.p 36), (some 37), none⟩,
 ⟨.convInt .i64 (.p 37), (some 38), none⟩,
 ⟨.bin .shl 1 true (.p 38) (.c (.int .u64 32)), (some 39), none⟩,
 ⟨.bin .or 1 false (.p 34) (.p 39), (some 40), none⟩,
 ⟨.move .look (.t 0), (some 41), none⟩,
 ⟨.indexAddr 1 (.t 41) (.c (.int .i64 5)), (some 42), none⟩,
 ⟨.load .look false 1 (.p 42), (some 43), none⟩,
 ⟨.convInt .i64 (.p 43), (some 44), none⟩,
 ⟨.bin .shl 1 true (.p 44) (.c (.int .u64 40)), (some 45), none⟩,
 ⟨.bin .or 1 false (.p 40) (.p 45), (some 46), none⟩,
 ⟨.move .look (.t 0), (some 47), none⟩,
 ⟨.indexAddr 1 (.t 47) (.c (.int .i64 6)), (some 48), none⟩,
 ⟨.load .look false 1 (.p 48), (some 49), none⟩,
 ⟨.convInt .i64 (.p 49), (some 50), none⟩,
 ⟨.bin .shl 1 true (.p 50) (.c (.int .u64 48)), (some 51), none⟩,
 ⟨.bin .or 1 false (.p 46) (.p 51), (some 52), none⟩,
 ⟨.move .look (.t 0), (some 53), none⟩,
 ⟨.indexAddr 1 (.t 53) (.c (.int .i64 7)), (some 54), none⟩,
 ⟨.load .look false 1 (.p 54), (some 55), none⟩,
 ⟨.convInt .i64 (.p 55), (some 56), none⟩,
 ⟨.bin .shl 1 true (.p 56) (.c (.int .u64 56)), (some 57), none⟩,
 ⟨.bin .or 1 false (.p 52) (.p 57), (some 58), none⟩,
 ⟨.assign (.p 58), (some 5), none⟩]
@[simp] def eq78_1 := id q78_1.eq_1
def q78_2 : List AOper :=
  [⟨.move .look (.t 0), (some 10), none⟩,
 ⟨.indexAddr 1 (.t 10) (.c (.int .i64 7)), (some 11), none⟩,
 ⟨.load .head false 1 (.p 11), (some 12), none⟩]
@[simp] def eq78_2 := id q78_2.eq_1
def q78_3 : List AOper :=
  [⟨.move .take (.t 0), (some 9), none⟩,
 ⟨.assign (.c (.int .i64 0)), (some 2), none⟩,
 ⟨.assign (.t 9), (some 3), none⟩,
 ⟨.assign (.c (.bool false)), (some 4), none⟩]
@[simp] def eq78_3 := id q78_3.eq_1
def q78_4 : List AOper :=
  [⟨.move .head (.t 0), (some 6), none⟩,
 ⟨.len false (.p 6), (some 7), none⟩,
 ⟨.bin .lss 1 true (.p 7) (.c (.int .i64 8)), (some 8), none⟩]
@[simp] def eq78_4 := id q78_4.eq_1
def q78_5 : List AOper :=
  [⟨.assign (.c (.int .i64 0)), (some 2), none⟩,
 ⟨.assign (.c (.slice .nil 0 1 [])), (some 3), none⟩,
 ⟨.assign (.c (.bool false)), (some 4), none⟩]
@[simp] def eq78_5 := id q78_5.eq_1
def k78_0 : ACode :=
  .ops q78_0 .ret
@[simp] def xk78_0 := @xOps _ _ _ k78_0.eq_1
def k78_1 : ACode :=
  .ops q78_1 k78_0
@[simp] def xk78_1 := @xOps _ _ _ k78_1.eq_1
def k78_2 : ACode :=
  .ops q78_2 k78_1
@[simp] def xk78_2 := @xOps _ _ _ k78_2.eq_1
def k78_3 : ACode :=
  .ops q78_3 .ret
@[simp] def xk78_3 := @xOps _ _ _ k78_3.eq_1
def k78_4 : ACode :=
  .cond (.p 8) k78_3 .skip
@[simp] def xk78_4 := @xCond _ _ _ _ k78_4.eq_1
def k78_5 : ACode :=
  .seq k78_4 k78_2
@[simp] def xk78_5 := @xSeq _ _ _ k78_5.eq_1
def k78_6 : ACode :=
  .ops q78_4 k78_5
@[simp] def xk78_6 := @xOps _ _ _ k78_6.eq_1
def k78_7 : ACode :=
  .ops q78_5 k78_6
@[simp] def xk78_7 := @xOps _ _ _ k78_7.eq_1
def af78 : AFunc := ⟨62, k78_7, [.tmp 2, .tmp 3, .tmp 4], fun _ _ => none⟩

theorem ok78 : ∃ hs, pFunc Tryz.prog sg hs Tryz.f78 = some af78 := ⟨fun i => 0, by kernel_rfl⟩
def q52_0 : List AOper :=
  [⟨.move .look (.t 0), (some 5), none⟩,
 ⟨.call 78 [(.t 5, false)], (some 6), none⟩,
 ⟨.extract 6 0, (some 7), none⟩,
 ⟨.extract 6 1, (some 8), none⟩,
 ⟨.extract 6 2, (some 9), none⟩,
 ⟨.assign (.p 7), (some 2), none⟩,
 ⟨.assign (.t 8), (some 3), none⟩,
 ⟨.assign (.p 9), (some 4), none⟩]
@[simp] def eq52_0 := id q52_0.eq_1
def q52_1 : List AOper :=
  [⟨.assign (.c (.int .i64 0)), (some 2), none⟩,
 ⟨.assign (.c (.slice .nil 0 1 [])), (some 3), none⟩,
 ⟨.assign (.c (.bool false)), (some 4), none⟩]
@[simp] def eq52_1 := id q52_1.eq_1
def k52_0 : ACode :=
  .ops q52_0 .ret
@[simp] def xk52_0 := @xOps _ _ _ k52_0.eq_1
def k52_1 : ACode :=
  .ops q52_1 k52_0
@[simp] def xk52_1 := @xOps _ _ _ k52_1.eq_1
def af52 : AFunc := ⟨10, k52_1, [.tmp 2, .tmp 3, .tmp 4], fun _ _ => none⟩

theorem ok52 : ∃ hs, pFunc Tryz.prog sg hs Tryz.f52 = some af52 := ⟨fun i => 0, by kernel_rfl⟩
def q29_0 : List AOper :=
  [⟨.move .take (.p 4), (some 19), none⟩,
 ⟨.assign (.p 19), (some 2), none⟩,
 ⟨.assign (.c (.bool true)), (some 3), none⟩]
@[simp] def eq29_0 := id q29_0.eq_1
def q29_1 : List AOper :=
  [⟨.assign (.c (.int .i64 0)), (some 2), none⟩,
 ⟨.assign (.c (.bool false)), (some 3), none⟩]
@[simp] def eq29_1 := id q29_1.eq_1
def q29_2 : List AOper :=
  [⟨.move .look (.p 6), (some 17), none⟩,
 ⟨.un .not (.p 17), (some 18), none⟩]
@[simp] def eq29_2 := id q29_2.eq_1
def q29_3 : List AOper :=
  [⟨.fieldAddr 1 (.p 1), (some 11), none⟩,
 ⟨.load .look false 1 (.p 11), (some 12), none⟩,
 ⟨.call 52 [(.t 12, false)], (some 13), none⟩,
 ⟨.move .look (.t 13), (some 10), none⟩,
 ⟨.extract 10 0, (some 14), none⟩,
 ⟨.extract 10 1, (some 15), none⟩,
 ⟨.extract 10 2, (some 16), none⟩,
 ⟨.assign (.p 14), (some 4), none⟩,
 ⟨.assign (.t 15), (some 5), none⟩,
 ⟨.assign (.p 16), (some 6), none⟩]
@[simp] def eq29_3 := id q29_3.eq_1
def q29_4 : List AOper :=
  [⟨.assign (.c (.int .i64 0)), (some 2), none⟩,
 ⟨.assign (.c (.bool false)), (some 3), none⟩]
@[simp] def eq29_4 := id q29_4.eq_1
def q29_5 : List AOper :=
  [⟨.fieldAddr 0 (.p 1), (some 7), none⟩,
 ⟨.load .head false 1 (.p 7), (some 8), none⟩,
 ⟨.bin .neq 1 true (.p 8) (.c (.int .u8 9)), (some 9), none⟩]
@[simp] def eq29_5 := id q29_5.eq_1
def q29_6 : List AOper :=
  [⟨.box 1 (.p 0), (some 1), none⟩,
 ⟨.assign (.c (.int .i64 0)), (some 2), none⟩,
 ⟨.assign (.c (.bool false)), (some 3), none⟩]
@[simp] def eq29_6 := id q29_6.eq_1
def k29_0 : ACode :=
  .ops q29_0 .ret
@[simp] def xk29_0 := @xOps _ _ _ k29_0.eq_1
def k29_1 : ACode :=
  .ops q29_1 .ret
@[simp] def xk29_1 := @xOps _ _ _ k29_1.eq_1
def k29_2 : ACode :=
  .cond (.p 18) k29_1 .skip
@[simp] def xk29_2 := @xCond _ _ _ _ k29_2.eq_1
def k29_3 : ACode :=
  .seq k29_2 k29_0
@[simp] def xk29_3 := @xSeq _ _ _ k29_3.eq_1
def k29_4 : ACode :=
  .ops q29_2 k29_3
@[simp] def xk29_4 := @xOps _ _ _ k29_4.eq_1
def k29_5 : ACode :=
  .ops q29_3 k29_4
@[simp] def xk29_5 := @xOps _ _ _ k29_5.eq_1
def k29_6 : ACode :=
  .ops q29_4 .ret
@[simp] def xk29_6 := @xOps _ _ _ k29_6.eq_1
def k29_7 : ACode :=
  .cond (.p 9) k29_6 .skip
@[simp] def xk29_7 := @xCond _ _ _ _ k29_7.eq_1
def k29_8 : ACode :=
  .seq k29_7 k29_5
@[simp] def xk29_8 := @xSeq _ _ _ k29_8.eq_1
def k29_9 : ACode :=
  .ops q29_5 k29_8
@[simp] def xk29_9 := @xOps _ _ _ k29_9.eq_1
def k29_10 : ACode :=
  .ops q29_6 k29_9
@[simp] def xk29_10 := @xOps _ _ _ k29_10.eq_1
def af29 : AFunc := ⟨20, k29_10, [.tmp 2, .tmp 3], fun _ _ => none⟩

theorem ok29 : ∃ hs, pFunc Tryz.prog sg hs Tryz.f29 = some af29 := ⟨fun i => 0, by kernel_rfl⟩
def q155_0 : List AOper :=
  [⟨.move .look (.t 0), (some 5), none⟩,
 ⟨.move .look (.p 1), (some 6), none⟩,
 ⟨.px .idxB [.p 5, .p 6], (some 7), none⟩,
 ⟨.assign (.p 7), (some 4), none⟩]
@[simp] def eq155_0 := id q155_0.eq_1
def k155_0 : ACode :=
  .ops q155_0 .ret
@[simp] def xk155_0 := @xOps _ _ _ k155_0.eq_1
def k155_1 : ACode :=
  .ops [⟨.assign (.c (.int .i64 0)), (some 4), none⟩] k155_0
@[simp] def xk155_1 := @xOps _ _ _ k155_1.eq_1
def af155 : AFunc := ⟨8, k155_1, [.tmp 4], fun _ _ => none⟩

theorem ok155 : ∃ hs, pFunc Tryz.prog sg hs Tryz.f155 = some af155 := ⟨fun i => 0, by kernel_rfl⟩
def q123_0 : List AOper :=
  [⟨.move .look (.t 0), (some 11), none⟩,
 ⟨.move .head (.p 5), (some 12), none⟩,
 ⟨.sliceSl 1 (.t 11) none (some (.p 12)), (some 13), none⟩,
 ⟨.move .look (.t 0), (some 14), none⟩,
 ⟨.move .look (.p 5), (some 15), none⟩,
 ⟨.bin .add 1 true (.p 15) (.c (.int .i64 1)), (some 16), none⟩,
 ⟨.sliceSl 1 (.t 14) (some (.p 16)) none, (some 17), none⟩,
 ⟨.assign (.t 13), (some 2), none⟩,
 ⟨.assign (.t 17), (some 3), none⟩,
 ⟨.assign (.c (.bool true)), (some 4), none⟩]
@[simp] def eq123_0 := id q123_0.eq_1
def q123_1 : List AOper :=
  [⟨.move .take (.t 0), (some 10), none⟩,
 ⟨.assign (.c (.slice .nil 0 1 [])), (some 2), none⟩,
 ⟨.assign (.t 10), (some 3), none⟩,
 ⟨.assign (.c (.bool false)), (some 4), none⟩]
@[simp] def eq123_1 := id q123_1.eq_1
def q123_2 : List AOper :=
  [⟨.move .look (.p 5), (some 8), none⟩,
 ⟨.bin .lss 1 true (.p 8) (.c (.int .i64 0)), (some 9), none⟩]
@[simp] def eq123_2 := id q123_2.eq_1
def q123_3 : List AOper :=
  [⟨.move .look (.t 0), (some 6), none⟩,
 ⟨.call 155 [(.t 6, false), (.c (.int .u8 0), false)], (some 7), none⟩,
 ⟨.assign (.p 7), (some 5), none⟩]
@[simp] def eq123_3 := id q123_3.eq_1
def q123_4 : List AOper :=
  [⟨.assign (.c (.slice .nil 0 1 [])), (some 2), none⟩,
 ⟨.assign (.c (.slice .nil 0 1 [])), (some 3), none⟩,
 ⟨.assign (.c (.bool false)), (some 4), none⟩]
@[simp] def eq123_4 := id q123_4.eq_1
def k123_0 : ACode :=
  .ops q123_0 .ret
@[simp] def xk123_0 := @xOps _ _ _ k123_0.eq_1
def k123_1 : ACode :=
  .ops q123_1 .ret
@[simp] def xk123_1 := @xOps _ _ _ k123_1.eq_1
def k123_2 : ACode :=
  .cond (.p 9) k123_1 .skip
@[simp] def xk123_2 := @xCond _ _ _ _ k123_2.eq_1
def k123_3 : ACode :=
  .seq k123_2 k123_0
@[simp] def xk123_3 := @xSeq _ _ _ k123_3.eq_1
def k123_4 : ACode :=
  .ops q123_2 k123_3
@[simp] def xk123_4 := @xOps _ _ _ k123_4.eq_1
def k123_5 : ACode :=
  .ops q123_3 k123_4
@[simp] def xk123_5 := @xOps _ _ _ k123_5.eq_1
def k123_6 : ACode :=
  .ops q123_4 k123_5
@[simp] def xk123_6 := @xOps _ _ _ k123_6.eq_1
def af123 : AFunc := ⟨18, k123_6, [.tmp 2, .tmp 3, .tmp 4], fun _ _ => none⟩

theorem ok123 : ∃ hs, pFunc Tryz.prog sg hs Tryz.f123 = some af123 := ⟨fun i => 0, by kernel_rfl⟩
def q79_0 : List AOper :=
  [⟨.move .look (.t 5), (some 17), none⟩,
 ⟨.convBS (.t 17), (some 18), none⟩,
 ⟨.move .take (.t 6), (some 19), none⟩,
 ⟨.assign (.p 18), (some 2), none⟩,
 ⟨.assign (.t 19), (some 3), none⟩,
 ⟨.assign (.c (.bool true)), (some 4), none⟩]
@[simp] def eq79_0 := id q79_0.eq_1
def q79_1 : List AOper :=
  [⟨.move .take (.t 0), (some 16), none⟩,
 ⟨.assign (.c (.str [])), (some 2), none⟩,
 ⟨.assign (.t 16), (some 3), none⟩,
 ⟨.assign (.c (.bool false)), (some 4), none⟩]
@[simp] def eq79_1 := id q79_1.eq_1
def q79_2 : List AOper :=
  [⟨.move .look (.p 7), (some 14), none⟩,
 ⟨.un .not (.p 14), (some 15), none⟩]
@[simp] def eq79_2 := id q79_2.eq_1
def q79_3 : List AOper :=
  [⟨.move .look (.t 0), (some 9), none⟩,
 ⟨.call 123 [(.t 9, false)], (some 10), none⟩,
 ⟨.move .look (.t 10), (some 8), none⟩,
 ⟨.extract 8 0, (some 11), none⟩,
 ⟨.extract 8 1, (some 12), none⟩,
 ⟨.extract 8 2, (some 13), none⟩,
 ⟨.assign (.t 11), (some 5), none⟩,
 ⟨.assign (.t 12), (some 6), none⟩,
 ⟨.assign (.p 13), (some 7), none⟩]
@[simp] def eq79_3 := id q79_3.eq_1
def q79_4 : List AOper :=
  [⟨.assign (.c (.str [])), (some 2), none⟩,
 ⟨.assign (.c (.slice .nil 0 1 [])), (some 3), none⟩,
 ⟨.assign (.c (.bool false)), (some 4), none⟩]
@[simp] def eq79_4 := id q79_4.eq_1
def k79_0 : ACode :=
  .ops q79_0 .ret
@[simp] def xk79_0 := @xOps _ _ _ k79_0.eq_1
def k79_1 : ACode :=
  .ops q79_1 .ret
@[simp] def xk79_1 := @xOps _ _ _ k79_1.eq_1
def k79_2 : ACode :=
  .cond (.p 15) k79_1 .skip
@[simp] def xk79_2 := @xCond _ _ _ _ k79_2.eq_1
def k79_3 : ACode :=
  .seq k79_2 k79_0
@[simp] def xk79_3 := @xSeq _ _ _ k79_3.eq_1
def k79_4 : ACode :=
  .ops q79_2 k79_3
@[simp] def xk79_4 := @xOps _ _ _ k79_4.eq_1
def k79_5 : ACode :=
  .ops q79_3 k79_4
@[simp] def xk79_5 := @xOps _ _ _ k79_5.eq_1
def k79_6 : ACode :=
  .ops q79_4 k79_5
@[simp] def xk79_6 := @xOps _ _ _ k79_6.eq_1
def af79 : AFunc := ⟨20, k79_6, [.tmp 2, .tmp 3, .tmp 4], fun _ _ => none⟩

theorem ok79 : ∃ hs, pFunc Tryz.prog sg hs Tryz.f79 = some af79 := ⟨fun i => 0, by kernel_rfl⟩
def q53_0 : List AOper :=
  [⟨.move .take (.p 2), (some 24), none⟩,
 ⟨.move .take (.p 3), (some 25), none⟩,
 ⟨.move .take (.t 4), (some 26), none⟩,
 ⟨.assign (.p 24), (some 2), none⟩,
 ⟨.assign (.p 25), (some 3), none⟩,
 ⟨.assign (.t 26), (some 4), none⟩,
 ⟨.assign (.c (.bool true)), (some 5), none⟩]
@[simp] def eq53_0 := id q53_0.eq_1
def q53_1 : List AOper :=
  [⟨.move .take (.t 0), (some 23), none⟩,
 ⟨.assign (.c (.str [])), (some 2), none⟩,
 ⟨.assign (.c (.str [])), (some 3), none⟩,
 ⟨.assign (.t 23), (some 4), none⟩,
 ⟨.assign (.c (.bool false)), (some 5), none⟩]
@[simp] def eq53_1 := id q53_1.eq_1
def q53_2 : List AOper :=
  [⟨.move .look (.p 5), (some 21), none⟩,
 ⟨.un .not (.p 21), (some 22), none⟩]
@[simp] def eq53_2 := id q53_2.eq_1
def q53_3 : List AOper :=
  [⟨.move .look (.t 4), (some 16), none⟩,
 ⟨.call 79 [(.t 16, false)], (some 17), none⟩,
 ⟨.move .look (.t 17), (some 15), none⟩,
 ⟨.extract 15 0, (some 18), none⟩,
 ⟨.extract 15 1, (some 19), none⟩,
 ⟨.extract 15 2, (some 20), none⟩,
 ⟨.assign (.p 18), (some 3), none⟩,
 ⟨.assign (.t 19), (some 4), none⟩,
 ⟨.assign (.p 20), (some 5), none⟩]
@[simp] def eq53_3 := id q53_3.eq_1
def q53_4 : List AOper :=
  [⟨.move .take (.t 0), (some 14), none⟩,
 ⟨.assign (.c (.str [])), (some 2), none⟩,
 ⟨.assign (.c (.str [])), (some 3), none⟩,
 ⟨.assign (.t 14), (some 4), none⟩,
 ⟨.assign (.c (.bool false)), (some 5), none⟩]
@[simp] def eq53_4 := id q53_4.eq_1
def q53_5 : List AOper :=
  [⟨.move .look (.p 5), (some 12), none⟩,
 ⟨.un .not (.p 12), (some 13), none⟩]
@[simp] def eq53_5 := id q53_5.eq_1
def q53_6 : List AOper :=
  [⟨.move .look (.t 0), (some 7), none⟩,
 ⟨.call 79 [(.t 7, false)], (some 8), none⟩,
 ⟨.move .look (.t 8), (some 6), none⟩,
 ⟨.extract 6 0, (some 9), none⟩,
 ⟨.extract 6 1, (some 10), none⟩,
 ⟨.extract 6 2, (some 11), none⟩,
 ⟨.assign (.p 9), (some 2), none⟩,
 ⟨.assign (.t 10), (some 4), none⟩,
 ⟨.assign (.p 11), (some 5), none⟩]
@[simp] def eq53_6 := id q53_6.eq_1
def q53_7 : List AOper :=
  [⟨.assign (.c (.str [])), (some 2), none⟩,
 ⟨.assign (.c (.str [])), (some 3), none⟩,
 ⟨.assign (.c (.slice .nil 0 1 [])), (some 4), none⟩,
 ⟨.assign (.c (.bool false)), (some 5), none⟩]
@[simp] def eq53_7 := id q53_7.eq_1
def k53_0 : ACode :=
  .ops q53_0 .ret
@[simp] def xk53_0 := @xOps _ _ _ k53_0.eq_1
def k53_1 : ACode :=
  .ops q53_1 .ret
@[simp] def xk53_1 := @xOps _ _ _ k53_1.eq_1
def k53_2 : ACode :=
  .cond (.p 22) k53_1 .skip
@[simp] def xk53_2 := @xCond _ _ _ _ k53_2.eq_1
def k53_3 : ACode :=
  .seq k53_2 k53_0
@[simp] def xk53_3 := @xSeq _ _ _ k53_3.eq_1
def k53_4 : ACode :=
  .ops q53_2 k53_3
@[simp] def xk53_4 := @xOps _ _ _ k53_4.eq_1
def k53_5 : ACode :=
  .ops q53_3 k53_4
@[simp] def xk53_5 := @xOps _ _ _ k53_5.eq_1
def k53_6 : ACode :=
  .ops q53_4 .ret
@[simp] def xk53_6 := @xOps _ _ _ k53_6.eq_1
def k53_7 : ACode :=
  .cond (.p 13) k53_6 .skip
@[simp] def xk53_7 := @xCond _ _ _ _ k53_7.eq_1
def k53_8 : ACode :=
  .seq k53_7 k53_5
@[simp] def xk53_8 := @xSeq _ _ _ k53_8.eq_1
def k53_9 : ACode :=
  .ops q53_5 k53_8
@[simp] def xk53_9 := @xOps _ _ _ k53_9.eq_1
def k53_10 : ACode :=
  .ops q53_6 k53_9
@[simp] def xk53_10 := @xOps _ _ _ k53_10.eq_1
def k53_11 : ACode :=
  .ops q53_7 k53_10
@[simp] def xk53_11 := @xOps _ _ _ k53_11.eq_1
def af53 : AFunc := ⟨27, k53_11, [.tmp 2, .tmp 3, .tmp 4, .tmp 5], fun _ _ => none⟩

theorem ok53 : ∃ hs, pFunc Tryz.prog sg hs Tryz.f53 = some af53 := ⟨fun i => 0, by kernel_rfl⟩
def q30_0 : List AOper :=
  [⟨.move .take (.p 2), (some 18), none⟩,
 ⟨.move .take (.p 3), (some 19), none⟩,
 ⟨.assign (.p 18), (some 2), none⟩,
 ⟨.assign (.p 19), (some 3), none⟩,
 ⟨.assign (.c (.bool true)), (some 4), none⟩]
@[simp] def eq30_0 := id q30_0.eq_1
def q30_1 : List AOper :=
  [⟨.assign (.c (.str [])), (some 2), none⟩,
 ⟨.assign (.c (.str [])), (some 3), none⟩,
 ⟨.assign (.c (.bool false)), (some 4), none⟩]
@[simp] def eq30_1 := id q30_1.eq_1
def q30_2 : List AOper :=
  [⟨.move .look (.p 4), (some 16), none⟩,
 ⟨.un .not (.p 16), (some 17), none⟩]
@[simp] def eq30_2 := id q30_2.eq_1
def q30_3 : List AOper :=
  [⟨.fieldAddr 1 (.p 1), (some 9), none⟩,
 ⟨.load .look false 1 (.p 9), (some 10), none⟩,
 ⟨.call 53 [(.t 10, false)], (some 11), none⟩,
 ⟨.move .look (.t 11), (some 8), none⟩,
 ⟨.extract 8 0, (some 12), none⟩,
 ⟨.extract 8 1, (some 13), none⟩,
 ⟨.extract 8 2, (some 14), none⟩,
 ⟨.extract 8 3, (some 15), none⟩,
 ⟨.assign (.p 12), (some 2), none⟩,
 ⟨.assign (.p 13), (some 3), none⟩,
 ⟨.assign (.p 15), (some 4), none⟩]
@[simp] def eq30_3 := id q30_3.eq_1
def q30_4 : List AOper :=
  [⟨.assign (.c (.str [])), (some 2), none⟩,
 ⟨.assign (.c (.str [])), (some 3), none⟩,
 ⟨.assign (.c (.bool false)), (some 4), none⟩]
@[simp] def eq30_4 := id q30_4.eq_1
def q30_5 : List AOper :=
  [⟨.fieldAddr 0 (.p 1), (some 5), none⟩,
 ⟨.load .head false 1 (.p 5), (some 6), none⟩,
 ⟨.bin .neq 1 true (.p 6) (.c (.int .u8 11)), (some 7), none⟩]
@[simp] def eq30_5 := id q30_5.eq_1
def q30_6 : List AOper :=
  [⟨.box 1 (.p 0), (some 1), none⟩,
 ⟨.assign (.c (.str [])), (some 2), none⟩,
 ⟨.assign (.c (.str [])), (some 3), none⟩,
 ⟨.assign (.c (.bool false)), (some 4), none⟩]
@[simp] def eq30_6 := id q30_6.eq_1
def k30_0 : ACode :=
  .ops q30_0 .ret
@[simp] def xk30_0 := @xOps _ _ _ k30_0.eq_1
def k30_1 : ACode :=
  .ops q30_1 .ret
@[simp] def xk30_1 := @xOps _ _ _ k30_1.eq_1
def k30_2 : ACode :=
  .cond (.p 17) k30_1 .skip
@[simp] def xk30_2 := @xCond _ _ _ _ k30_2.eq_1
def k30_3 : ACode :=
  .seq k30_2 k30_0
@[simp] def xk30_3 := @xSeq _ _ _ k30_3.eq_1
def k30_4 : ACode :=
  .ops q30_2 k30_3
@[simp] def xk30_4 := @xOps _ _ _ k30_4.eq_1
def k30_5 : ACode :=
  .ops q30_3 k30_4
@[simp] def xk30_5 := @xOps _ _ _ k30_5.eq_1
def k30_6 : ACode :=
  .ops q30_4 .ret
@[simp] def xk30_6 := @xOps _ _ _ k30_6.eq_1
def k30_7 : ACode :=
  .cond (.p 7) k30_6 .skip
@[simp] def xk30_7 := @xCond _ _ _ _ k30_7.eq_1
def k30_8 : ACode :=
  .seq k30_7 k30_5
@[simp] def xk30_8 := @xSeq _ _ _ k30_8.eq_1
def k30_9 : ACode :=
  .ops q30_5 k30_8
@[simp] def xk30_9 := @xOps _ _ _ k30_9.eq_1
def k30_10 : ACode :=
  .ops q30_6 k30_9
@[simp] def xk30_10 := @xOps _ _ _ k30_10.eq_1
def af30 : AFunc := ⟨20, k30_10, [.tmp 2, .tmp 3, .tmp 4], fun _ _ => none⟩

theorem ok30 : ∃ hs, pFunc Tryz.prog sg hs Tryz.f30 = some af30 := ⟨fun i => 0, by kernel_rfl⟩
def q54_0 : List AOper :=
  [⟨.move .take (.p 2), (some 26), none⟩,
 ⟨.load .take true 12 (.p 3), (some 27), none⟩,
 ⟨.move .take (.t 4), (some 28), none⟩,
 ⟨.assign (.p 26), (some 2), none⟩,
 ⟨.store 12 (.p 3) (.p 27), none, none⟩,
 ⟨.assign (.t 28), (some 4), none⟩,
 ⟨.assign (.c (.bool true)), (some 5), none⟩]
@[simp] def eq54_0 := id q54_0.eq_1
def q54_1 : List AOper :=
  [⟨.build [.int .u8 0, .int .u8 0, .int .u8 0, .int .u8 0, .int .u8 0, .int .u8 0, .int .u8 0, .int .u8 0, .int .u8 0, .int .u8 0, .int .u8 0, .int .u8 0] [], (some 24), none⟩,
 ⟨.move .take (.t 0), (some 25), none⟩,
 ⟨.assign (.c (.str [])), (some 2), none⟩,
 ⟨.store 12 (.p 3) (.p 24), none, none⟩,
 ⟨.assign (.t 25), (some 4), none⟩,
 ⟨.assign (.c (.bool false)), (some 5), none⟩]
@[simp] def eq54_1 := id q54_1.eq_1
def q54_2 : List AOper :=
  [⟨.move .look (.p 5), (some 22), none⟩,
 ⟨.un .not (.p 22), (some 23), none⟩]
@[simp] def eq54_2 := id q54_2.eq_1
def q54_3 : List AOper :=
  [⟨.move .look (.t 4), (some 17), none⟩,
 ⟨.call 50 [(.t 17, false)], (some 18), none⟩,
 ⟨.move .look (.t 18), (some 16), none⟩,
 ⟨.extract 16 0, (some 19), none⟩,
 ⟨.extract 16 1, (some 20), none⟩,
 ⟨.extract 16 2, (some 21), none⟩,
 ⟨.store 12 (.p 3) (.p 19), none, none⟩,
 ⟨.assign (.t 20), (some 4), none⟩,
 ⟨.assign (.p 21), (some 5), none⟩]
@[simp] def eq54_3 := id q54_3.eq_1
def q54_4 : List AOper :=
  [⟨.build [.int .u8 0, .int .u8 0, .int .u8 0, .int .u8 0, .int .u8 0, .int .u8 0, .int .u8 0, .int .u8 0, .int .u8 0, .int .u8 0, .int .u8 0, .int .u8 0] [], (some 14), none⟩,
 ⟨.move .take (.t 0), (some 15), none⟩,
 ⟨.assign (.c (.str [])), (some 2), none⟩,
 ⟨.store 12 (.p 3) (.p 14), none, none⟩,
 ⟨.assign (.t 15), (some 4), none⟩,
 ⟨.assign (.c (.bool false)), (some 5), none⟩]
@[simp] def eq54_4 := id q54_4.eq_1
def q54_5 : List AOper :=
  [⟨.move .look (.p 5), (some 12), none⟩,
 ⟨.un .not (.p 12), (some 13), none⟩]
@[simp] def eq54_5 := id q54_5.eq_1
def q54_6 : List AOper :=
  [⟨.move .look (.t 0), (some 7), none⟩,
 ⟨.call 75 [(.t 7, false)], (some 8), none⟩,
 ⟨.move .look (.t 8), (some 6), none⟩,
 ⟨.extract 6 0, (some 9), none⟩,
 ⟨.extract 6 1, (some 10), none⟩,
 ⟨.extract 6 2, (some 11), none⟩,
 ⟨.assign (.p 9), (some 2), none⟩,
 ⟨.assign (.t 10), (some 4), none⟩,
 ⟨.assign (.p 11), (some 5), none⟩]
@[simp] def eq54_6 := id q54_6.eq_1
def q54_7 : List AOper :=
  [⟨.assign (.c (.str [])), (some 2), none⟩,
 ⟨.newbox 3 [.int .u8 0, .int .u8 0, .int .u8 0, .int .u8 0, .int .u8 0, .int .u8 0, .int .u8 0, .int .u8 0, .int .u8 0, .int .u8 0, .int .u8 0, .int .u8 0], (some 3), none⟩,
 ⟨.assign (.c (.slice .nil 0 1 [])), (some 4), none⟩,
 ⟨.assign (.c (.bool false)), (some 5), none⟩]
@[simp] def eq54_7 := id q54_7.eq_1
def k54_0 : ACode :=
  .ops q54_0 .ret
@[simp] def xk54_0 := @xOps _ _ _ k54_0.eq_1
def k54_1 : ACode :=
  .ops q54_1 .ret
@[simp] def xk54_1 := @xOps _ _ _ k54_1.eq_1
def k54_2 : ACode :=
  .cond (.p 23) k54_1 .skip
@[simp] def xk54_2 := @xCond _ _ _ _ k54_2.eq_1
def k54_3 : ACode :=
  .seq k54_2 k54_0
@[simp] def xk54_3 := @xSeq _ _ _ k54_3.eq_1
def k54_4 : ACode :=
  .ops q54_2 k54_3
@[simp] def xk54_4 := @xOps _ _ _ k54_4.eq_1
def k54_5 : ACode :=
  .ops q54_3 k54_4
@[simp] def xk54_5 := @xOps _ _ _ k54_5.eq_1
def k54_6 : ACode :=
  .ops q54_4 .ret
@[simp] def xk54_6 := @xOps _ _ _ k54_6.eq_1
def k54_7 : ACode :=
  .cond (.p 13) k54_6 .skip
@[simp] def xk54_7 := @xCond _ _ _ _ k54_7.eq_1
def k54_8 : ACode :=
  .seq k54_7 k54_5
@[simp] def xk54_8 := @xSeq _ _ _ k54_8.eq_1
def k54_9 : ACode :=
  .ops q54_5 k54_8
@[simp] def xk54_9 := @xOps _ _ _ k54_9.eq_1
def k54_10 : ACode :=
  .ops q54_6 k54_9
@[simp] def xk54_10 := @xOps _ _ _ k54_10.eq_1
def k54_11 : ACode :=
  .ops q54_7 k54_10
@[simp] def xk54_11 := @xOps _ _ _ k54_11.eq_1
def af54 : AFunc := ⟨29, k54_11, [.tmp 2, .cell 3 true 12, .tmp 4, .tmp 5], fun _ _ => none⟩

theorem ok54 : ∃ hs, pFunc Tryz.prog sg hs Tryz.f54 = some af54 := ⟨fun i => 0, by kernel_rfl⟩
def q31_0 : List AOper :=
  [⟨.move .take (.p 5), (some 24), none⟩,
 ⟨.load .take true 12 (.p 6), (some 25), none⟩,
 ⟨.assign (.p 24), (some 2), none⟩,
 ⟨.store 12 (.p 3) (.p 25), none, none⟩,
 ⟨.assign (.c (.bool true)), (some 4), none⟩]
@[simp] def eq31_0 := id q31_0.eq_1
def q31_1 : List AOper :=
  [⟨.build [.int .u8 0, .int .u8 0, .int .u8 0, .int .u8 0, .int .u8 0, .int .u8 0, .int .u8 0, .int .u8 0, .int .u8 0, .int .u8 0, .int .u8 0, .int .u8 0] [], (some 23), none⟩,
 ⟨.assign (.c (.str [])), (some 2), none⟩,
 ⟨.store 12 (.p 3) (.p 23), none, none⟩,
 ⟨.assign (.c (.bool false)), (some 4), none⟩]
@[simp] def eq31_1 := id q31_1.eq_1
def q31_2 : List AOper :=
  [⟨.move .look (.p 8), (some 21), none⟩,
 ⟨.un .not (.p 21), (some 22), none⟩]
@[simp] def eq31_2 := id q31_2.eq_1
def q31_3 : List AOper :=
  [⟨.fieldAddr 1 (.p 1), (some 14), none⟩,
 ⟨.load .look false 1 (.p 14), (some 15), none⟩,
 ⟨.call 54 [(.t 15, false)], (some 16), none⟩,
 ⟨.move .look (.t 16), (some 13), none⟩,
 ⟨.extract 13 0, (some 17), none⟩,
 ⟨.extract 13 1, (some 18), none⟩,
 ⟨.extract 13 2, (some 19), none⟩,
 ⟨.extract 13 3, (some 20), none⟩,
 ⟨.newbox 6 [.int .u8 0, .int .u8 0, .int .u8 0, .int .u8 0, .int .u8 0, .int .u8 0, .int .u8 0, .int .u8 0, .int .u8 0, .int .u8 0, .int .u8 0, .int .u8 0], (some 6), none⟩,
 ⟨.assign (.p 17), (some 5), none⟩,
 ⟨.store 12 (.p 6) (.p 18), none, none⟩,
 ⟨.assign (.t 19), (some 7), none⟩,
 ⟨.assign (.p 20), (some 8), none⟩]
@[simp] def eq31_3 := id q31_3.eq_1
def q31_4 : List AOper :=
  [⟨.build [.int .u8 0, .int .u8 0, .int .u8 0, .int .u8 0, .int .u8 0, .int .u8 0, .int .u8 0, .int .u8 0, .int .u8 0, .int .u8 0, .int .u8 0, .int .u8 0] [], (some 12), none⟩,
 ⟨.assign (.c (.str [])), (some 2), none⟩,
 ⟨.store 12 (.p 3) (.p 12), none, none⟩,
 ⟨.assign (.c (.bool false)), (some 4), none⟩]
@[simp] def eq31_4 := id q31_4.eq_1
def q31_5 : List AOper :=
  [⟨.fieldAddr 0 (.p 1), (some 9), none⟩,
 ⟨.load .head false 1 (.p 9), (some 10), none⟩,
 ⟨.bin .neq 1 true (.p 10) (.c (.int .u8 12)), (some 11), none⟩]
@[simp] def eq31_5 := id q31_5.eq_1
def q31_6 : List AOper :=
  [⟨.box 1 (.p 0), (some 1), none⟩,
 ⟨.assign (.c (.str [])), (some 2), none⟩,
 ⟨.newbox 3 [.int .u8 0, .int .u8 0, .int .u8 0, .int .u8 0, .int .u8 0, .int .u8 0, .int .u8 0, .int .u8 0, .int .u8 0, .int .u8 0, .int .u8 0, .int .u8 0], (some 3), none⟩,
 ⟨.assign (.c (.bool false)), (some 4), none⟩]
@[simp] def eq31_6 := id q31_6.eq_1
def k31_0 : ACode :=
  .ops q31_0 .ret
@[simp] def xk31_0 := @xOps _ _ _ k31_0.eq_1
def k31_1 : ACode :=
  .ops q31_1 .ret
@[simp] def xk31_1 := @xOps _ _ _ k31_1.eq_1
def k31_2 : ACode :=
  .cond (.p 22) k31_1 .skip
@[simp] def xk31_2 := @xCond _ _ _ _ k31_2.eq_1
def k31_3 : ACode :=
  .seq k31_2 k31_0
@[simp] def xk31_3 := @xSeq _ _ _ k31_3.eq_1
def k31_4 : ACode :=
  .ops q31_2 k31_3
@[simp] def xk31_4 := @xOps _ _ _ k31_4.eq_1
def k31_5 : ACode :=
  .ops q31_3 k31_4
@[simp] def xk31_5 := @xOps _ _ _ k31_5.eq_1
def k31_6 : ACode :=
  .ops q31_4 .ret
@[simp] def xk31_6 := @xOps _ _ _ k31_6.eq_1
def k31_7 : ACode :=
  .cond (.p 11) k31_6 .skip
@[simp] def xk31_7 := @xCond _ _ _ _ k31_7.eq_1
def k31_8 : ACode :=
  .seq k31_7 k31_5
@[simp] def xk31_8 := @xSeq _ _ _ k31_8.eq_1
def k31_9 : ACode :=
  .ops q31_5 k31_8
@[simp] def xk31_9 := @xOps _ _ _ k31_9.eq_1
def k31_10 : ACode :=
  .ops q31_6 k31_9
@[simp] def xk31_10 := @xOps _ _ _ k31_10.eq_1
def af31 : AFunc := ⟨26, k31_10, [.tmp 2, .cell 3 true 12, .tmp 4], fun _ _ => none⟩

theorem ok31 : ∃ hs, pFunc Tryz.prog sg hs Tryz.f31 = some af31 := ⟨fun i => 0, by kernel_rfl⟩
def q55_0 : List AOper :=
  [⟨.move .look (.t 0), (some 5), none⟩,
 ⟨.call 75 [(.t 5, false)], (some 6), none⟩,
 ⟨.extract 6 0, (some 7), none⟩,
 ⟨.extract 6 1, (some 8), none⟩,
 ⟨.extract 6 2, (some 9), none⟩,
 ⟨.assign (.p 7), (some 2), none⟩,
 ⟨.assign (.t 8), (some 3), none⟩,
 ⟨.assign (.p 9), (some 4), none⟩]
@[simp] def eq55_0 := id q55_0.eq_1
def q55_1 : List AOper :=
  [⟨.assign (.c (.str [])), (some 2), none⟩,
 ⟨.assign (.c (.slice .nil 0 1 [])), (some 3), none⟩,
 ⟨.assign (.c (.bool false)), (some 4), none⟩]
@[simp] def eq55_1 := id q55_1.eq_1
def k55_0 : ACode :=
  .ops q55_0 .ret
@[simp] def xk55_0 := @xOps _ _ _ k55_0.eq_1
def k55_1 : ACode :=
  .ops q55_1 k55_0
@[simp] def xk55_1 := @xOps _ _ _ k55_1.eq_1
def af55 : AFunc := ⟨10, k55_1, [.tmp 2, .tmp 3, .tmp 4], fun _ _ => none⟩

theorem ok55 : ∃ hs, pFunc Tryz.prog sg hs Tryz.f55 = some af55 := ⟨fun i => 0, by kernel_rfl⟩
def q32_0 : List AOper :=
  [⟨.move .take (.p 4), (some 19), none⟩,
 ⟨.assign (.p 19), (some 2), none⟩,
 ⟨.assign (.c (.bool true)), (some 3), none⟩]
@[simp] def eq32_0 := id q32_0.eq_1
def q32_1 : List AOper :=
  [⟨.assign (.c (.str [])), (some 2), none⟩,
 ⟨.assign (.c (.bool false)), (some 3), none⟩]
@[simp] def eq32_1 := id q32_1.eq_1
def q32_2 : List AOper :=
  [⟨.move .look (.p 6), (some 17), none⟩,
 ⟨.un .not (.p 17), (some 18), none⟩]
@[simp] def eq32_2 := id q32_2.eq_1
def q32_3 : List AOper :=
  [⟨.fieldAddr 1 (.p 1), (some 11), none⟩,
 ⟨.load .look false 1 (.p 11), (some 12), none⟩,
 ⟨.call 55 [(.t 12, false)], (some 13), none⟩,
 ⟨.move .look (.t 13), (some 10), none⟩,
 ⟨.extract 10 0, (some 14), none⟩,
 ⟨.extract 10 1, (some 15), none⟩,
 ⟨.extract 10 2, (some 16), none⟩,
 ⟨.assign (.p 14), (some 4), none⟩,
 ⟨.assign (.t 15), (some 5), none⟩,
 ⟨.assign (.p 16), (some 6), none⟩]
@[simp] def eq32_3 := id q32_3.eq_1
def q32_4 : List AOper :=
  [⟨.assign (.c (.str [])), (some 2), none⟩,
 ⟨.assign (.c (.bool false)), (some 3), none⟩]
@[simp] def eq32_4 := id q32_4.eq_1
def q32_5 : List AOper :=
  [⟨.fieldAddr 0 (.p 1), (some 7), none⟩,
 ⟨.load .head false 1 (.p 7), (some 8), none⟩,
 ⟨.bin .neq 1 true (.p 8) (.c (.int .u8 13)), (some 9), none⟩]
@[simp] def eq32_5 := id q32_5.eq_1
def q32_6 : List AOper :=
  [⟨.box 1 (.p 0), (some 1), none⟩,
 ⟨.assign (.c (.str [])), (some 2), none⟩,
 ⟨.assign (.c (.bool false)), (some 3), none⟩]
@[simp] def eq32_6 := id q32_6.eq_1
def k32_0 : ACode :=
  .ops q32_0 .ret
@[simp] def xk32_0 := @xOps _ _ _ k32_0.eq_1
def k32_1 : ACode :=
  .ops q32_1 .ret
@[simp] def xk32_1 := @xOps _ _ _ k32_1.eq_1
def k32_2 : ACode :=
  .cond (.p 18) k32_1 .skip
@[simp] def xk32_2 := @xCond _ _ _ _ k32_2.eq_1
def k32_3 : ACode :=
  .seq k32_2 k32_0
@[simp] def xk32_3 := @xSeq _ _ _ k32_3.eq_1
def k32_4 : ACode :=
  .ops q32_2 k32_3
@[simp] def xk32_4 := @xOps _ _ _ k32_4.eq_1
def k32_5 : ACode :=
  .ops q32_3 k32_4
@[simp] def xk32_5 := @xOps _ _ _ k32_5.eq_1
def k32_6 : ACode :=
  .ops q32_4 .ret
@[simp] def xk32_6 := @xOps _ _ _ k32_6.eq_1
def k32_7 : ACode :=
  .cond (.p 9) k32_6 .skip
@[simp] def xk32_7 := @xCond _ _ _ _ k32_7.eq_1
def k32_8 : ACode :=
  .seq k32_7 k32_5
@[simp] def xk32_8 := @xSeq _ _ _ k32_8.eq_1
def k32_9 : ACode :=
  .ops q32_5 k32_8
@[simp] def xk32_9 := @xOps _ _ _ k32_9.eq_1
def k32_10 : ACode :=
  .ops q32_6 k32_9
@[simp] def xk32_10 := @xOps _ _ _ k32_10.eq_1
def af32 : AFunc := ⟨20, k32_10, [.tmp 2, .tmp 3], fun _ _ => none⟩

theorem ok32 : ∃ hs, pFunc Tryz.prog sg hs Tryz.f32 = some af32 := ⟨fun i => 0, by kernel_rfl⟩
def q56_0 : List AOper :=
  [⟨.move .look (.t 0), (some 5), none⟩,
 ⟨.call 75 [(.t 5, false)], (some 6), none⟩,
 ⟨.extract 6 0, (some 7), none⟩,
 ⟨.extract 6 1, (some 8), none⟩,
 ⟨.extract 6 2, (some 9), none⟩,
 ⟨.assign (.p 7), (some 2), none⟩,
 ⟨.assign (.t 8), (some 3), none⟩,
 ⟨.assign (.p 9), (some 4), none⟩]
@[simp] def eq56_0 := id q56_0.eq_1
def q56_1 : List AOper :=
  [⟨.assign (.c (.str [])), (some 2), none⟩,
 ⟨.assign (.c (.slice .nil 0 1 [])), (some 3), none⟩,
 ⟨.assign (.c (.bool false)), (some 4), none⟩]
@[simp] def eq56_1 := id q56_1.eq_1
def k56_0 : ACode :=
  .ops q56_0 .ret
@[simp] def xk56_0 := @xOps _ _ _ k56_0.eq_1
def k56_1 : ACode :=
  .ops q56_1 k56_0
@[simp] def xk56_1 := @xOps _ _ _ k56_1.eq_1
def af56 : AFunc := ⟨10, k56_1, [.tmp 2, .tmp 3, .tmp 4], fun _ _ => none⟩

theorem ok56 : ∃ hs, pFunc Tryz.prog sg hs Tryz.f56 = some af56 := ⟨fun i => 0, by kernel_rfl⟩
def q33_0 : List AOper :=
  [⟨.move .take (.p 4), (some 19), none⟩,
 ⟨.assign (.p 19), (some 2), none⟩,
 ⟨.assign (.c (.bool true)), (some 3), none⟩]
@[simp] def eq33_0 := id q33_0.eq_1
def q33_1 : List AOper :=
  [⟨.assign (.c (.str [])), (some 2), none⟩,
 ⟨.assign (.c (.bool false)), (some 3), none⟩]
@[simp] def eq33_1 := id q33_1.eq_1
def q33_2 : List AOper :=
  [⟨.move .look (.p 6), (some 17), none⟩,
 ⟨.un .not (.p 17), (some 18), none⟩]
@[simp] def eq33_2 := id q33_2.eq_1
def q33_3 : List AOper :=
  [⟨.fieldAddr 1 (.p 1), (some 11), none⟩,
 ⟨.load .look false 1 (.p 11), (some 12), none⟩,
 ⟨.call 56 [(.t 12, false)], (some 13), none⟩,
 ⟨.move .look (.t 13), (some 10), none⟩,
 ⟨.extract 10 0, (some 14), none⟩,
 ⟨.extract 10 1, (some 15), none⟩,
 ⟨.extract 10 2, (some 16), none⟩,
 ⟨.assign (.p 14), (some 4), none⟩,
 ⟨.assign (.t 15), (some 5), none⟩,
 ⟨.assign (.p 16), (some 6), none⟩]
@[simp] def eq33_3 := id q33_3.eq_1
def q33_4 : List AOper :=
  [⟨.assign (.c (.str [])), (some 2), none⟩,
 ⟨.assign (.c (.bool false)), (some 3), none⟩]
@[simp] def eq33_4 := id q33_4.eq_1
def q33_5 : List AOper :=
  [⟨.fieldAddr 0 (.p 1), (some 7), none⟩,
 ⟨.load .head false 1 (.p 7), (some 8), none⟩,
 ⟨.bin .neq 1 true (.p 8) (.c (.int .u8 14)), (some 9), none⟩]
@[simp] def eq33_5 := id q33_5.eq_1
def q33_6 : List AOper :=
  [⟨.box 1 (.p 0), (some 1), none⟩,
 ⟨.assign (.c (.str [])), (some 2), none⟩,
 ⟨.assign (.c (.bool false)), (some 3), none⟩]
@[simp] def eq33_6 := id q33_6.eq_1
def k33_0 : ACode :=
  .ops q33_0 .ret
@[simp] def xk33_0 := @xOps _ _ _ k33_0.eq_1
def k33_1 : ACode :=
  .ops q33_1 .ret
@[simp] def xk33_1 := @xOps _ _ _ k33_1.eq_1
def k33_2 : ACode :=
  .cond (.p 18) k33_1 .skip
@[simp] def xk33_2 := @xCond _ _ _ _ k33_2.eq_1
def k33_3 : ACode :=
  .seq k33_2 k33_0
@[simp] def xk33_3 := @xSeq _ _ _ k33_3.eq_1
def k33_4 : ACode :=
  .ops q33_2 k33_3
@[simp] def xk33_4 := @xOps _ _ _ k33_4.eq_1
def k33_5 : ACode :=
  .ops q33_3 k33_4
@[simp] def xk33_5 := @xOps _ _ _ k33_5.eq_1
def k33_6 : ACode :=
  .ops q33_4 .ret
@[simp] def xk33_6 := @xOps _ _ _ k33_6.eq_1
def k33_7 : ACode :=
  .cond (.p 9) k33_6 .skip
@[simp] def xk33_7 := @xCond _ _ _ _ k33_7.eq_1
def k33_8 : ACode :=
  .seq k33_7 k33_5
@[simp] def xk33_8 := @xSeq _ _ _ k33_8.eq_1
def k33_9 : ACode :=
  .ops q33_5 k33_8
@[simp] def xk33_9 := @xOps _ _ _ k33_9.eq_1
def k33_10 : ACode :=
  .ops q33_6 k33_9
@[simp] def xk33_10 := @xOps _ _ _ k33_10.eq_1
def af33 : AFunc := ⟨20, k33_10, [.tmp 2, .tmp 3], fun _ _ => none⟩

theorem ok33 : ∃ hs, pFunc Tryz.prog sg hs Tryz.f33 = some af33 := ⟨fun i => 0, by kernel_rfl⟩
def q57_0 : List AOper :=
  [⟨.move .take (.p 2), (some 41), none⟩,
 ⟨.move .take (.t 3), (some 42), none⟩,
 ⟨.move .take (.t 4), (some 43), none⟩,
 ⟨.assign (.p 41), (some 2), none⟩,
 ⟨.assign (.t 42), (some 3), none⟩,
 ⟨.assign (.t 43), (some 4), none⟩,
 ⟨.assign (.c (.bool true)), (some 5), none⟩]
@[simp] def eq57_0 := id q57_0.eq_1
def q57_1 : List AOper :=
  [⟨.move .take (.t 0), (some 40), none⟩,
 ⟨.assign (.c (.str [])), (some 2), none⟩,
 ⟨.assign (.c (.slice .nil 0 1 [])), (some 3), none⟩,
 ⟨.assign (.t 40), (some 4), none⟩,
 ⟨.assign (.c (.bool false)), (some 5), none⟩]
@[simp] def eq57_1 := id q57_1.eq_1
def q57_2 : List AOper :=
  [⟨.move .look (.p 5), (some 38), none⟩,
 ⟨.un .not (.p 38), (some 39), none⟩]
@[simp] def eq57_2 := id q57_2.eq_1
def q57_3 : List AOper :=
  [⟨.move .look (.t 4), (some 33), none⟩,
 ⟨.call 47 [(.t 33, false)], (some 34), none⟩,
 ⟨.move .look (.t 34), (some 32), none⟩,
 ⟨.extract 32 0, (some 35), none⟩,
 ⟨.extract 32 1, (some 36), none⟩,
 ⟨.extract 32 2, (some 37), none⟩,
 ⟨.assign (.t 35), (some 3), none⟩,
 ⟨.assign (.t 36), (some 4), none⟩,
 ⟨.assign (.p 37), (some 5), none⟩]
@[simp] def eq57_3 := id q57_3.eq_1
def q57_4 : List AOper :=
  [⟨.move .take (.t 0), (some 31), none⟩,
 ⟨.assign (.c (.str [])), (some 2), none⟩,
 ⟨.assign (.c (.slice .nil 0 1 [])), (some 3), none⟩,
 ⟨.assign (.t 31), (some 4), none⟩,
 ⟨.assign (.c (.bool false)), (some 5), none⟩]
@[simp] def eq57_4 := id q57_4.eq_1
def q57_5 : List AOper :=
  [⟨.move .look (.p 5), (some 29), none⟩,
 ⟨.un .not (.p 29), (some 30), none⟩]
@[simp] def eq57_5 := id q57_5.eq_1
def q57_6 : List AOper :=
  [⟨.move .look (.t 4), (some 24), none⟩,
 ⟨.call 75 [(.t 24, false)], (some 25), none⟩,
 ⟨.move .look (.t 25), (some 23), none⟩,
 ⟨.extract 23 0, (some 26), none⟩,
 ⟨.extract 23 1, (some 27), none⟩,
 ⟨.extract 23 2, (some 28), none⟩,
 ⟨.assign (.p 26), (some 2), none⟩,
 ⟨.assign (.t 27), (some 4), none⟩,
 ⟨.assign (.p 28), (some 5), none⟩]
@[simp] def eq57_6 := id q57_6.eq_1
def q57_7 : List AOper :=
  [⟨.move .take (.t 0), (some 22), none⟩,
 ⟨.assign (.c (.str [])), (some 2), none⟩,
 ⟨.assign (.c (.slice .nil 0 1 [])), (some 3), none⟩,
 ⟨.assign (.t 22), (some 4), none⟩,
 ⟨.assign (.c (.bool false)), (some 5), none⟩]
@[simp] def eq57_7 := id q57_7.eq_1
def q57_8 : List AOper :=
  [⟨.move .look (.p 5), (some 13), none⟩,
 ⟨.un .not (.p 13), (some 14), none⟩,
 ⟨.move .look (.p 14), (some 15), none⟩,
 ⟨.move .head (.t 0), (some 16), (some (15, false))⟩,
 ⟨.len false (.p 16), (some 17), (some (15, false))⟩,
 ⟨.move .look (.p 6), (some 18), (some (15, false))⟩,
 ⟨.convInt .i64 (.p 18), (some 19), (some (15, false))⟩,
 ⟨.bin .lss 1 false (.p 17) (.p 19), (some 20), (some (15, false))⟩,
 ⟨.pick (.p 15) (.c (.bool true)) (.p 20), (some 21), none⟩]
@[simp] def eq57_8 := id q57_8.eq_1
def q57_9 : List AOper :=
  [⟨.move .look (.t 0), (some 8), none⟩,
 ⟨.call 77 [(.t 8, false)], (some 9), none⟩,
 ⟨.move .look (.t 9), (some 7), none⟩,
 ⟨.extract 7 0, (some 10), none⟩,
 ⟨.extract 7 1, (some 11), none⟩,
 ⟨.extract 7 2, (some 12), none⟩,
 ⟨.assign (.p 10), (some 6), none⟩,
 ⟨.assign (.t 11), (some 4), none⟩,
 ⟨.assign (.p 12), (some 5), none⟩]
@[simp] def eq57_9 := id q57_9.eq_1
def q57_10 : List AOper :=
  [⟨.assign (.c (.str [])), (some 2), none⟩,
 ⟨.assign (.c (.slice .nil 0 1 [])), (some 3), none⟩,
 ⟨.assign (.c (.slice .nil 0 1 [])), (some 4), none⟩,
 ⟨.assign (.c (.bool false)), (some 5), none⟩]
@[simp] def eq57_10 := id q57_10.eq_1
def k57_0 : ACode :=
  .ops q57_0 .ret
@[simp] def xk57_0 := @xOps _ _ _ k57_0.eq_1
def k57_1 : ACode :=
  .ops q57_1 .ret
def k57_2 : ACode :=
  .cond (.p 39) k57_1 .skip
@[simp] def xk57_2 := @xCond _ _ _ _ k57_2.eq_1
def k57_3 : ACode :=
  .seq k57_2 k57_0
@[simp] def xk57_3 := @xSeq _ _ _ k57_3.eq_1
def k57_4 : ACode :=
  .ops q57_2 k57_3
@[simp] def xk57_4 := @xOps _ _ _ k57_4.eq_1
def k57_5 : ACode :=
  .ops q57_3 k57_4
@[simp] def xk57_5 := @xOps _ _ _ k57_5.eq_1
def k57_6 : ACode :=
  .ops q57_4 .ret
def k57_7 : ACode :=
  .cond (.p 30) k57_6 .skip
@[simp] def xk57_7 := @xCond _ _ _ _ k57_7.eq_1
def k57_8 : ACode :=
  .seq k57_7 k57_5
@[simp] def xk57_8 := @xSeq _ _ _ k57_8.eq_1
def k57_9 : ACode :=
  .ops q57_5 k57_8
@[simp] def xk57_9 := @xOps _ _ _ k57_9.eq_1
def k57_10 : ACode :=
  .ops q57_6 k57_9
@[simp] def xk57_10 := @xOps _ _ _ k57_10.eq_1
def k57_11 : ACode :=
  .ops q57_7 .ret
def k57_12 : ACode :=
  .cond (.p 21) k57_11 .skip
@[simp] def xk57_12 := @xCond _ _ _ _ k57_12.eq_1
def k57_13 : ACode :=
  .seq k57_12 k57_10
@[simp] def xk57_13 := @xSeq _ _ _ k57_13.eq_1
def k57_14 : ACode :=
  .ops q57_8 k57_13
@[simp] def xk57_14 := @xOps _ _ _ k57_14.eq_1
def k57_15 : ACode :=
  .ops q57_9 k57_14
@[simp] def xk57_15 := @xOps _ _ _ k57_15.eq_1
def k57_16 : ACode :=
  .ops q57_10 k57_15
@[simp] def xk57_16 := @xOps _ _ _ k57_16.eq_1
def af57 : AFunc := ⟨44, k57_16, [.tmp 2, .tmp 3, .tmp 4, .tmp 5], fun _ _ => none⟩

theorem ok57 : ∃ hs, pFunc Tryz.prog sg hs Tryz.f57 = some af57 := ⟨fun i => 0, by kernel_rfl⟩
def q34_0 : List AOper :=
  [⟨.move .take (.p 5), (some 22), none⟩,
 ⟨.move .take (.t 6), (some 23), none⟩,
 ⟨.assign (.p 22), (some 2), none⟩,
 ⟨.assign (.t 23), (some 3), none⟩,
 ⟨.assign (.c (.bool true)), (some 4), none⟩]
@[simp] def eq34_0 := id q34_0.eq_1
def q34_1 : List AOper :=
  [⟨.assign (.c (.str [])), (some 2), none⟩,
 ⟨.assign (.c (.slice .nil 0 1 [])), (some 3), none⟩,
 ⟨.assign (.c (.bool false)), (some 4), none⟩]
@[simp] def eq34_1 := id q34_1.eq_1
def q34_2 : List AOper :=
  [⟨.move .look (.p 8), (some 20), none⟩,
 ⟨.un .not (.p 20), (some 21), none⟩]
@[simp] def eq34_2 := id q34_2.eq_1
def q34_3 : List AOper :=
  [⟨.fieldAddr 1 (.p 1), (some 13), none⟩,
 ⟨.load .look false 1 (.p 13), (some 14), none⟩,
 ⟨.call 57 [(.t 14, false)], (some 15), none⟩,
 ⟨.move .look (.t 15), (some 12), none⟩,
 ⟨.extract 12 0, (some 16), none⟩,
 ⟨.extract 12 1, (some 17), none⟩,
 ⟨.extract 12 2, (some 18), none⟩,
 ⟨.extract 12 3, (some 19), none⟩,
 ⟨.assign (.p 16), (some 5), none⟩,
 ⟨.assign (.t 17), (some 6), none⟩,
 ⟨.assign (.t 18), (some 7), none⟩,
 ⟨.assign (.p 19), (some 8), none⟩]
@[simp] def eq34_3 := id q34_3.eq_1
def q34_4 : List AOper :=
  [⟨.assign (.c (.str [])), (some 2), none⟩,
 ⟨.assign (.c (.slice .nil 0 1 [])), (some 3), none⟩,
 ⟨.assign (.c (.bool false)), (some 4), none⟩]
@[simp] def eq34_4 := id q34_4.eq_1
def q34_5 : List AOper :=
  [⟨.fieldAddr 0 (.p 1), (some 9), none⟩,
 ⟨.load .head false 1 (.p 9), (some 10), none⟩,
 ⟨.bin .neq 1 true (.p 10) (.c (.int .u8 15)), (some 11), none⟩]
@[simp] def eq34_5 := id q34_5.eq_1
def q34_6 : List AOper :=
  [⟨.box 1 (.p 0), (some 1), none⟩,
 ⟨.assign (.c (.str [])), (some 2), none⟩,
 ⟨.assign (.c (.slice .nil 0 1 [])), (some 3), none⟩,
 ⟨.assign (.c (.bool false)), (some 4), none⟩]
@[simp] def eq34_6 := id q34_6.eq_1
def k34_0 : ACode :=
  .ops q34_0 .ret
@[simp] def xk34_0 := @xOps _ _ _ k34_0.eq_1
def k34_1 : ACode :=
  .ops q34_1 .ret
def k34_2 : ACode :=
  .cond (.p 21) k34_1 .skip
@[simp] def xk34_2 := @xCond _ _ _ _ k34_2.eq_1
def k34_3 : ACode :=
  .seq k34_2 k34_0
@[simp] def xk34_3 := @xSeq _ _ _ k34_3.eq_1
def k34_4 : ACode :=
  .ops q34_2 k34_3
@[simp] def xk34_4 := @xOps _ _ _ k34_4.eq_1
def k34_5 : ACode :=
  .ops q34_3 k34_4
@[simp] def xk34_5 := @xOps _ _ _ k34_5.eq_1
def k34_6 : ACode :=
  .ops q34_4 .ret
@[simp] def xk34_6 := @xOps _ _ _ k34_6.eq_1
def k34_7 : ACode :=
  .cond (.p 11) k34_6 .skip
@[simp] def xk34_7 := @xCond _ _ _ _ k34_7.eq_1
def k34_8 : ACode :=
  .seq k34_7 k34_5
@[simp] def xk34_8 := @xSeq _ _ _ k34_8.eq_1
def k34_9 : ACode :=
  .ops q34_5 k34_8
@[simp] def xk34_9 := @xOps _ _ _ k34_9.eq_1
def k34_10 : ACode :=
  .ops q34_6 k34_9
@[simp] def xk34_10 := @xOps _ _ _ k34_10.eq_1
def af34 : AFunc := ⟨24, k34_10, [.tmp 2, .tmp 3, .tmp 4], fun _ _ => none⟩

theorem ok34 : ∃ hs, pFunc Tryz.prog sg hs Tryz.f34 = some af34 := ⟨fun i => 0, by kernel_rfl⟩
def q58_0 : List AOper :=
  [⟨.move .look (.t 0), (some 5), none⟩,
 ⟨.call 80 [(.t 5, false)], (some 6), none⟩,
 ⟨.extract 6 0, (some 7), none⟩,
 ⟨.extract 6 1, (some 8), none⟩,
 ⟨.extract 6 2, (some 9), none⟩,
 ⟨.assign (.p 7), (some 2), none⟩,
 ⟨.assign (.t 8), (some 3), none⟩,
 ⟨.assign (.p 9), (some 4), none⟩]
@[simp] def eq58_0 := id q58_0.eq_1
def q58_1 : List AOper :=
  [⟨.assign (.c (.int .i32 0)), (some 2), none⟩,
 ⟨.assign (.c (.slice .nil 0 1 [])), (some 3), none⟩,
 ⟨.assign (.c (.bool false)), (some 4), none⟩]
@[simp] def eq58_1 := id q58_1.eq_1
def k58_0 : ACode :=
  .ops q58_0 .ret
@[simp] def xk58_0 := @xOps _ _ _ k58_0.eq_1
def k58_1 : ACode :=
  .ops q58_1 k58_0
@[simp] def xk58_1 := @xOps _ _ _ k58_1.eq_1
def af58 : AFunc := ⟨10, k58_1, [.tmp 2, .tmp 3, .tmp 4], fun _ _ => none⟩

theorem ok58 : ∃ hs, pFunc Tryz.prog sg hs Tryz.f58 = some af58 := ⟨fun i => 0, by kernel_rfl⟩
def q35_0 : List AOper :=
  [⟨.move .take (.p 4), (some 19), none⟩,
 ⟨.assign (.p 19), (some 2), none⟩,
 ⟨.assign (.c (.bool true)), (some 3), none⟩]
@[simp] def eq35_0 := id q35_0.eq_1
def q35_1 : List AOper :=
  [⟨.assign (.c (.int .i32 0)), (some 2), none⟩,
 ⟨.assign (.c (.bool false)), (some 3), none⟩]
@[simp] def eq35_1 := id q35_1.eq_1
def q35_2 : List AOper :=
  [⟨.move .look (.p 6), (some 17), none⟩,
 ⟨.un .not (.p 17), (some 18), none⟩]
@[simp] def eq35_2 := id q35_2.eq_1
def q35_3 : List AOper :=
  [⟨.fieldAddr 1 (.p 1), (some 11), none⟩,
 ⟨.load .look false 1 (.p 11), (some 12), none⟩,
 ⟨.call 58 [(.t 12, false)], (some 13), none⟩,
 ⟨.move .look (.t 13), (some 10), none⟩,
 ⟨.extract 10 0, (some 14), none⟩,
 ⟨.extract 10 1, (some 15), none⟩,
 ⟨.extract 10 2, (some 16), none⟩,
 ⟨.assign (.p 14), (some 4), none⟩,
 ⟨.assign (.t 15), (some 5), none⟩,
 ⟨.assign (.p 16), (some 6), none⟩]
@[simp] def eq35_3 := id q35_3.eq_1
def q35_4 : List AOper :=
  [⟨.assign (.c (.int .i32 0)), (some 2), none⟩,
 ⟨.assign (.c (.bool false)), (some 3), none⟩]
@[simp] def eq35_4 := id q35_4.eq_1
def q35_5 : List AOper :=
  [⟨.fieldAddr 0 (.p 1), (some 7), none⟩,
 ⟨.load .head false 1 (.p 7), (some 8), none⟩,
 ⟨.bin .neq 1 true (.p 8) (.c (.int .u8 16)), (some 9), none⟩]
@[simp] def eq35_5 := id q35_5.eq_1
def q35_6 : List AOper :=
  [⟨.box 1 (.p 0), (some 1), none⟩,
 ⟨.assign (.c (.int .i32 0)), (some 2), none⟩,
 ⟨.assign (.c (.bool false)), (some 3), none⟩]
@[simp] def eq35_6 := id q35_6.eq_1
def k35_0 : ACode :=
  .ops q35_0 .ret
@[simp] def xk35_0 := @xOps _ _ _ k35_0.eq_1
def k35_1 : ACode :=
  .ops q35_1 .ret
@[simp] def xk35_1 := @xOps _ _ _ k35_1.eq_1
def k35_2 : ACode :=
  .cond (.p 18) k35_1 .skip
@[simp] def xk35_2 := @xCond _ _ _ _ k35_2.eq_1
def k35_3 : ACode :=
  .seq k35_2 k35_0
@[simp] def xk35_3 := @xSeq _ _ _ k35_3.eq_1
def k35_4 : ACode :=
  .ops q35_2 k35_3
@[simp] def xk35_4 := @xOps _ _ _ k35_4.eq_1
def k35_5 : ACode :=
  .ops q35_3 k35_4
@[simp] def xk35_5 := @xOps _ _ _ k35_5.eq_1
def k35_6 : ACode :=
  .ops q35_4 .ret
@[simp] def xk35_6 := @xOps _ _ _ k35_6.eq_1
def k35_7 : ACode :=
  .cond (.p 9) k35_6 .skip
@[simp] def xk35_7 := @xCond _ _ _ _ k35_7.eq_1
def k35_8 : ACode :=
  .seq k35_7 k35_5
@[simp] def xk35_8 := @xSeq _ _ _ k35_8.eq_1
def k35_9 : ACode :=
  .ops q35_5 k35_8
@[simp] def xk35_9 := @xOps _ _ _ k35_9.eq_1
def k35_10 : ACode :=
  .ops q35_6 k35_9
@[simp] def xk35_10 := @xOps _ _ _ k35_10.eq_1
def af35 : AFunc := ⟨20, k35_10, [.tmp 2, .tmp 3], fun _ _ => none⟩

theorem ok35 : ∃ hs, pFunc Tryz.prog sg hs Tryz.f35 = some af35 := ⟨fun i => 0, by kernel_rfl⟩
def q124_0 : List AOper :=
  [⟨.move .look (.t 1), (some 8), none⟩,
 ⟨.indexAddr 1 (.t 8) (.c (.int .i64 0)), (some 9), none⟩,
 ⟨.load .look false 1 (.p 9), (some 10), none⟩,
 ⟨.convInt .u32 (.p 10), (some 11), none⟩,
 ⟨.move .look (.t 1), (some 12), none⟩,
 ⟨.indexAddr 1 (.t 12) (.c (.int .i64 1)), (some 13), none⟩,
 ⟨.load .look false 1 (.p 13), (some 14), none⟩,
 ⟨.convInt .u32 (.p 14), (some 15), none⟩,
 ⟨.bin .shl 1 true (.p 15) (.c (.int .u64 8)), (some 16), none⟩,
 ⟨.bin .or 1 false (.p 11) (.p 16), (some 17), none⟩,
 ⟨.move .look (.t 1), (some 18), none⟩,
 ⟨.indexAddr 1 (.t 18) (.c (.int .i64 2)), (some 19), none⟩,
 ⟨.load .look false 1 (.p 19), (some 20), none⟩,
 ⟨.convInt .u32 (.p 20), (some 21), none⟩,
 ⟨.bin .shl 1 true (.p 21) (.c (.int .u64 16)), (some 22), none⟩,
 ⟨.bin .or 1 false (.p 17) (.p 22), (some 23), none⟩,
 ⟨.move .look (.t 1), (some 24), none⟩,
 ⟨.indexAddr 1 (.t 24) (.c (.int .i64 3)), (some 25), none⟩,
 ⟨.load .look false 1 (.p 25), (some 26), none⟩,
 ⟨.convInt .u32 (.p 26), (some 27), none⟩,
 ⟨.bin .shl 1 true (.p 27) (.c (.int .u64 24)), (some 28), none⟩,
 ⟨.bin .or 1 false (.p 23) (.p 28), (some 29), none⟩,
 ⟨.assign (.p 29), (some 4), none⟩]
@[simp] def eq124_0 := id q124_0.eq_1
def q124_1 : List AOper :=
  [⟨.move .look (.t 1), (some 5), none⟩,
 ⟨.indexAddr 1 (.t 5) (.c (.int .i64 3)), (some 6), none⟩,
 ⟨.load .head false 1 (.p 6), (some 7), none⟩]
@[simp] def eq124_1 := id q124_1.eq_1
def q124_2 : List AOper :=
  [⟨.box 2 (.p 0), (some 2), none⟩,
 ⟨.assign (.c (.int .u32 0)), (some 4), none⟩]
@[simp] def eq124_2 := id q124_2.eq_1
def k124_0 : ACode :=
  .ops q124_0 .ret
@[simp] def xk124_0 := @xOps _ _ _ k124_0.eq_1
def k124_1 : ACode :=
  .ops q124_1 k124_0
@[simp] def xk124_1 := @xOps _ _ _ k124_1.eq_1
def k124_2 : ACode :=
  .ops q124_2 k124_1
@[simp] def xk124_2 := @xOps _ _ _ k124_2.eq_1
def af124 : AFunc := ⟨30, k124_2, [.tmp 4], fun _ _ => none⟩

theorem ok124 : ∃ hs, pFunc Tryz.prog sg hs Tryz.f124 = some af124 := ⟨fun i => 0, by kernel_rfl⟩
def q81_0 : List AOper :=
  [⟨.load .look true 0 (.c (.gl 5)), (some 9), none⟩,
 ⟨.move .look (.t 0), (some 10), none⟩,
 ⟨.move .look (.t 0), (some 12), none⟩,
 ⟨.sliceSl 1 (.t 12) (some (.c (.int .i64 4))) none, (some 13), none⟩,
 ⟨.call 124 [(.p 9, false), (.t 10, false)], (some 11), none⟩,
 ⟨.assign (.p 11), (some 2), none⟩,
 ⟨.assign (.t 13), (some 3), none⟩,
 ⟨.assign (.c (.bool true)), (some 4), none⟩]
@[simp] def eq81_0 := id q81_0.eq_1
def q81_1 : List AOper :=
  [⟨.move .take (.t 0), (some 8), none⟩,
 ⟨.assign (.c (.int .u32 0)), (some 2), none⟩,
 ⟨.assign (.t 8), (some 3), none⟩,
 ⟨.assign (.c (.bool false)), (some 4), none⟩]
@[simp] def eq81_1 := id q81_1.eq_1
def q81_2 : List AOper :=
  [⟨.move .head (.t 0), (some 5), none⟩,
 ⟨.len false (.p 5), (some 6), none⟩,
 ⟨.bin .lss 1 true (.p 6) (.c (.int .i64 4)), (some 7), none⟩]
@[simp] def eq81_2 := id q81_2.eq_1
def q81_3 : List AOper :=
  [⟨.assign (.c (.int .u32 0)), (some 2), none⟩,
 ⟨.assign (.c (.slice .nil 0 1 [])), (some 3), none⟩,
 ⟨.assign (.c (.bool false)), (some 4), none⟩]
@[simp] def eq81_3 := id q81_3.eq_1
def k81_0 : ACode :=
  .ops q81_0 .ret
@[simp] def xk81_0 := @xOps _ _ _ k81_0.eq_1
def k81_1 : ACode :=
  .ops q81_1 .ret
@[simp] def xk81_1 := @xOps _ _ _ k81_1.eq_1
def k81_2 : ACode :=
  .cond (.p 7) k81_1 .skip
@[simp] def xk81_2 := @xCond _ _ _ _ k81_2.eq_1
def k81_3 : ACode :=
  .seq k81_2 k81_0
@[simp] def xk81_3 := @xSeq _ _ _ k81_3.eq_1
def k81_4 : ACode :=
  .ops q81_2 k81_3
@[simp] def xk81_4 := @xOps _ _ _ k81_4.eq_1
def k81_5 : ACode :=
  .ops q81_3 k81_4
@[simp] def xk81_5 := @xOps _ _ _ k81_5.eq_1
def af81 : AFunc := ⟨14, k81_5, [.tmp 2, .tmp 3, .tmp 4], fun _ _ => none⟩

theorem ok81 : ∃ hs, pFunc Tryz.prog sg hs Tryz.f81 = some af81 := ⟨fun i => 0, by kernel_rfl⟩
def q59_0 : List AOper :=
  [⟨.move .take (.p 2), (some 24), none⟩,
 ⟨.move .take (.p 3), (some 25), none⟩,
 ⟨.move .take (.t 4), (some 26), none⟩,
 ⟨.assign (.p 24), (some 2), none⟩,
 ⟨.assign (.p 25), (some 3), none⟩,
 ⟨.assign (.t 26), (some 4), none⟩,
 ⟨.assign (.c (.bool true)), (some 5), none⟩]
@[simp] def eq59_0 := id q59_0.eq_1
def q59_1 : List AOper :=
  [⟨.move .take (.t 0), (some 23), none⟩,
 ⟨.assign (.c (.int .u32 0)), (some 2), none⟩,
 ⟨.assign (.c (.int .u32 0)), (some 3), none⟩,
 ⟨.assign (.t 23), (some 4), none⟩,
 ⟨.assign (.c (.bool false)), (some 5), none⟩]
@[simp] def eq59_1 := id q59_1.eq_1
def q59_2 : List AOper :=
  [⟨.move .look (.p 5), (some 21), none⟩,
 ⟨.un .not (.p 21), (some 22), none⟩]
@[simp] def eq59_2 := id q59_2.eq_1
def q59_3 : List AOper :=
  [⟨.move .look (.t 4), (some 16), none⟩,
 ⟨.call 81 [(.t 16, false)], (some 17), none⟩,
 ⟨.move .look (.t 17), (some 15), none⟩,
 ⟨.extract 15 0, (some 18), none⟩,
 ⟨.extract 15 1, (some 19), none⟩,
 ⟨.extract 15 2, (some 20), none⟩,
 ⟨.assign (.p 18), (some 2), none⟩,
 ⟨.assign (.t 19), (some 4), none⟩,
 ⟨.assign (.p 20), (some 5), none⟩]
@[simp] def eq59_3 := id q59_3.eq_1
def q59_4 : List AOper :=
  [⟨.move .take (.t 0), (some 14), none⟩,
 ⟨.assign (.c (.int .u32 0)), (some 2), none⟩,
 ⟨.assign (.c (.int .u32 0)), (some 3), none⟩,
 ⟨.assign (.t 14), (some 4), none⟩,
 ⟨.assign (.c (.bool false)), (some 5), none⟩]
@[simp] def eq59_4 := id q59_4.eq_1
def q59_5 : List AOper :=
  [⟨.move .look (.p 5), (some 12), none⟩,
 ⟨.un .not (.p 12), (some 13), none⟩]
@[simp] def eq59_5 := id q59_5.eq_1
def q59_6 : List AOper :=
  [⟨.move .look (.t 0), (some 7), none⟩,
 ⟨.call 81 [(.t 7, false)], (some 8), none⟩,
 ⟨.move .look (.t 8), (some 6), none⟩,
 ⟨.extract 6 0, (some 9), none⟩,
 ⟨.extract 6 1, (some 10), none⟩,
 ⟨.extract 6 2, (some 11), none⟩,
 ⟨.assign (.p 9), (some 3), none⟩,
 ⟨.assign (.t 10), (some 4), none⟩,
 ⟨.assign (.p 11), (some 5), none⟩]
@[simp] def eq59_6 := id q59_6.eq_1
def q59_7 : List AOper :=
  [⟨.assign (.c (.int .u32 0)), (some 2), none⟩,
 ⟨.assign (.c (.int .u32 0)), (some 3), none⟩,
 ⟨.assign (.c (.slice .nil 0 1 [])), (some 4), none⟩,
 ⟨.assign (.c (.bool false)), (some 5), none⟩]
@[simp] def eq59_7 := id q59_7.eq_1
def k59_0 : ACode :=
  .ops q59_0 .ret
@[simp] def xk59_0 := @xOps _ _ _ k59_0.eq_1
def k59_1 : ACode :=
  .ops q59_1 .ret
@[simp] def xk59_1 := @xOps _ _ _ k59_1.eq_1
def k59_2 : ACode :=
  .cond (.p 22) k59_1 .skip
@[simp] def xk59_2 := @xCond _ _ _ _ k59_2.eq_1
def k59_3 : ACode :=
  .seq k59_2 k59_0
@[simp] def xk59_3 := @xSeq _ _ _ k59_3.eq_1
def k59_4 : ACode :=
  .ops q59_2 k59_3
@[simp] def xk59_4 := @xOps _ _ _ k59_4.eq_1
def k59_5 : ACode :=
  .ops q59_3 k59_4
@[simp] def xk59_5 := @xOps _ _ _ k59_5.eq_1
def k59_6 : ACode :=
  .ops q59_4 .ret
@[simp] def xk59_6 := @xOps _ _ _ k59_6.eq_1
def k59_7 : ACode :=
  .cond (.p 13) k59_6 .skip
@[simp] def xk59_7 := @xCond _ _ _ _ k59_7.eq_1
def k59_8 : ACode :=
  .seq k59_7 k59_5
@[simp] def xk59_8 := @xSeq _ _ _ k59_8.eq_1
def k59_9 : ACode :=
  .ops q59_5 k59_8
@[simp] def xk59_9 := @xOps _ _ _ k59_9.eq_1
def k59_10 : ACode :=
  .ops q59_6 k59_9
@[simp] def xk59_10 := @xOps _ _ _ k59_10.eq_1
def k59_11 : ACode :=
  .ops q59_7 k59_10
@[simp] def xk59_11 := @xOps _ _ _ k59_11.eq_1
def af59 : AFunc := ⟨27, k59_11, [.tmp 2, .tmp 3, .tmp 4, .tmp 5], fun _ _ => none⟩

theorem ok59 : ∃ hs, pFunc Tryz.prog sg hs Tryz.f59 = some af59 := ⟨fun i => 0, by kernel_rfl⟩
def q36_0 : List AOper :=
  [⟨.move .take (.p 2), (some 18), none⟩,
 ⟨.move .take (.p 3), (some 19), none⟩,
 ⟨.assign (.p 18), (some 2), none⟩,
 ⟨.assign (.p 19), (some 3), none⟩,
 ⟨.assign (.c (.bool true)), (some 4), none⟩]
@[simp] def eq36_0 := id q36_0.eq_1
def q36_1 : List AOper :=
  [⟨.assign (.c (.int .u32 0)), (some 2), none⟩,
 ⟨.assign (.c (.int .u32 0)), (some 3), none⟩,
 ⟨.assign (.c (.bool false)), (some 4), none⟩]
@[simp] def eq36_1 := id q36_1.eq_1
def q36_2 : List AOper :=
  [⟨.move .look (.p 4), (some 16), none⟩,
 ⟨.un .not (.p 16), (some 17), none⟩]
@[simp] def eq36_2 := id q36_2.eq_1
def q36_3 : List AOper :=
  [⟨.fieldAddr 1 (.p 1), (some 9), none⟩,
 ⟨.load .look false 1 (.p 9), (some 10), none⟩,
 ⟨.call 59 [(.t 10, false)], (some 11), none⟩,
 ⟨.move .look (.t 11), (some 8), none⟩,
 ⟨.extract 8 0, (some 12), none⟩,
 ⟨.extract 8 1, (some 13), none⟩,
 ⟨.extract 8 2, (some 14), none⟩,
 ⟨.extract 8 3, (some 15), none⟩,
 ⟨.assign (.p 12), (some 2), none⟩,
 ⟨.assign (.p 13), (some 3), none⟩,
 ⟨.assign (.p 15), (some 4), none⟩]
@[simp] def eq36_3 := id q36_3.eq_1
def q36_4 : List AOper :=
  [⟨.assign (.c (.int .u32 0)), (some 2), none⟩,
 ⟨.assign (.c (.int .u32 0)), (some 3), none⟩,
 ⟨.assign (.c (.bool false)), (some 4), none⟩]
@[simp] def eq36_4 := id q36_4.eq_1
def q36_5 : List AOper :=
  [⟨.fieldAddr 0 (.p 1), (some 5), none⟩,
 ⟨.load .head false 1 (.p 5), (some 6), none⟩,
 ⟨.bin .neq 1 true (.p 6) (.c (.int .u8 17)), (some 7), none⟩]
@[simp] def eq36_5 := id q36_5.eq_1
def q36_6 : List AOper :=
  [⟨.box 1 (.p 0), (some 1), none⟩,
 ⟨.assign (.c (.int .u32 0)), (some 2), none⟩,
 ⟨.assign (.c (.int .u32 0)), (some 3), none⟩,
 ⟨.assign (.c (.bool false)), (some 4), none⟩]
@[simp] def eq36_6 := id q36_6.eq_1
def k36_0 : ACode :=
  .ops q36_0 .ret
@[simp] def xk36_0 := @xOps _ _ _ k36_0.eq_1
def k36_1 : ACode :=
  .ops q36_1 .ret
@[simp] def xk36_1 := @xOps _ _ _ k36_1.eq_1
def k36_2 : ACode :=
  .cond (.p 17) k36_1 .skip
@[simp] def xk36_2 := @xCond _ _ _ _ k36_2.eq_1
def k36_3 : ACode :=
  .seq k36_2 k36_0
@[simp] def xk36_3 := @xSeq _ _ _ k36_3.eq_1
def k36_4 : ACode :=
  .ops q36_2 k36_3
@[simp] def xk36_4 := @xOps _ _ _ k36_4.eq_1
def k36_5 : ACode :=
  .ops q36_3 k36_4
@[simp] def xk36_5 := @xOps _ _ _ k36_5.eq_1
def k36_6 : ACode :=
  .ops q36_4 .ret
@[simp] def xk36_6 := @xOps _ _ _ k36_6.eq_1
def k36_7 : ACode :=
  .cond (.p 7) k36_6 .skip
@[simp] def xk36_7 := @xCond _ _ _ _ k36_7.eq_1
def k36_8 : ACode :=
  .seq k36_7 k36_5
@[simp] def xk36_8 := @xSeq _ _ _ k36_8.eq_1
def k36_9 : ACode :=
  .ops q36_5 k36_8
@[simp] def xk36_9 := @xOps _ _ _ k36_9.eq_1
def k36_10 : ACode :=
  .ops q36_6 k36_9
@[simp] def xk36_10 := @xOps _ _ _ k36_10.eq_1
def af36 : AFunc := ⟨20, k36_10, [.tmp 2, .tmp 3, .tmp 4], fun _ _ => none⟩

theorem ok36 : ∃ hs, pFunc Tryz.prog sg hs Tryz.f36 = some af36 := ⟨fun i => 0, by kernel_rfl⟩
def q60_0 : List AOper :=
  [⟨.move .look (.t 0), (some 5), none⟩,
 ⟨.call 78 [(.t 5, false)], (some 6), none⟩,
 ⟨.extract 6 0, (some 7), none⟩,
 ⟨.extract 6 1, (some 8), none⟩,
 ⟨.extract 6 2, (some 9), none⟩,
 ⟨.assign (.p 7), (some 2), none⟩,
 ⟨.assign (.t 8), (some 3), none⟩,
 ⟨.assign (.p 9), (some 4), none⟩]
@[simp] def eq60_0 := id q60_0.eq_1
def q60_1 : List AOper :=
  [⟨.assign (.c (.int .i64 0)), (some 2), none⟩,
 ⟨.assign (.c (.slice .nil 0 1 [])), (some 3), none⟩,
 ⟨.assign (.c (.bool false)), (some 4), none⟩]
@[simp] def eq60_1 := id q60_1.eq_1
def k60_0 : ACode :=
  .ops q60_0 .ret
@[simp] def xk60_0 := @xOps _ _ _ k60_0.eq_1
def k60_1 : ACode :=
  .ops q60_1 k60_0
@[simp] def xk60_1 := @xOps _ _ _ k60_1.eq_1
def af60 : AFunc := ⟨10, k60_1, [.tmp 2, .tmp 3, .tmp 4], fun _ _ => none⟩

theorem ok60 : ∃ hs, pFunc Tryz.prog sg hs Tryz.f60 = some af60 := ⟨fun i => 0, by kernel_rfl⟩
def q37_0 : List AOper :=
  [⟨.move .take (.p 4), (some 19), none⟩,
 ⟨.assign (.p 19), (some 2), none⟩,
 ⟨.assign (.c (.bool true)), (some 3), none⟩]
@[simp] def eq37_0 := id q37_0.eq_1
def q37_1 : List AOper :=
  [⟨.assign (.c (.int .i64 0)), (some 2), none⟩,
 ⟨.assign (.c (.bool false)), (some 3), none⟩]
@[simp] def eq37_1 := id q37_1.eq_1
def q37_2 : List AOper :=
  [⟨.move .look (.p 6), (some 17), none⟩,
 ⟨.un .not (.p 17), (some 18), none⟩]
@[simp] def eq37_2 := id q37_2.eq_1
def q37_3 : List AOper :=
  [⟨.fieldAddr 1 (.p 1), (some 11), none⟩,
 ⟨.load .look false 1 (.p 11), (some 12), none⟩,
 ⟨.call 60 [(.t 12, false)], (some 13), none⟩,
 ⟨.move .look (.t 13), (some 10), none⟩,
 ⟨.extract 10 0, (some 14), none⟩,
 ⟨.extract 10 1, (some 15), none⟩,
 ⟨.extract 10 2, (some 16), none⟩,
 ⟨.assign (.p 14), (some 4), none⟩,
 ⟨.assign (.t 15), (some 5), none⟩,
 ⟨.assign (.p 16), (some 6), none⟩]
@[simp] def eq37_3 := id q37_3.eq_1
def q37_4 : List AOper :=
  [⟨.assign (.c (.int .i64 0)), (some 2), none⟩,
 ⟨.assign (.c (.bool false)), (some 3), none⟩]
@[simp] def eq37_4 := id q37_4.eq_1
def q37_5 : List AOper :=
  [⟨.fieldAddr 0 (.p 1), (some 7), none⟩,
 ⟨.load .head false 1 (.p 7), (some 8), none⟩,
 ⟨.bin .neq 1 true (.p 8) (.c (.int .u8 18)), (some 9), none⟩]
@[simp] def eq37_5 := id q37_5.eq_1
def q37_6 : List AOper :=
  [⟨.box 1 (.p 0), (some 1), none⟩,
 ⟨.assign (.c (.int .i64 0)), (some 2), none⟩,
 ⟨.assign (.c (.bool false)), (some 3), none⟩]
@[simp] def eq37_6 := id q37_6.eq_1
def k37_0 : ACode :=
  .ops q37_0 .ret
@[simp] def xk37_0 := @xOps _ _ _ k37_0.eq_1
def k37_1 : ACode :=
  .ops q37_1 .ret
@[simp] def xk37_1 := @xOps _ _ _ k37_1.eq_1
def k37_2 : ACode :=
  .cond (.p 18) k37_1 .skip
@[simp] def xk37_2 := @xCond _ _ _ _ k37_2.eq_1
def k37_3 : ACode :=
  .seq k37_2 k37_0
@[simp] def xk37_3 := @xSeq _ _ _ k37_3.eq_1
def k37_4 : ACode :=
  .ops q37_2 k37_3
@[simp] def xk37_4 := @xOps _ _ _ k37_4.eq_1
def k37_5 : ACode :=
  .ops q37_3 k37_4
@[simp] def xk37_5 := @xOps _ _ _ k37_5.eq_1
def k37_6 : ACode :=
  .ops q37_4 .ret
@[simp] def xk37_6 := @xOps _ _ _ k37_6.eq_1
def k37_7 : ACode :=
  .cond (.p 9) k37_6 .skip
@[simp] def xk37_7 := @xCond _ _ _ _ k37_7.eq_1
def k37_8 : ACode :=
  .seq k37_7 k37_5
@[simp] def xk37_8 := @xSeq _ _ _ k37_8.eq_1
def k37_9 : ACode :=
  .ops q37_5 k37_8
@[simp] def xk37_9 := @xOps _ _ _ k37_9.eq_1
def k37_10 : ACode :=
  .ops q37_6 k37_9
@[simp] def xk37_10 := @xOps _ _ _ k37_10.eq_1
def af37 : AFunc := ⟨20, k37_10, [.tmp 2, .tmp 3], fun _ _ => none⟩

theorem ok37 : ∃ hs, pFunc Tryz.prog sg hs Tryz.f37 = some af37 := ⟨fun i => 0, by kernel_rfl⟩
def q61_0 : List AOper :=
  [⟨.move .take (.p 2), (some 24), none⟩,
 ⟨.move .take (.p 3), (some 25), none⟩,
 ⟨.move .take (.t 4), (some 26), none⟩,
 ⟨.assign (.p 24), (some 2), none⟩,
 ⟨.assign (.p 25), (some 3), none⟩,
 ⟨.assign (.t 26), (some 4), none⟩,
 ⟨.assign (.c (.bool true)), (some 5), none⟩]
@[simp] def eq61_0 := id q61_0.eq_1
def q61_1 : List AOper :=
  [⟨.move .take (.t 0), (some 23), none⟩,
 ⟨.assign (.c (.int .u64 0)), (some 2), none⟩,
 ⟨.assign (.c (.int .u64 0)), (some 3), none⟩,
 ⟨.assign (.t 23), (some 4), none⟩,
 ⟨.assign (.c (.bool false)), (some 5), none⟩]
@[simp] def eq61_1 := id q61_1.eq_1
def q61_2 : List AOper :=
  [⟨.move .look (.p 5), (some 21), none⟩,
 ⟨.un .not (.p 21), (some 22), none⟩]
@[simp] def eq61_2 := id q61_2.eq_1
def q61_3 : List AOper :=
  [⟨.move .look (.t 4), (some 16), none⟩,
 ⟨.call 73 [(.t 16, false)], (some 17), none⟩,
 ⟨.move .look (.t 17), (some 15), none⟩,
 ⟨.extract 15 0, (some 18), none⟩,
 ⟨.extract 15 1, (some 19), none⟩,
 ⟨.extract 15 2, (some 20), none⟩,
 ⟨.assign (.p 18), (some 2), none⟩,
 ⟨.assign (.t 19), (some 4), none⟩,
 ⟨.assign (.p 20), (some 5), none⟩]
@[simp] def eq61_3 := id q61_3.eq_1
def q61_4 : List AOper :=
  [⟨.move .take (.t 0), (some 14), none⟩,
 ⟨.assign (.c (.int .u64 0)), (some 2), none⟩,
 ⟨.assign (.c (.int .u64 0)), (some 3), none⟩,
 ⟨.assign (.t 14), (some 4), none⟩,
 ⟨.assign (.c (.bool false)), (some 5), none⟩]
@[simp] def eq61_4 := id q61_4.eq_1
def q61_5 : List AOper :=
  [⟨.move .look (.p 5), (some 12), none⟩,
 ⟨.un .not (.p 12), (some 13), none⟩]
@[simp] def eq61_5 := id q61_5.eq_1
def q61_6 : List AOper :=
  [⟨.move .look (.t 0), (some 7), none⟩,
 ⟨.call 73 [(.t 7, false)], (some 8), none⟩,
 ⟨.move .look (.t 8), (some 6), none⟩,
 ⟨.extract 6 0, (some 9), none⟩,
 ⟨.extract 6 1, (some 10), none⟩,
 ⟨.extract 6 2, (some 11), none⟩,
 ⟨.assign (.p 9), (some 3), none⟩,
 ⟨.assign (.t 10), (some 4), none⟩,
 ⟨.assign (.p 11), (some 5), none⟩]
@[simp] def eq61_6 := id q61_6.eq_1
def q61_7 : List AOper :=
  [⟨.assign (.c (.int .u64 0)), (some 2), none⟩,
 ⟨.assign (.c (.int .u64 0)), (some 3), none⟩,
 ⟨.assign (.c (.slice .nil 0 1 [])), (some 4), none⟩,
 ⟨.assign (.c (.bool false)), (some 5), none⟩]
@[simp] def eq61_7 := id q61_7.eq_1
def k61_0 : ACode :=
  .ops q61_0 .ret
@[simp] def xk61_0 := @xOps _ _ _ k61_0.eq_1
def k61_1 : ACode :=
  .ops q61_1 .ret
@[simp] def xk61_1 := @xOps _ _ _ k61_1.eq_1
def k61_2 : ACode :=
  .cond (.p 22) k61_1 .skip
@[simp] def xk61_2 := @xCond _ _ _ _ k61_2.eq_1
def k61_3 : ACode :=
  .seq k61_2 k61_0
@[simp] def xk61_3 := @xSeq _ _ _ k61_3.eq_1
def k61_4 : ACode :=
  .ops q61_2 k61_3
@[simp] def xk61_4 := @xOps _ _ _ k61_4.eq_1
def k61_5 : ACode :=
  .ops q61_3 k61_4
@[simp] def xk61_5 := @xOps _ _ _ k61_5.eq_1
def k61_6 : ACode :=
  .ops q61_4 .ret
@[simp] def xk61_6 := @xOps _ _ _ k61_6.eq_1
def k61_7 : ACode :=
  .cond (.p 13) k61_6 .skip
@[simp] def xk61_7 := @xCond _ _ _ _ k61_7.eq_1
def k61_8 : ACode :=
  .seq k61_7 k61_5
@[simp] def xk61_8 := @xSeq _ _ _ k61_8.eq_1
def k61_9 : ACode :=
  .ops q61_5 k61_8
@[simp] def xk61_9 := @xOps _ _ _ k61_9.eq_1
def k61_10 : ACode :=
  .ops q61_6 k61_9
@[simp] def xk61_10 := @xOps _ _ _ k61_10.eq_1
def k61_11 : ACode :=
  .ops q61_7 k61_10
@[simp] def xk61_11 := @xOps _ _ _ k61_11.eq_1
def af61 : AFunc := ⟨27, k61_11, [.tmp 2, .tmp 3, .tmp 4, .tmp 5], fun _ _ => none⟩

theorem ok61 : ∃ hs, pFunc Tryz.prog sg hs Tryz.f61 = some af61 := ⟨fun i => 0, by kernel_rfl⟩
def q38_0 : List AOper :=
  [⟨.move .take (.p 5), (some 22), none⟩,
 ⟨.move .take (.p 6), (some 23), none⟩,
 ⟨.assign (.p 22), (some 2), none⟩,
 ⟨.assign (.p 23), (some 3), none⟩,
 ⟨.assign (.c (.bool true)), (some 4), none⟩]
@[simp] def eq38_0 := id q38_0.eq_1
def q38_1 : List AOper :=
  [⟨.assign (.c (.int .u64 0)), (some 2), none⟩,
 ⟨.assign (.c (.int .u64 0)), (some 3), none⟩,
 ⟨.assign (.c (.bool false)), (some 4), none⟩]
@[simp] def eq38_1 := id q38_1.eq_1
def q38_2 : List AOper :=
  [⟨.move .look (.p 8), (some 20), none⟩,
 ⟨.un .not (.p 20), (some 21), none⟩]
@[simp] def eq38_2 := id q38_2.eq_1
def q38_3 : List AOper :=
  [⟨.fieldAddr 1 (.p 1), (some 13), none⟩,
 ⟨.load .look false 1 (.p 13), (some 14), none⟩,
 ⟨.call 61 [(.t 14, false)], (some 15), none⟩,
 ⟨.move .look (.t 15), (some 12), none⟩,
 ⟨.extract 12 0, (some 16), none⟩,
 ⟨.extract 12 1, (some 17), none⟩,
 ⟨.extract 12 2, (some 18), none⟩,
 ⟨.extract 12 3, (some 19), none⟩,
 ⟨.assign (.p 16), (some 5), none⟩,
 ⟨.assign (.p 17), (some 6), none⟩,
 ⟨.assign (.t 18), (some 7), none⟩,
 ⟨.assign (.p 19), (some 8), none⟩]
@[simp] def eq38_3 := id q38_3.eq_1
def q38_4 : List AOper :=
  [⟨.assign (.c (.int .u64 0)), (some 2), none⟩,
 ⟨.assign (.c (.int .u64 0)), (some 3), none⟩,
 ⟨.assign (.c (.bool false)), (some 4), none⟩]
@[simp] def eq38_4 := id q38_4.eq_1
def q38_5 : List AOper :=
  [⟨.fieldAddr 0 (.p 1), (some 9), none⟩,
 ⟨.load .head false 1 (.p 9), (some 10), none⟩,
 ⟨.bin .neq 1 true (.p 10) (.c (.int .u8 19)), (some 11), none⟩]
@[simp] def eq38_5 := id q38_5.eq_1
def q38_6 : List AOper :=
  [⟨.box 1 (.p 0), (some 1), none⟩,
 ⟨.assign (.c (.int .u64 0)), (some 2), none⟩,
 ⟨.assign (.c (.int .u64 0)), (some 3), none⟩,
 ⟨.assign (.c (.bool false)), (some 4), none⟩]
@[simp] def eq38_6 := id q38_6.eq_1
def k38_0 : ACode :=
  .ops q38_0 .ret
@[simp] def xk38_0 := @xOps _ _ _ k38_0.eq_1
def k38_1 : ACode :=
  .ops q38_1 .ret
@[simp] def xk38_1 := @xOps _ _ _ k38_1.eq_1
def k38_2 : ACode :=
  .cond (.p 21) k38_1 .skip
@[simp] def xk38_2 := @xCond _ _ _ _ k38_2.eq_1
def k38_3 : ACode :=
  .seq k38_2 k38_0
@[simp] def xk38_3 := @xSeq _ _ _ k38_3.eq_1
def k38_4 : ACode :=
  .ops q38_2 k38_3
@[simp] def xk38_4 := @xOps _ _ _ k38_4.eq_1
def k38_5 : ACode :=
  .ops q38_3 k38_4
@[simp] def xk38_5 := @xOps _ _ _ k38_5.eq_1
def k38_6 : ACode :=
  .ops q38_4 .ret
@[simp] def xk38_6 := @xOps _ _ _ k38_6.eq_1
def k38_7 : ACode :=
  .cond (.p 11) k38_6 .skip
@[simp] def xk38_7 := @xCond _ _ _ _ k38_7.eq_1
def k38_8 : ACode :=
  .seq k38_7 k38_5
@[simp] def xk38_8 := @xSeq _ _ _ k38_8.eq_1
def k38_9 : ACode :=
  .ops q38_5 k38_8
@[simp] def xk38_9 := @xOps _ _ _ k38_9.eq_1
def k38_10 : ACode :=
  .ops q38_6 k38_9
@[simp] def xk38_10 := @xOps _ _ _ k38_10.eq_1
def af38 : AFunc := ⟨24, k38_10, [.tmp 2, .tmp 3, .tmp 4], fun _ _ => none⟩

theorem ok38 : ∃ hs, pFunc Tryz.prog sg hs Tryz.f38 = some af38 := ⟨fun i => 0, by kernel_rfl⟩
def q10_0 : List AOper :=
  [⟨.load .take true 8 (.p 4), (some 201), none⟩,
 ⟨.move .take (.p 5), (some 202), none⟩,
 ⟨.store 8 (.p 4) (.p 201), none, none⟩,
 ⟨.assign (.p 202), (some 5), none⟩]
@[simp] def eq10_0 := id q10_0.eq_1
def q10_1 : List AOper :=
  [⟨.build [.int .i64 0, .str [], .str [], .int .i64 0, .int .u64 0, .int .u64 0, .slice .nil 0 1 [], .slice .nil 0 1 []] [], (some 200), none⟩,
 ⟨.store 8 (.p 4) (.p 200), none, none⟩]
@[simp] def eq10_1 := id q10_1.eq_1
def q10_2 : List AOper :=
  [⟨.move .look (.p 5), (some 198), none⟩,
 ⟨.un .not (.p 198), (some 199), none⟩]
@[simp] def eq10_2 := id q10_2.eq_1
def q10_3 : List AOper :=
  [⟨.move .look (.p 7), (some 30), none⟩,
 ⟨.px (.fb 0) [.p 30], (some 31), none⟩,
 ⟨.fieldAddr 4 (.p 4), (some 32), none⟩,
 ⟨.store 1 (.p 32) (.p 31), none, none⟩]
@[simp] def eq10_3 := id q10_3.eq_1
def q10_4 : List AOper :=
  [⟨.load .look true 2 (.p 6), (some 26), none⟩,
 ⟨.call 19 [(.p 26, false)], (some 27), none⟩,
 ⟨.move .look (.t 27), (some 25), none⟩,
 ⟨.extract 25 0, (some 28), none⟩,
 ⟨.extract 25 1, (some 29), none⟩,
 ⟨.assign (.p 28), (some 7), none⟩,
 ⟨.assign (.p 29), (some 5), none⟩]
@[simp] def eq10_4 := id q10_4.eq_1
def q10_5 : List AOper :=
  [⟨.load .look true 2 (.p 6), (some 36), none⟩,
 ⟨.call 21 [(.p 36, false)], (some 37), none⟩,
 ⟨.move .look (.t 37), (some 35), none⟩,
 ⟨.extract 35 0, (some 38), none⟩,
 ⟨.extract 35 1, (some 39), none⟩,
 ⟨.fieldAddr 1 (.p 4), (some 40), none⟩,
 ⟨.store 1 (.p 40) (.p 38), none, none⟩,
 ⟨.assign (.p 39), (some 5), none⟩]
@[simp] def eq10_5 := id q10_5.eq_1
def q10_6 : List AOper :=
  [⟨.move .look (.t 8), (some 48), none⟩,
 ⟨.call 23 [(.t 48, false)], (some 49), none⟩,
 ⟨.fieldAddr 6 (.p 4), (some 50), none⟩,
 ⟨.store 1 (.p 50) (.t 49), none, none⟩]
@[simp] def eq10_6 := id q10_6.eq_1
def q10_7 : List AOper :=
  [⟨.load .look true 2 (.p 6), (some 44), none⟩,
 ⟨.call 22 [(.p 44, false)], (some 45), none⟩,
 ⟨.move .look (.t 45), (some 43), none⟩,
 ⟨.extract 43 0, (some 46), none⟩,
 ⟨.extract 43 1, (some 47), none⟩,
 ⟨.assign (.t 46), (some 8), none⟩,
 ⟨.assign (.p 47), (some 5), none⟩]
@[simp] def eq10_7 := id q10_7.eq_1
def q10_8 : List AOper :=
  [⟨.move .look (.t 9), (some 58), none⟩,
 ⟨.call 23 [(.t 58, false)], (some 59), none⟩,
 ⟨.fieldAddr 6 (.p 4), (some 60), none⟩,
 ⟨.store 1 (.p 60) (.t 59), none, none⟩]
@[simp] def eq10_8 := id q10_8.eq_1
def q10_9 : List AOper :=
  [⟨.load .look true 2 (.p 6), (some 54), none⟩,
 ⟨.call 24 [(.p 54, false)], (some 55), none⟩,
 ⟨.move .look (.t 55), (some 53), none⟩,
 ⟨.extract 53 0, (some 56), none⟩,
 ⟨.extract 53 1, (some 57), none⟩,
 ⟨.assign (.t 56), (some 9), none⟩,
 ⟨.assign (.p 57), (some 5), none⟩]
@[simp] def eq10_9 := id q10_9.eq_1
def q10_10 : List AOper :=
  [⟨.move .look (.p 10), (some 70), none⟩,
 ⟨.convInt .i64 (.p 70), (some 71), none⟩,
 ⟨.fieldAddr 6 (.p 4), (some 72), none⟩,
 ⟨.load .look false 1 (.p 72), (some 73), none⟩,
 ⟨.call 23 [(.t 73, false)], (some 74), none⟩,
 ⟨.fieldAddr 3 (.p 4), (some 75), none⟩,
 ⟨.store 1 (.p 75) (.p 71), none, none⟩,
 ⟨.fieldAddr 6 (.p 4), (some 76), none⟩,
 ⟨.store 1 (.p 76) (.t 74), none, none⟩]
@[simp] def eq10_10 := id q10_10.eq_1
def q10_11 : List AOper :=
  [⟨.load .look true 2 (.p 6), (some 64), none⟩,
 ⟨.call 25 [(.p 64, false)], (some 65), none⟩,
 ⟨.move .look (.t 65), (some 63), none⟩,
 ⟨.extract 63 0, (some 66), none⟩,
 ⟨.extract 63 1, (some 67), none⟩,
 ⟨.extract 63 2, (some 68), none⟩,
 ⟨.assign (.p 66), (some 10), none⟩,
 ⟨.fieldAddr 6 (.p 4), (some 69), none⟩,
 ⟨.store 1 (.p 69) (.t 67), none, none⟩,
 ⟨.assign (.p 68), (some 5), none⟩]
@[simp] def eq10_11 := id q10_11.eq_1
def q10_12 : List AOper :=
  [⟨.px (.slArr 12 5 1) [.p 11, .c (.int .i64 0), .c (.int .i64 12)], (some 84), none⟩,
 ⟨.hcall 23 [(.t 84, false)], (some 85), none⟩,
 ⟨.fieldAddr 6 (.p 4), (some 86), none⟩,
 ⟨.store 1 (.p 86) (.t 85), none, none⟩]
@[simp] def eq10_12 := id q10_12.eq_1
def q10_13 : List AOper :=
  [⟨.load .look true 2 (.p 6), (some 80), none⟩,
 ⟨.call 26 [(.p 80, false)], (some 81), none⟩,
 ⟨.move .look (.t 81), (some 79), none⟩,
 ⟨.extract 79 0, (some 82), none⟩,
 ⟨.extract 79 1, (some 83), none⟩,
 ⟨.store 12 (.p 11) (.p 82), none, none⟩,
 ⟨.assign (.p 83), (some 5), none⟩]
@[simp] def eq10_13 := id q10_13.eq_1
def q10_14 : List AOper :=
  [⟨.move .look (.p 12), (some 94), none⟩,
 ⟨.call 28 [(.p 94, false)], (some 95), none⟩,
 ⟨.fieldAddr 3 (.p 4), (some 96), none⟩,
 ⟨.store 1 (.p 96) (.p 95), none, none⟩]
@[simp] def eq10_14 := id q10_14.eq_1
def q10_15 : List AOper :=
  [⟨.load .look true 2 (.p 6), (some 90), none⟩,
 ⟨.call 27 [(.p 90, false)], (some 91), none⟩,
 ⟨.move .look (.t 91), (some 89), none⟩,
 ⟨.extract 89 0, (some 92), none⟩,
 ⟨.extract 89 1, (some 93), none⟩,
 ⟨.assign (.p 92), (some 12), none⟩,
 ⟨.assign (.p 93), (some 5), none⟩]
@[simp] def eq10_15 := id q10_15.eq_1
def q10_16 : List AOper :=
  [⟨.load .look true 2 (.p 6), (some 100), none⟩,
 ⟨.call 29 [(.p 100, false)], (some 101), none⟩,
 ⟨.move .look (.t 101), (some 99), none⟩,
 ⟨.extract 99 0, (some 102), none⟩,
 ⟨.extract 99 1, (some 103), none⟩,
 ⟨.fieldAddr 3 (.p 4), (some 104), none⟩,
 ⟨.store 1 (.p 104) (.p 102), none, none⟩,
 ⟨.assign (.p 103), (some 5), none⟩]
@[simp] def eq10_16 := id q10_16.eq_1
def q10_17 : List AOper :=
  [⟨.load .look true 2 (.p 6), (some 108), none⟩,
 ⟨.call 30 [(.p 108, false)], (some 109), none⟩,
 ⟨.move .look (.t 109), (some 107), none⟩,
 ⟨.extract 107 0, (some 110), none⟩,
 ⟨.extract 107 1, (some 111), none⟩,
 ⟨.extract 107 2, (some 112), none⟩,
 ⟨.fieldAddr 1 (.p 4), (some 113), none⟩,
 ⟨.store 1 (.p 113) (.p 110), none, none⟩,
 ⟨.fieldAddr 2 (.p 4), (some 114), none⟩,
 ⟨.store 1 (.p 114) (.p 111), none, none⟩,
 ⟨.assign (.p 112), (some 5), none⟩]
@[simp] def eq10_17 := id q10_17.eq_1
def q10_18 : List AOper :=
  [⟨.px (.slArr 12 5 1) [.p 13, .c (.int .i64 0), .c (.int .i64 12)], (some 124), none⟩,
 ⟨.hcall 23 [(.t 124, false)], (some 125), none⟩,
 ⟨.fieldAddr 6 (.p 4), (some 126), none⟩,
 ⟨.store 1 (.p 126) (.t 125), none, none⟩]
@[simp] def eq10_18 := id q10_18.eq_1
def q10_19 : List AOper :=
  [⟨.load .look true 2 (.p 6), (some 118), none⟩,
 ⟨.call 31 [(.p 118, false)], (some 119), none⟩,
 ⟨.move .look (.t 119), (some 117), none⟩,
 ⟨.extract 117 0, (some 120), none⟩,
 ⟨.extract 117 1, (some 121), none⟩,
 ⟨.extract 117 2, (some 122), none⟩,
 ⟨.fieldAddr 1 (.p 4), (some 123), none⟩,
 ⟨.store 1 (.p 123) (.p 120), none, none⟩,
 ⟨.store 12 (.p 13) (.p 121), none, none⟩,
 ⟨.assign (.p 122), (some 5), none⟩]
@[simp] def eq10_19 := id q10_19.eq_1
def q10_20 : List AOper :=
  [⟨.load .look true 2 (.p 6), (some 130), none⟩,
 ⟨.call 32 [(.p 130, false)], (some 131), none⟩,
 ⟨.move .look (.t 131), (some 129), none⟩,
 ⟨.extract 129 0, (some 132), none⟩,
 ⟨.extract 129 1, (some 133), none⟩,
 ⟨.fieldAddr 1 (.p 4), (some 134), none⟩,
 ⟨.store 1 (.p 134) (.p 132), none, none⟩,
 ⟨.assign (.p 133), (some 5), none⟩]
@[simp] def eq10_20 := id q10_20.eq_1
def q10_21 : List AOper :=
  [⟨.load .look true 2 (.p 6), (some 138), none⟩,
 ⟨.call 33 [(.p 138, false)], (some 139), none⟩,
 ⟨.move .look (.t 139), (some 137), none⟩,
 ⟨.extract 137 0, (some 140), none⟩,
 ⟨.extract 137 1, (some 141), none⟩,
 ⟨.fieldAddr 1 (.p 4), (some 142), none⟩,
 ⟨.store 1 (.p 142) (.p 140), none, none⟩,
 ⟨.assign (.p 141), (some 5), none⟩]
@[simp] def eq10_21 := id q10_21.eq_1
def q10_22 : List AOper :=
  [⟨.move .look (.t 14), (some 152), none⟩,
 ⟨.call 23 [(.t 152, false)], (some 153), none⟩,
 ⟨.fieldAddr 6 (.p 4), (some 154), none⟩,
 ⟨.store 1 (.p 154) (.t 153), none, none⟩]
@[simp] def eq10_22 := id q10_22.eq_1
def q10_23 : List AOper :=
  [⟨.load .look true 2 (.p 6), (some 146), none⟩,
 ⟨.call 34 [(.p 146, false)], (some 147), none⟩,
 ⟨.move .look (.t 147), (some 145), none⟩,
 ⟨.extract 145 0, (some 148), none⟩,
 ⟨.extract 145 1, (some 149), none⟩,
 ⟨.extract 145 2, (some 150), none⟩,
 ⟨.fieldAddr 1 (.p 4), (some 151), none⟩,
 ⟨.store 1 (.p 151) (.p 148), none, none⟩,
 ⟨.assign (.t 149), (some 14), none⟩,
 ⟨.assign (.p 150), (some 5), none⟩]
@[simp] def eq10_23 := id q10_23.eq_1
def q10_24 : List AOper :=
  [⟨.move .look (.p 15), (some 162), none⟩,
 ⟨.convInt .i64 (.p 162), (some 163), none⟩,
 ⟨.fieldAddr 3 (.p 4), (some 164), none⟩,
 ⟨.store 1 (.p 164) (.p 163), none, none⟩]
@[simp] def eq10_24 := id q10_24.eq_1
def q10_25 : List AOper :=
  [⟨.load .look true 2 (.p 6), (some 158), none⟩,
 ⟨.call 35 [(.p 158, false)], (some 159), none⟩,
 ⟨.move .look (.t 159), (some 157), none⟩,
 ⟨.extract 157 0, (some 160), none⟩,
 ⟨.extract 157 1, (some 161), none⟩,
 ⟨.assign (.p 160), (some 15), none⟩,
 ⟨.assign (.p 161), (some 5), none⟩]
@[simp] def eq10_25 := id q10_25.eq_1
def q10_26 : List AOper :=
  [⟨.move .look (.p 16), (some 173), none⟩,
 ⟨.convInt .u64 (.p 173), (some 174), none⟩,
 ⟨.bin .shl 1 true (.p 174) (.c (.int .u64 32)), (some 175), none⟩,
 ⟨.move .look (.p 17), (some 176), none⟩,
 ⟨.convInt .u64 (.p 176), (some 177), none⟩,
 ⟨.bin .or 1 false (.p 175) (.p 177), (some 178), none⟩,
 ⟨.fieldAddr 4 (.p 4), (some 179), none⟩,
 ⟨.store 1 (.p 179) (.p 178), none, none⟩]
@[simp] def eq10_26 := id q10_26.eq_1
def q10_27 : List AOper :=
  [⟨.load .look true 2 (.p 6), (some 168), none⟩,
 ⟨.call 36 [(.p 168, false)], (some 169), none⟩,
 ⟨.move .look (.t 169), (some 167), none⟩,
 ⟨.extract 167 0, (some 170), none⟩,
 ⟨.extract 167 1, (some 171), none⟩,
 ⟨.extract 167 2, (some 172), none⟩,
 ⟨.assign (.p 170), (some 16), none⟩,
 ⟨.assign (.p 171), (some 17), none⟩,
 ⟨.assign (.p 172), (some 5), none⟩]
@[simp] def eq10_27 := id q10_27.eq_1
def q10_28 : List AOper :=
  [⟨.assign (.c (.int .u32 0)), (some 16), none⟩,
 ⟨.assign (.c (.int .u32 0)), (some 17), none⟩]
@[simp] def eq10_28 := id q10_28.eq_1
def q10_29 : List AOper :=
  [⟨.load .look true 2 (.p 6), (some 183), none⟩,
 ⟨.call 37 [(.p 183, false)], (some 184), none⟩,
 ⟨.move .look (.t 184), (some 182), none⟩,
 ⟨.extract 182 0, (some 185), none⟩,
 ⟨.extract 182 1, (some 186), none⟩,
 ⟨.fieldAddr 3 (.p 4), (some 187), none⟩,
 ⟨.store 1 (.p 187) (.p 185), none, none⟩,
 ⟨.assign (.p 186), (some 5), none⟩]
@[simp] def eq10_29 := id q10_29.eq_1
def q10_30 : List AOper :=
  [⟨.load .look true 2 (.p 6), (some 191), none⟩,
 ⟨.call 38 [(.p 191, false)], (some 192), none⟩,
 ⟨.move .look (.t 192), (some 190), none⟩,
 ⟨.extract 190 0, (some 193), none⟩,
 ⟨.extract 190 1, (some 194), none⟩,
 ⟨.extract 190 2, (some 195), none⟩,
 ⟨.fieldAddr 5 (.p 4), (some 196), none⟩,
 ⟨.store 1 (.p 196) (.p 193), none, none⟩,
 ⟨.fieldAddr 4 (.p 4), (some 197), none⟩,
 ⟨.store 1 (.p 197) (.p 194), none, none⟩,
 ⟨.assign (.p 195), (some 5), none⟩]
@[simp] def eq10_30 := id q10_30.eq_1
def q10_31 : List AOper :=
  [⟨.bin .eql 1 true (.p 22) (.c (.int .i64 19)), (some 189), none⟩,
 ⟨.assign (.p 189), (some 188), none⟩]
@[simp] def eq10_31 := id q10_31.eq_1
def q10_32 : List AOper :=
  [⟨.bin .eql 1 true (.p 22) (.c (.int .i64 18)), (some 181), none⟩,
 ⟨.assign (.p 181), (some 180), none⟩]
@[simp] def eq10_32 := id q10_32.eq_1
def q10_33 : List AOper :=
  [⟨.bin .eql 1 true (.p 22) (.c (.int .i64 17)), (some 166), none⟩,
 ⟨.assign (.p 166), (some 165), none⟩]
@[simp] def eq10_33 := id q10_33.eq_1
def q10_34 : List AOper :=
  [⟨.bin .eql 1 true (.p 22) (.c (.int .i64 16)), (some 156), none⟩,
 ⟨.assign (.p 156), (some 155), none⟩]
@[simp] def eq10_34 := id q10_34.eq_1
def q10_35 : List AOper :=
  [⟨.bin .eql 1 true (.p 22) (.c (.int .i64 15)), (some 144), none⟩,
 ⟨.assign (.p 144), (some 143), none⟩]
@[simp] def eq10_35 := id q10_35.eq_1
def q10_36 : List AOper :=
  [⟨.bin .eql 1 true (.p 22) (.c (.int .i64 14)), (some 136), none⟩,
 ⟨.assign (.p 136), (some 135), none⟩]
@[simp] def eq10_36 := id q10_36.eq_1
def q10_37 : List AOper :=
  [⟨.bin .eql 1 true (.p 22) (.c (.int .i64 13)), (some 128), none⟩,
 ⟨.assign (.p 128), (some 127), none⟩]
@[simp] def eq10_37 := id q10_37.eq_1
def q10_38 : List AOper :=
  [⟨.bin .eql 1 true (.p 22) (.c (.int .i64 12)), (some 116), none⟩,
 ⟨.assign (.p 116), (some 115), none⟩]
@[simp] def eq10_38 := id q10_38.eq_1
def q10_39 : List AOper :=
  [⟨.bin .eql 1 true (.p 22) (.c (.int .i64 11)), (some 106), none⟩,
 ⟨.assign (.p 106), (some 105), none⟩]
@[simp] def eq10_39 := id q10_39.eq_1
def q10_40 : List AOper :=
  [⟨.bin .eql 1 true (.p 22) (.c (.int .i64 9)), (some 98), none⟩,
 ⟨.assign (.p 98), (some 97), none⟩]
@[simp] def eq10_40 := id q10_40.eq_1
def q10_41 : List AOper :=
  [⟨.bin .eql 1 true (.p 22) (.c (.int .i64 8)), (some 88), none⟩,
 ⟨.assign (.p 88), (some 87), none⟩]
@[simp] def eq10_41 := id q10_41.eq_1
def q10_42 : List AOper :=
  [⟨.bin .eql 1 true (.p 22) (.c (.int .i64 7)), (some 78), none⟩,
 ⟨.assign (.p 78), (some 77), none⟩]
@[simp] def eq10_42 := id q10_42.eq_1
def q10_43 : List AOper :=
  [⟨.bin .eql 1 true (.p 22) (.c (.int .i64 5)), (some 62), none⟩,
 ⟨.assign (.p 62), (some 61), none⟩]
@[simp] def eq10_43 := id q10_43.eq_1
def q10_44 : List AOper :=
  [⟨.bin .eql 1 true (.p 22) (.c (.int .i64 4)), (some 52), none⟩,
 ⟨.assign (.p 52), (some 51), none⟩]
@[simp] def eq10_44 := id q10_44.eq_1
def q10_45 : List AOper :=
  [⟨.bin .eql 1 true (.p 22) (.c (.int .i64 3)), (some 42), none⟩,
 ⟨.assign (.p 42), (some 41), none⟩]
@[simp] def eq10_45 := id q10_45.eq_1
def q10_46 : List AOper :=
  [⟨.bin .eql 1 true (.p 22) (.c (.int .i64 2)), (some 34), none⟩,
 ⟨.assign (.p 34), (some 33), none⟩]
@[simp] def eq10_46 := id q10_46.eq_1
def q10_47 : List AOper :=
  [⟨.bin .eql 1 true (.p 22) (.c (.int .i64 1)), (some 24), none⟩,
 ⟨.assign (.p 24), (some 23), none⟩]
@[simp] def eq10_47 := id q10_47.eq_1
def q10_48 : List AOper :=
  [⟨.move .take (.p 1), (some 20), none⟩,
 ⟨.fieldAddr 0 (.p 4), (some 21), none⟩,
 ⟨.store 1 (.p 21) (.p 20), none, none⟩]
@[simp] def eq10_48 := id q10_48.eq_1
def q10_49 : List AOper :=
  [⟨.load .look true 2 (.p 2), (some 18), none⟩,
 ⟨.call 18 [(.p 18, false)], (some 19), none⟩,
 ⟨.newbox 6 [.int .u8 0, .slice .nil 0 1 []], (some 6), none⟩,
 ⟨.store 2 (.p 6) (.p 19), none, none⟩]
@[simp] def eq10_49 := id q10_49.eq_1
def q10_50 : List AOper :=
  [⟨.box 2 (.p 0), (some 2), none⟩,
 ⟨.newbox 4 [.int .i64 0, .str [], .str [], .int .i64 0, .int .u64 0, .int .u64 0, .slice .nil 0 1 [], .slice .nil 0 1 []], (some 4), none⟩,
 ⟨.assign (.c (.bool false)), (some 5), none⟩]
@[simp] def eq10_50 := id q10_50.eq_1
def k10_0 : ACode :=
  .ops q10_0 .ret
@[simp] def xk10_0 := @xOps _ _ _ k10_0.eq_1
def k10_1 : ACode :=
  .ops q10_1 .skip
@[simp] def xk10_1 := @xOps _ _ _ k10_1.eq_1
def k10_2 : ACode :=
  .cond (.p 199) k10_1 .skip
@[simp] def xk10_2 := @xCond _ _ _ _ k10_2.eq_1
def k10_3 : ACode :=
  .seq k10_2 k10_0
@[simp] def xk10_3 := @xSeq _ _ _ k10_3.eq_1
def k10_4 : ACode :=
  .ops q10_2 k10_3
@[simp] def xk10_4 := @xOps _ _ _ k10_4.eq_1
def k10_5 : ACode :=
  .ops q10_3 .skip
@[simp] def xk10_5 := @xOps _ _ _ k10_5.eq_1
def k10_6 : ACode :=
  .ops q10_4 k10_5
@[simp] def xk10_6 := @xOps _ _ _ k10_6.eq_1
def k10_7 : ACode :=
  .ops [⟨.assign (.c (.flt .f64 0)), (some 7), none⟩] k10_6
@[simp] def xk10_7 := @xOps _ _ _ k10_7.eq_1
def k10_8 : ACode :=
  .ops q10_5 .skip
@[simp] def xk10_8 := @xOps _ _ _ k10_8.eq_1
def k10_9 : ACode :=
  .ops q10_6 .skip
@[simp] def xk10_9 := @xOps _ _ _ k10_9.eq_1
def k10_10 : ACode :=
  .ops q10_7 k10_9
@[simp] def xk10_10 := @xOps _ _ _ k10_10.eq_1
def k10_11 : ACode :=
  .ops [⟨.assign (.c (.slice .nil 0 1 [])), (some 8), none⟩] k10_10
@[simp] def xk10_11 := @xOps _ _ _ k10_11.eq_1
def k10_12 : ACode :=
  .ops q10_8 .skip
@[simp] def xk10_12 := @xOps _ _ _ k10_12.eq_1
def k10_13 : ACode :=
  .ops q10_9 k10_12
@[simp] def xk10_13 := @xOps _ _ _ k10_13.eq_1
def k10_14 : ACode :=
  .ops [⟨.assign (.c (.slice .nil 0 1 [])), (some 9), none⟩] k10_13
@[simp] def xk10_14 := @xOps _ _ _ k10_14.eq_1
def k10_15 : ACode :=
  .ops q10_10 .skip
@[simp] def xk10_15 := @xOps _ _ _ k10_15.eq_1
def k10_16 : ACode :=
  .ops q10_11 k10_15
@[simp] def xk10_16 := @xOps _ _ _ k10_16.eq_1
def k10_17 : ACode :=
  .ops [⟨.assign (.c (.int .u8 0)), (some 10), none⟩] k10_16
@[simp] def xk10_17 := @xOps _ _ _ k10_17.eq_1
def k10_18 : ACode :=
  .ops q10_12 .skip
@[simp] def xk10_18 := @xOps _ _ _ k10_18.eq_1
def k10_19 : ACode :=
  .ops q10_13 k10_18
@[simp] def xk10_19 := @xOps _ _ _ k10_19.eq_1
def k10_20 : ACode :=
  .ops [⟨.newobj [.int .u8 0, .int .u8 0, .int .u8 0, .int .u8 0, .int .u8 0, .int .u8 0, .int .u8 0, .int .u8 0, .int .u8 0, .int .u8 0, .int .u8 0, .int .u8 0], (some 11), none⟩] k10_19
@[simp] def xk10_20 := @xOps _ _ _ k10_20.eq_1
def k10_21 : ACode :=
  .ops q10_14 .skip
@[simp] def xk10_21 := @xOps _ _ _ k10_21.eq_1
def k10_22 : ACode :=
  .ops q10_15 k10_21
@[simp] def xk10_22 := @xOps _ _ _ k10_22.eq_1
def k10_23 : ACode :=
  .ops [⟨.assign (.c (.bool false)), (some 12), none⟩] k10_22
@[simp] def xk10_23 := @xOps _ _ _ k10_23.eq_1
def k10_24 : ACode :=
  .ops q10_16 .skip
@[simp] def xk10_24 := @xOps _ _ _ k10_24.eq_1
def k10_25 : ACode :=
  .ops q10_17 .skip
@[simp] def xk10_25 := @xOps _ _ _ k10_25.eq_1
def k10_26 : ACode :=
  .ops q10_18 .skip
@[simp] def xk10_26 := @xOps _ _ _ k10_26.eq_1
def k10_27 : ACode :=
  .ops q10_19 k10_26
@[simp] def xk10_27 := @xOps _ _ _ k10_27.eq_1
def k10_28 : ACode :=
  .ops [⟨.newobj [.int .u8 0, .int .u8 0, .int .u8 0, .int .u8 0, .int .u8 0, .int .u8 0, .int .u8 0, .int .u8 0, .int .u8 0, .int .u8 0, .int .u8 0, .int .u8 0], (some 13), none⟩] k10_27
@[simp] def xk10_28 := @xOps _ _ _ k10_28.eq_1
def k10_29 : ACode :=
  .ops q10_20 .skip
@[simp] def xk10_29 := @xOps _ _ _ k10_29.eq_1
def k10_30 : ACode :=
  .ops q10_21 .skip
@[simp] def xk10_30 := @xOps _ _ _ k10_30.eq_1
def k10_31 : ACode :=
  .ops q10_22 .skip
@[simp] def xk10_31 := @xOps _ _ _ k10_31.eq_1
def k10_32 : ACode :=
  .ops q10_23 k10_31
@[simp] def xk10_32 := @xOps _ _ _ k10_32.eq_1
def k10_33 : ACode :=
  .ops [⟨.assign (.c (.slice .nil 0 1 [])), (some 14), none⟩] k10_32
@[simp] def xk10_33 := @xOps _ _ _ k10_33.eq_1
def k10_34 : ACode :=
  .ops q10_24 .skip
@[simp] def xk10_34 := @xOps _ _ _ k10_34.eq_1
def k10_35 : ACode :=
  .ops q10_25 k10_34
@[simp] def xk10_35 := @xOps _ _ _ k10_35.eq_1
def k10_36 : ACode :=
  .ops [⟨.assign (.c (.int .i32 0)), (some 15), none⟩] k10_35
@[simp] def xk10_36 := @xOps _ _ _ k10_36.eq_1
def k10_37 : ACode :=
  .ops q10_26 .skip
@[simp] def xk10_37 := @xOps _ _ _ k10_37.eq_1
def k10_38 : ACode :=
  .ops q10_27 k10_37
@[simp] def xk10_38 := @xOps _ _ _ k10_38.eq_1
def k10_39 : ACode :=
  .ops q10_28 k10_38
@[simp] def xk10_39 := @xOps _ _ _ k10_39.eq_1
def k10_40 : ACode :=
  .ops q10_29 .skip
@[simp] def xk10_40 := @xOps _ _ _ k10_40.eq_1
def k10_41 : ACode :=
  .ops q10_30 .skip
@[simp] def xk10_41 := @xOps _ _ _ k10_41.eq_1
def k10_42 : ACode :=
  .cond (.p 188) k10_41 .skip
@[simp] def xk10_42 := @xCond _ _ _ _ k10_42.eq_1
def k10_43 : ACode :=
  .ops q10_31 k10_42
@[simp] def xk10_43 := @xOps _ _ _ k10_43.eq_1
def k10_44 : ACode :=
  .cond (.p 180) k10_40 k10_43
@[simp] def xk10_44 := @xCond _ _ _ _ k10_44.eq_1
def k10_45 : ACode :=
  .ops q10_32 k10_44
@[simp] def xk10_45 := @xOps _ _ _ k10_45.eq_1
def k10_46 : ACode :=
  .cond (.p 165) k10_39 k10_45
@[simp] def xk10_46 := @xCond _ _ _ _ k10_46.eq_1
def k10_47 : ACode :=
  .ops q10_33 k10_46
@[simp] def xk10_47 := @xOps _ _ _ k10_47.eq_1
def k10_48 : ACode :=
  .cond (.p 155) k10_36 k10_47
@[simp] def xk10_48 := @xCond _ _ _ _ k10_48.eq_1
def k10_49 : ACode :=
  .ops q10_34 k10_48
@[simp] def xk10_49 := @xOps _ _ _ k10_49.eq_1
def k10_50 : ACode :=
  .cond (.p 143) k10_33 k10_49
@[simp] def xk10_50 := @xCond _ _ _ _ k10_50.eq_1
def k10_51 : ACode :=
  .ops q10_35 k10_50
@[simp] def xk10_51 := @xOps _ _ _ k10_51.eq_1
def k10_52 : ACode :=
  .cond (.p 135) k10_30 k10_51
@[simp] def xk10_52 := @xCond _ _ _ _ k10_52.eq_1
def k10_53 : ACode :=
  .ops q10_36 k10_52
@[simp] def xk10_53 := @xOps _ _ _ k10_53.eq_1
def k10_54 : ACode :=
  .cond (.p 127) k10_29 k10_53
@[simp] def xk10_54 := @xCond _ _ _ _ k10_54.eq_1
def k10_55 : ACode :=
  .ops q10_37 k10_54
@[simp] def xk10_55 := @xOps _ _ _ k10_55.eq_1
def k10_56 : ACode :=
  .cond (.p 115) k10_28 k10_55
@[simp] def xk10_56 := @xCond _ _ _ _ k10_56.eq_1
def k10_57 : ACode :=
  .ops q10_38 k10_56
@[simp] def xk10_57 := @xOps _ _ _ k10_57.eq_1
def k10_58 : ACode :=
  .cond (.p 105) k10_25 k10_57
@[simp] def xk10_58 := @xCond _ _ _ _ k10_58.eq_1
def k10_59 : ACode :=
  .ops q10_39 k10_58
@[simp] def xk10_59 := @xOps _ _ _ k10_59.eq_1
def k10_60 : ACode :=
  .cond (.p 97) k10_24 k10_59
@[simp] def xk10_60 := @xCond _ _ _ _ k10_60.eq_1
def k10_61 : ACode :=
  .ops q10_40 k10_60
@[simp] def xk10_61 := @xOps _ _ _ k10_61.eq_1
def k10_62 : ACode :=
  .cond (.p 87) k10_23 k10_61
@[simp] def xk10_62 := @xCond _ _ _ _ k10_62.eq_1
def k10_63 : ACode :=
  .ops q10_41 k10_62
@[simp] def xk10_63 := @xOps _ _ _ k10_63.eq_1
def k10_64 : ACode :=
  .cond (.p 77) k10_20 k10_63
@[simp] def xk10_64 := @xCond _ _ _ _ k10_64.eq_1
def k10_65 : ACode :=
  .ops q10_42 k10_64
@[simp] def xk10_65 := @xOps _ _ _ k10_65.eq_1
def k10_66 : ACode :=
  .cond (.p 61) k10_17 k10_65
@[simp] def xk10_66 := @xCond _ _ _ _ k10_66.eq_1
def k10_67 : ACode :=
  .ops q10_43 k10_66
@[simp] def xk10_67 := @xOps _ _ _ k10_67.eq_1
def k10_68 : ACode :=
  .cond (.p 51) k10_14 k10_67
@[simp] def xk10_68 := @xCond _ _ _ _ k10_68.eq_1
def k10_69 : ACode :=
  .ops q10_44 k10_68
@[simp] def xk10_69 := @xOps _ _ _ k10_69.eq_1
def k10_70 : ACode :=
  .cond (.p 41) k10_11 k10_69
@[simp] def xk10_70 := @xCond _ _ _ _ k10_70.eq_1
def k10_71 : ACode :=
  .ops q10_45 k10_70
@[simp] def xk10_71 := @xOps _ _ _ k10_71.eq_1
def k10_72 : ACode :=
  .cond (.p 33) k10_8 k10_71
@[simp] def xk10_72 := @xCond _ _ _ _ k10_72.eq_1
def k10_73 : ACode :=
  .ops q10_46 k10_72
@[simp] def xk10_73 := @xOps _ _ _ k10_73.eq_1
def k10_74 : ACode :=
  .cond (.p 23) k10_7 k10_73
@[simp] def xk10_74 := @xCond _ _ _ _ k10_74.eq_1
def k10_75 : ACode :=
  .ops q10_47 k10_74
@[simp] def xk10_75 := @xOps _ _ _ k10_75.eq_1
def k10_76 : ACode :=
  .block 0 k10_75
@[simp] def xk10_76 := @xBlock _ _ _ k10_76.eq_1
def k10_77 : ACode :=
  .seq k10_76 k10_4
@[simp] def xk10_77 := @xSeq _ _ _ k10_77.eq_1
def k10_78 : ACode :=
  .ops [⟨.move .head (.p 1), (some 22), none⟩] k10_77
@[simp] def xk10_78 := @xOps _ _ _ k10_78.eq_1
def k10_79 : ACode :=
  .ops q10_48 k10_78
@[simp] def xk10_79 := @xOps _ _ _ k10_79.eq_1
def k10_80 : ACode :=
  .ops q10_49 k10_79
@[simp] def xk10_80 := @xOps _ _ _ k10_80.eq_1
def k10_81 : ACode :=
  .ops q10_50 k10_80
@[simp] def xk10_81 := @xOps _ _ _ k10_81.eq_1
def af10 : AFunc := ⟨203, k10_81, [.cell 4 true 8, .tmp 5], fun _ _ => none⟩

theorem ok10 : ∃ hs, pFunc Tryz.prog sg hs Tryz.f10 = some af10 := ⟨fun i => if i == 11 then 1 else if i == 13 then 1 else if i == 85 then 6 else if i == 125 then 6 else 0, by kernel_rfl⟩
def q160_0 : List AOper :=
  [⟨.move .look (.p 4), (some 7), none⟩,
 ⟨.convInt .i32 (.p 7), (some 8), none⟩,
 ⟨.move .take (.t 0), (some 9), none⟩,
 ⟨.buildSl 5 1 [.int .u8 0, .int .u8 0, .int .u8 0, .int .u8 0] [(0, 1, .c (.int .u8 0)), (1, 1, .c (.int .u8 0)), (2, 1, .c (.int .u8 0)), (3, 1, .c (.int .u8 0))], (some 10), none⟩,
 ⟨.append 5 1 1 false (.t 9) (.p 10), (some 11), none⟩,
 ⟨.assign (.p 8), (some 2), none⟩,
 ⟨.assign (.t 11), (some 3), none⟩]
@[simp] def eq160_0 := id q160_0.eq_1
def q160_1 : List AOper :=
  [⟨.move .head (.t 0), (some 5), none⟩,
 ⟨.len false (.p 5), (some 6), none⟩,
 ⟨.assign (.p 6), (some 4), none⟩]
@[simp] def eq160_1 := id q160_1.eq_1
def q160_2 : List AOper :=
  [⟨.assign (.c (.int .i32 0)), (some 2), none⟩,
 ⟨.assign (.c (.slice .nil 0 1 [])), (some 3), none⟩]
@[simp] def eq160_2 := id q160_2.eq_1
def k160_0 : ACode :=
  .ops q160_0 .ret
@[simp] def xk160_0 := @xOps _ _ _ k160_0.eq_1
def k160_1 : ACode :=
  .ops q160_1 k160_0
@[simp] def xk160_1 := @xOps _ _ _ k160_1.eq_1
def k160_2 : ACode :=
  .ops q160_2 k160_1
@[simp] def xk160_2 := @xOps _ _ _ k160_2.eq_1
def af160 : AFunc := ⟨12, k160_2, [.tmp 2, .tmp 3], fun _ _ => none⟩

theorem ok160 : ∃ hs, pFunc Tryz.prog sg hs Tryz.f160 = some af160 := ⟨fun i => 0, by kernel_rfl⟩
def q125_0 : List AOper :=
  [⟨.move .take (.t 0), (some 4), none⟩,
 ⟨.call 160 [(.t 4, true)], (some 5), none⟩,
 ⟨.extract 5 0, (some 6), none⟩,
 ⟨.extract 5 1, (some 7), none⟩,
 ⟨.assign (.p 6), (some 2), none⟩,
 ⟨.assign (.t 7), (some 3), none⟩]
@[simp] def eq125_0 := id q125_0.eq_1
def q125_1 : List AOper :=
  [⟨.assign (.c (.int .i32 0)), (some 2), none⟩,
 ⟨.assign (.c (.slice .nil 0 1 [])), (some 3), none⟩]
@[simp] def eq125_1 := id q125_1.eq_1
def k125_0 : ACode :=
  .ops q125_0 .ret
@[simp] def xk125_0 := @xOps _ _ _ k125_0.eq_1
def k125_1 : ACode :=
  .ops q125_1 k125_0
@[simp] def xk125_1 := @xOps _ _ _ k125_1.eq_1
def af125 : AFunc := ⟨8, k125_1, [.tmp 2, .tmp 3], fun _ _ => none⟩

theorem ok125 : ∃ hs, pFunc Tryz.prog sg hs Tryz.f125 = some af125 := ⟨fun i => 0, by kernel_rfl⟩
def q82_0 : List AOper :=
  [⟨.move .take (.p 0), (some 25), none⟩,
 ⟨.assign (.p 25), (some 2), none⟩]
@[simp] def eq82_0 := id q82_0.eq_1
def q82_1 : List AOper :=
  [⟨.move .look (.p 0), (some 15), none⟩,
 ⟨.move .look (.p 0), (some 16), none⟩,
 ⟨.nilCheck (.p 16), (some 17), none⟩,
 ⟨.fieldAddr 1 (.p 17), (some 18), none⟩,
 ⟨.load .take false 1 (.p 18), (some 19), none⟩,
 ⟨.move .look (.p 3), (some 20), none⟩,
 ⟨.buildSl 21 1 [.int .i32 0] [(0, 1, .p 20)], (some 21), none⟩,
 ⟨.append 21 1 4 false (.t 19) (.p 21), (some 22), none⟩,
 ⟨.nilCheck (.p 15), (some 23), none⟩,
 ⟨.fieldAddr 1 (.p 23), (some 24), none⟩,
 ⟨.store 1 (.p 24) (.t 22), none, none⟩]
@[simp] def eq82_1 := id q82_1.eq_1
def q82_2 : List AOper :=
  [⟨.move .look (.p 0), (some 5), none⟩,
 ⟨.move .look (.p 0), (some 6), none⟩,
 ⟨.nilCheck (.p 6), (some 7), none⟩,
 ⟨.fieldAddr 0 (.p 7), (some 8), none⟩,
 ⟨.load .take false 1 (.p 8), (some 9), none⟩,
 ⟨.call 125 [(.t 9, true)], (some 10), none⟩,
 ⟨.move .look (.t 10), (some 4), none⟩,
 ⟨.extract 4 0, (some 11), none⟩,
 ⟨.extract 4 1, (some 12), none⟩,
 ⟨.assign (.p 11), (some 3), none⟩,
 ⟨.nilCheck (.p 5), (some 13), none⟩,
 ⟨.fieldAddr 0 (.p 13), (some 14), none⟩,
 ⟨.store 1 (.p 14) (.t 12), none, none⟩]
@[simp] def eq82_2 := id q82_2.eq_1
def k82_0 : ACode :=
  .ops q82_0 .ret
@[simp] def xk82_0 := @xOps _ _ _ k82_0.eq_1
def k82_1 : ACode :=
  .ops q82_1 k82_0
@[simp] def xk82_1 := @xOps _ _ _ k82_1.eq_1
def k82_2 : ACode :=
  .ops q82_2 k82_1
@[simp] def xk82_2 := @xOps _ _ _ k82_2.eq_1
def k82_3 : ACode :=
  .ops [⟨.assign (.c (.int .i32 0)), (some 3), none⟩] k82_2
@[simp] def xk82_3 := @xOps _ _ _ k82_3.eq_1
def k82_4 : ACode :=
  .ops [⟨.assign (.c (.nilptr)), (some 2), none⟩] k82_3
@[simp] def xk82_4 := @xOps _ _ _ k82_4.eq_1
def af82 : AFunc := ⟨26, k82_4, [.tmp 2], fun _ _ => none⟩

theorem ok82 : ∃ hs, pFunc Tryz.prog sg hs Tryz.f82 = some af82 := ⟨fun i => 0, by kernel_rfl⟩
def q62_0 : List AOper :=
  [⟨.build [.slice .nil 0 1 [], .slice .nil 0 1 []] [], (some 1), none⟩,
 ⟨.boxobj (.p 1), (some 2), none⟩,
 ⟨.hcall 82 [(.p 2, false)], (some 3), none⟩,
 ⟨.assign (.p 3), (some 0), none⟩]
@[simp] def eq62_0 := id q62_0.eq_1
def k62_0 : ACode :=
  .ops q62_0 .ret
@[simp] def xk62_0 := @xOps _ _ _ k62_0.eq_1
def k62_1 : ACode :=
  .ops [⟨.assign (.c (.nilptr)), (some 0), none⟩] k62_0
@[simp] def xk62_1 := @xOps _ _ _ k62_1.eq_1
def af62 : AFunc := ⟨4, k62_1, [.tmp 0], fun _ _ => none⟩

theorem ok62 : ∃ hs, pFunc Tryz.prog sg hs Tryz.f62 = some af62 := ⟨fun i => if i == 2 then 1 else 0, by kernel_rfl⟩
def q215_0 : List AOper :=
  [⟨.move .take (.p 5), (some 34), none⟩,
 ⟨.assign (.p 34), (some 4), none⟩]
@[simp] def eq215_0 := id q215_0.eq_1
def q215_1 : List AOper :=
  [⟨.move .head (.p 6), (some 31), none⟩,
 ⟨.move .head (.p 1), (some 32), none⟩,
 ⟨.bin .eql 1 false (.p 31) (.p 32), (some 33), none⟩]
@[simp] def eq215_1 := id q215_1.eq_1
def q215_2 : List AOper :=
  [⟨.extract 27 1, (some 29), none⟩,
 ⟨.extract 27 2, (some 30), none⟩,
 ⟨.assign (.p 29), (some 5), none⟩,
 ⟨.assign (.p 30), (some 6), none⟩]
@[simp] def eq215_2 := id q215_2.eq_1
def q215_3 : List AOper :=
  [⟨.next (.p 26), (some 27), none⟩,
 ⟨.extract 27 0, (some 28), none⟩]
@[simp] def eq215_3 := id q215_3.eq_1
def q215_4 : List AOper :=
  [⟨.move .look (.p 0), (some 25), none⟩,
 ⟨.range 26 (.p 25), (some 26), none⟩]
@[simp] def eq215_4 := id q215_4.eq_1
def q215_5 : List AOper :=
  [⟨.move .head (.p 1), (some 7), none⟩,
 ⟨.bin .neq 1 true (.p 7) (.c (.int .i32 65533)), (some 8), none⟩,
 ⟨.move .look (.p 8), (some 9), none⟩,
 ⟨.move .look (.p 1), (some 10), (some (9, true))⟩,
 ⟨.bin .lss 1 true (.p 10) (.c (.int .i32 0)), (some 11), (some (9, true))⟩,
 ⟨.move .look (.p 11), (some 12), (some (9, true))⟩,
 ⟨.move .look (.p 1), (some 13), (some (12, false))⟩,
 ⟨.bin .gtr 1 true (.p 13) (.c (.int .i32 1114111)), (some 14), (some (12, false))⟩,
 ⟨.pick (.p 12) (.c (.bool true)) (.p 14), (some 15), (some (9, true))⟩,
 ⟨.move .look (.p 15), (some 16), (some (9, true))⟩,
 ⟨.move .look (.p 1), (some 17), (some (16, false))⟩,
 ⟨.bin .leq 1 true (.c (.int .i32 55296)) (.p 17), (some 18), (some (16, false))⟩,
 ⟨.move .look (.p 18), (some 19), (some (16, false))⟩,
 ⟨.move .look (.p 1), (some 20), (some (19, true))⟩,
 ⟨.bin .leq 1 true (.p 20) (.c (.int .i32 57343)), (some 21), (some (19, true))⟩,
 ⟨.pick (.p 19) (.p 21) (.c (.bool false)), (some 22), (some (16, false))⟩,
 ⟨.pick (.p 16) (.c (.bool true)) (.p 22), (some 23), (some (9, true))⟩,
 ⟨.pick (.p 9) (.p 23) (.c (.bool false)), (some 24), none⟩]
@[simp] def eq215_5 := id q215_5.eq_1
def k215_0 : ACode :=
  .ops [⟨.assign (.c (.int .i64 (-1))), (some 4), none⟩] .ret
@[simp] def xk215_0 := @xOps _ _ _ k215_0.eq_1
def k215_1 : ACode :=
  .ops q215_0 .ret
def k215_2 : ACode :=
  .cond (.p 33) k215_1 .skip
@[simp] def xk215_2 := @xCond _ _ _ _ k215_2.eq_1
def k215_3 : ACode :=
  .ops q215_1 k215_2
@[simp] def xk215_3 := @xOps _ _ _ k215_3.eq_1
def k215_4 : ACode :=
  .ops q215_2 k215_3
@[simp] def xk215_4 := @xOps _ _ _ k215_4.eq_1
def k215_5 : ACode :=
  .block 1 k215_4
@[simp] def xk215_5 := @xBlock _ _ _ k215_5.eq_1
def k215_6 : ACode :=
  .cond (.p 28) .skip (.exit 0)
@[simp] def xk215_6 := @xCond _ _ _ _ k215_6.eq_1
def k215_7 : ACode :=
  .seq k215_6 k215_5
@[simp] def xk215_7 := @xSeq _ _ _ k215_7.eq_1
def k215_8 : ACode :=
  .ops q215_3 k215_7
@[simp] def xk215_8 := @xOps _ _ _ k215_8.eq_1
def lc215_0 : ACode :=
  k215_8
@[simp] def xlc215_0 := @xSame _ _ lc215_0.eq_1
def k215_10 : ACode :=
  .loop lc215_0
@[simp] def xk215_10 := @xLoop _ _ k215_10.eq_1
def k215_11 : ACode :=
  .block 0 k215_10
@[simp] def xk215_11 := @xBlock _ _ _ k215_11.eq_1
def k215_12 : ACode :=
  .seq k215_11 k215_0
@[simp] def xk215_12 := @xSeq _ _ _ k215_12.eq_1
def k215_13 : ACode :=
  .ops q215_4 k215_12
@[simp] def xk215_13 := @xOps _ _ _ k215_13.eq_1
def k215_14 : ACode :=
  .ops [⟨.assign (.c (.int .i64 (-1))), (some 4), none⟩] .ret
def k215_15 : ACode :=
  .cond (.p 24) k215_14 .skip
@[simp] def xk215_15 := @xCond _ _ _ _ k215_15.eq_1
def k215_16 : ACode :=
  .seq k215_15 k215_13
@[simp] def xk215_16 := @xSeq _ _ _ k215_16.eq_1
def k215_17 : ACode :=
  .ops q215_5 k215_16
@[simp] def xk215_17 := @xOps _ _ _ k215_17.eq_1
def k215_18 : ACode :=
  .ops [⟨.assign (.c (.int .i64 0)), (some 4), none⟩] k215_17
@[simp] def xk215_18 := @xOps _ _ _ k215_18.eq_1
def af215 : AFunc := ⟨35, k215_18, [.tmp 4], fun _ _ => none⟩

theorem ok215 : ∃ hs, pFunc Tryz.prog sg hs Tryz.f215 = some af215 := ⟨fun i => 0, by kernel_rfl⟩
def q206_0 : List AOper :=
  [⟨.move .look (.p 0), (some 5), none⟩,
 ⟨.move .look (.p 1), (some 6), none⟩,
 ⟨.call 215 [(.p 5, false), (.p 6, false)], (some 7), none⟩,
 ⟨.bin .geq 1 true (.p 7) (.c (.int .i64 0)), (some 8), none⟩,
 ⟨.assign (.p 8), (some 4), none⟩]
@[simp] def eq206_0 := id q206_0.eq_1
def k206_0 : ACode :=
  .ops q206_0 .ret
@[simp] def xk206_0 := @xOps _ _ _ k206_0.eq_1
def k206_1 : ACode :=
  .ops [⟨.assign (.c (.bool false)), (some 4), none⟩] k206_0
@[simp] def xk206_1 := @xOps _ _ _ k206_1.eq_1
def af206 : AFunc := ⟨9, k206_1, [.tmp 4], fun _ _ => none⟩

theorem ok206 : ∃ hs, pFunc Tryz.prog sg hs Tryz.f206 = some af206 := ⟨fun i => 0, by kernel_rfl⟩
def q163_0 : List AOper :=
  [⟨.move .look (.p 0), (some 3), none⟩,
 ⟨.call 206 [(.p 3, false), (.c (.int .i32 0), false)], (some 4), none⟩,
 ⟨.un .not (.p 4), (some 5), none⟩,
 ⟨.assign (.p 5), (some 2), none⟩]
@[simp] def eq163_0 := id q163_0.eq_1
def k163_0 : ACode :=
  .ops q163_0 .ret
@[simp] def xk163_0 := @xOps _ _ _ k163_0.eq_1
def k163_1 : ACode :=
  .ops [⟨.assign (.c (.bool false)), (some 2), none⟩] k163_0
@[simp] def xk163_1 := @xOps _ _ _ k163_1.eq_1
def af163 : AFunc := ⟨6, k163_1, [.tmp 2], fun _ _ => none⟩

theorem ok163 : ∃ hs, pFunc Tryz.prog sg hs Tryz.f163 = some af163 := ⟨fun i => 0, by kernel_rfl⟩
def q164_0 : List AOper :=
  [⟨.move .take (.t 0), (some 5), none⟩,
 ⟨.move .look (.p 1), (some 6), none⟩,
 ⟨.buildSl 5 1 [.int .u8 0] [(0, 1, .p 6)], (some 7), none⟩,
 ⟨.append 5 1 1 false (.t 5) (.p 7), (some 8), none⟩,
 ⟨.assign (.t 8), (some 4), none⟩]
@[simp] def eq164_0 := id q164_0.eq_1
def k164_0 : ACode :=
  .ops q164_0 .ret
@[simp] def xk164_0 := @xOps _ _ _ k164_0.eq_1
def k164_1 : ACode :=
  .ops [⟨.assign (.c (.slice .nil 0 1 [])), (some 4), none⟩] k164_0
@[simp] def xk164_1 := @xOps _ _ _ k164_1.eq_1
def af164 : AFunc := ⟨9, k164_1, [.tmp 4], fun _ _ => none⟩

theorem ok164 : ∃ hs, pFunc Tryz.prog sg hs Tryz.f164 = some af164 := ⟨fun i => 0, by kernel_rfl⟩
end
end Go.Proofs.YticoldgiebmmgaaGreatDoor.Abs
