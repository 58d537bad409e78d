/- The functions that the law reaches, made ready for the interpreter (printed by a program of this session; the kernel compares each with the given program). -/
import Derived.Test.YticoldgiebmmgaaGreatDoorFDocGP1
namespace Go.Proofs.YticoldgiebmmgaaGreatDoor.Abs
set_option linter.all false
set_option maxRecDepth 100000
section
variable {fns : FuncId → Option AFunc} {Q : Ex × St → Prop} {s : List Fr} {c : ACode} {st : St}
def q128_0 : List AOper :=
  [⟨.move .take (.t 0), (some 17), none⟩,
 ⟨.buildSl 5 1 [.int .u8 0] [(0, 1, .c (.int .u8 0))], (some 18), none⟩,
 ⟨.append 5 1 1 false (.t 17) (.p 18), (some 19), none⟩,
 ⟨.assign (.t 19), (some 6), none⟩]
@[simp] def eq128_0 := id q128_0.eq_1
def q128_1 : List AOper :=
  [⟨.move .take (.t 0), (some 14), none⟩,
 ⟨.move .look (.p 2), (some 15), none⟩,
 ⟨.append 5 1 1 true (.t 14) (.p 15), (some 16), none⟩,
 ⟨.assign (.t 16), (some 0), none⟩]
@[simp] def eq128_1 := id q128_1.eq_1
def q128_2 : List AOper :=
  [⟨.move .take (.t 0), (some 11), none⟩,
 ⟨.move .look (.p 1), (some 12), none⟩,
 ⟨.call 164 [(.t 11, true), (.p 12, false)], (some 13), none⟩,
 ⟨.assign (.t 13), (some 0), none⟩]
@[simp] def eq128_2 := id q128_2.eq_1
def q128_3 : List AOper :=
  [⟨.mkIface 9 (.c (.str [66, 83, 79, 78, 32, 101, 108, 101, 109, 101, 110, 116, 32, 107, 101, 121, 115, 32, 99, 97, 110, 110, 111, 116, 32, 99, 111, 110, 116, 97, 105, 110, 32, 110, 117, 108, 108, 32, 98, 121, 116, 101, 115])), (some 10), none⟩,
 ⟨.dead, none, none⟩]
@[simp] def eq128_3 := id q128_3.eq_1
def q128_4 : List AOper :=
  [⟨.move .look (.p 2), (some 7), none⟩,
 ⟨.call 163 [(.p 7, false)], (some 8), none⟩,
 ⟨.un .not (.p 8), (some 9), none⟩]
@[simp] def eq128_4 := id q128_4.eq_1
def k128_0 : ACode :=
  .ops q128_0 .ret
@[simp] def xk128_0 := @xOps _ _ _ k128_0.eq_1
def k128_1 : ACode :=
  .ops q128_1 k128_0
@[simp] def xk128_1 := @xOps _ _ _ k128_1.eq_1
def k128_2 : ACode :=
  .ops q128_2 k128_1
@[simp] def xk128_2 := @xOps _ _ _ k128_2.eq_1
def k128_3 : ACode :=
  .ops q128_3 .skip
def k128_4 : ACode :=
  .cond (.p 9) k128_3 .skip
@[simp] def xk128_4 := @xCond _ _ _ _ k128_4.eq_1
def k128_5 : ACode :=
  .seq k128_4 k128_2
@[simp] def xk128_5 := @xSeq _ _ _ k128_5.eq_1
def k128_6 : ACode :=
  .ops q128_4 k128_5
@[simp] def xk128_6 := @xOps _ _ _ k128_6.eq_1
def k128_7 : ACode :=
  .ops [⟨.assign (.c (.slice .nil 0 1 [])), (some 6), none⟩] k128_6
@[simp] def xk128_7 := @xOps _ _ _ k128_7.eq_1
def af128 : AFunc := ⟨20, k128_7, [.tmp 6], fun _ _ => none⟩

theorem ok128 : ∃ hs, pFunc Tryz.prog sg hs Tryz.f128 = some af128 := ⟨fun i => 0, by kernel_rfl⟩
def q213_0 : List AOper :=
  [⟨.move .take (.t 0), (some 5), none⟩,
 ⟨.move .look (.p 1), (some 6), none⟩,
 ⟨.convInt .u8 (.p 6), (some 7), none⟩,
 ⟨.move .look (.p 1), (some 8), none⟩,
 ⟨.bin .shr 1 true (.p 8) (.c (.int .u64 8)), (some 9), none⟩,
 ⟨.convInt .u8 (.p 9), (some 10), none⟩,
 ⟨.move .look (.p 1), (some 11), none⟩,
 ⟨.bin .shr 1 true (.p 11) (.c (.int .u64 16)), (some 12), none⟩,
 ⟨.convInt .u8 (.p 12), (some 13), none⟩,
 ⟨.move .look (.p 1), (some 14), none⟩,
 ⟨.bin .shr 1 true (.p 14) (.c (.int .u64 24)), (some 15), none⟩,
 ⟨.convInt .u8 (.p 15), (some 16), none⟩,
 ⟨.buildSl 5 1 [.int .u8 0, .int .u8 0, .int .u8 0, .int .u8 0] [(0, 1, .p 7), (1, 1, .p 10), (2, 1, .p 13), (3, 1, .p 16)], (some 17), none⟩,
 ⟨.append 5 1 1 false (.t 5) (.p 17), (some 18), none⟩,
 ⟨.assign (.t 18), (some 4), none⟩]
@[simp] def eq213_0 := id q213_0.eq_1
def k213_0 : ACode :=
  .ops q213_0 .ret
@[simp] def xk213_0 := @xOps _ _ _ k213_0.eq_1
def k213_1 : ACode :=
  .ops [⟨.assign (.c (.slice .nil 0 1 [])), (some 4), none⟩] k213_0
@[simp] def xk213_1 := @xOps _ _ _ k213_1.eq_1
def af213 : AFunc := ⟨19, k213_1, [.tmp 4], fun _ _ => none⟩

theorem ok213 : ∃ hs, pFunc Tryz.prog sg hs Tryz.f213 = some af213 := ⟨fun i => 0, by kernel_rfl⟩
def q198_0 : List AOper :=
  [⟨.move .take (.t 0), (some 5), none⟩,
 ⟨.move .look (.p 1), (some 6), none⟩,
 ⟨.call 213 [(.t 5, true), (.p 6, false)], (some 7), none⟩,
 ⟨.assign (.t 7), (some 4), none⟩]
@[simp] def eq198_0 := id q198_0.eq_1
def k198_0 : ACode :=
  .ops q198_0 .ret
@[simp] def xk198_0 := @xOps _ _ _ k198_0.eq_1
def k198_1 : ACode :=
  .ops [⟨.assign (.c (.slice .nil 0 1 [])), (some 4), none⟩] k198_0
@[simp] def xk198_1 := @xOps _ _ _ k198_1.eq_1
def af198 : AFunc := ⟨8, k198_1, [.tmp 4], fun _ _ => none⟩

theorem ok198 : ∃ hs, pFunc Tryz.prog sg hs Tryz.f198 = some af198 := ⟨fun i => 0, by kernel_rfl⟩
def q144_0 : List AOper :=
  [⟨.move .take (.t 0), (some 7), none⟩,
 ⟨.move .look (.p 1), (some 8), none⟩,
 ⟨.call 128 [(.t 7, true), (.c (.int .u8 16), false), (.p 8, false)], (some 9), none⟩,
 ⟨.move .look (.p 2), (some 10), none⟩,
 ⟨.call 198 [(.t 9, true), (.p 10, false)], (some 11), none⟩,
 ⟨.assign (.t 11), (some 6), none⟩]
@[simp] def eq144_0 := id q144_0.eq_1
def k144_0 : ACode :=
  .ops q144_0 .ret
@[simp] def xk144_0 := @xOps _ _ _ k144_0.eq_1
def k144_1 : ACode :=
  .ops [⟨.assign (.c (.slice .nil 0 1 [])), (some 6), none⟩] k144_0
@[simp] def xk144_1 := @xOps _ _ _ k144_1.eq_1
def af144 : AFunc := ⟨12, k144_1, [.tmp 6], fun _ _ => none⟩

theorem ok144 : ∃ hs, pFunc Tryz.prog sg hs Tryz.f144 = some af144 := ⟨fun i => 0, by kernel_rfl⟩
def q102_0 : List AOper :=
  [⟨.move .take (.p 0), (some 17), none⟩,
 ⟨.assign (.p 17), (some 6), none⟩]
@[simp] def eq102_0 := id q102_0.eq_1
def q102_1 : List AOper :=
  [⟨.move .look (.p 0), (some 7), none⟩,
 ⟨.move .look (.p 0), (some 8), none⟩,
 ⟨.nilCheck (.p 8), (some 9), none⟩,
 ⟨.fieldAddr 0 (.p 9), (some 10), none⟩,
 ⟨.load .take false 1 (.p 10), (some 11), none⟩,
 ⟨.move .look (.p 1), (some 12), none⟩,
 ⟨.move .look (.p 2), (some 13), none⟩,
 ⟨.call 144 [(.t 11, true), (.p 12, false), (.p 13, false)], (some 14), none⟩,
 ⟨.nilCheck (.p 7), (some 15), none⟩,
 ⟨.fieldAddr 0 (.p 15), (some 16), none⟩,
 ⟨.store 1 (.p 16) (.t 14), none, none⟩]
@[simp] def eq102_1 := id q102_1.eq_1
def k102_0 : ACode :=
  .ops q102_0 .ret
@[simp] def xk102_0 := @xOps _ _ _ k102_0.eq_1
def k102_1 : ACode :=
  .ops q102_1 k102_0
@[simp] def xk102_1 := @xOps _ _ _ k102_1.eq_1
def k102_2 : ACode :=
  .ops [⟨.assign (.c (.nilptr)), (some 6), none⟩] k102_1
@[simp] def xk102_2 := @xOps _ _ _ k102_2.eq_1
def af102 : AFunc := ⟨18, k102_2, [.tmp 6], fun _ _ => none⟩

theorem ok102 : ∃ hs, pFunc Tryz.prog sg hs Tryz.f102 = some af102 := ⟨fun i => 0, by kernel_rfl⟩
def q63_0 : List AOper :=
  [⟨.bin .add 1 true (.p 9) (.c (.int .i64 1)), (some 205), none⟩,
 ⟨.move .look (.p 205), (some 9), none⟩]
@[simp] def eq63_0 := id q63_0.eq_1
def q63_1 : List AOper :=
  [⟨.move .look (.p 0), (some 19), none⟩,
 ⟨.fieldAddr 0 (.p 5), (some 20), none⟩,
 ⟨.load .look false 1 (.p 20), (some 21), none⟩,
 ⟨.fieldAddr 4 (.p 6), (some 22), none⟩,
 ⟨.load .look false 1 (.p 22), (some 23), none⟩,
 ⟨.px (.fb 1) [.p 23], (some 24), none⟩,
 ⟨.call 83 [(.p 19, false), (.p 21, false), (.p 24, false)], (some 25), none⟩]
@[simp] def eq63_1 := id q63_1.eq_1
def q63_2 : List AOper :=
  [⟨.move .look (.p 0), (some 28), none⟩,
 ⟨.fieldAddr 0 (.p 5), (some 29), none⟩,
 ⟨.load .look false 1 (.p 29), (some 30), none⟩,
 ⟨.fieldAddr 1 (.p 6), (some 31), none⟩,
 ⟨.load .look false 1 (.p 31), (some 32), none⟩,
 ⟨.call 84 [(.p 28, false), (.p 30, false), (.p 32, false)], (some 33), none⟩]
@[simp] def eq63_2 := id q63_2.eq_1
def q63_3 : List AOper :=
  [⟨.move .look (.p 0), (some 44), none⟩,
 ⟨.call 86 [(.p 44, false)], (some 45), none⟩]
@[simp] def eq63_3 := id q63_3.eq_1
def q63_4 : List AOper :=
  [⟨.move .look (.p 0), (some 40), none⟩,
 ⟨.fieldAddr 7 (.p 6), (some 41), none⟩,
 ⟨.load .look false 1 (.p 41), (some 42), none⟩,
 ⟨.hcall 63 [(.p 40, false), (.t 42, false)], (some 43), none⟩]
@[simp] def eq63_4 := id q63_4.eq_1
def q63_5 : List AOper :=
  [⟨.move .look (.p 0), (some 36), none⟩,
 ⟨.fieldAddr 0 (.p 5), (some 37), none⟩,
 ⟨.load .look false 1 (.p 37), (some 38), none⟩,
 ⟨.call 85 [(.p 36, false), (.p 38, false)], (some 39), none⟩]
@[simp] def eq63_5 := id q63_5.eq_1
def q63_6 : List AOper :=
  [⟨.move .look (.p 0), (some 48), none⟩,
 ⟨.fieldAddr 0 (.p 5), (some 49), none⟩,
 ⟨.load .look false 1 (.p 49), (some 50), none⟩,
 ⟨.fieldAddr 7 (.p 6), (some 51), none⟩,
 ⟨.load .look false 1 (.p 51), (some 52), none⟩,
 ⟨.call 89 [(.t 52, false)], (some 53), none⟩,
 ⟨.call 88 [(.t 53, false)], (some 54), none⟩,
 ⟨.call 87 [(.p 48, false), (.p 50, false), (.t 54, false)], (some 55), none⟩]
@[simp] def eq63_6 := id q63_6.eq_1
def q63_7 : List AOper :=
  [⟨.move .look (.p 0), (some 58), none⟩,
 ⟨.fieldAddr 0 (.p 5), (some 59), none⟩,
 ⟨.load .look false 1 (.p 59), (some 60), none⟩,
 ⟨.fieldAddr 3 (.p 6), (some 61), none⟩,
 ⟨.load .look false 1 (.p 61), (some 62), none⟩,
 ⟨.convInt .u8 (.p 62), (some 63), none⟩,
 ⟨.fieldAddr 6 (.p 6), (some 64), none⟩,
 ⟨.load .look false 1 (.p 64), (some 65), none⟩,
 ⟨.call 90 [(.p 58, false), (.p 60, false), (.p 63, false), (.t 65, false)], (some 66), none⟩]
@[simp] def eq63_7 := id q63_7.eq_1
def q63_8 : List AOper :=
  [⟨.move .look (.p 0), (some 69), none⟩,
 ⟨.fieldAddr 0 (.p 5), (some 70), none⟩,
 ⟨.load .look false 1 (.p 70), (some 71), none⟩,
 ⟨.call 91 [(.p 69, false), (.p 71, false)], (some 72), none⟩]
@[simp] def eq63_8 := id q63_8.eq_1
def q63_9 : List AOper :=
  [⟨.move .look (.p 0), (some 75), none⟩,
 ⟨.fieldAddr 0 (.p 5), (some 76), none⟩,
 ⟨.load .look false 1 (.p 76), (some 77), none⟩,
 ⟨.fieldAddr 6 (.p 6), (some 78), none⟩,
 ⟨.load .look false 1 (.p 78), (some 79), none⟩,
 ⟨.call 93 [(.t 79, false)], (some 80), none⟩,
 ⟨.call 92 [(.p 75, false), (.p 77, false), (.p 80, false)], (some 81), none⟩]
@[simp] def eq63_9 := id q63_9.eq_1
def q63_10 : List AOper :=
  [⟨.move .look (.p 0), (some 84), none⟩,
 ⟨.fieldAddr 0 (.p 5), (some 85), none⟩,
 ⟨.load .look false 1 (.p 85), (some 86), none⟩,
 ⟨.fieldAddr 3 (.p 6), (some 87), none⟩,
 ⟨.load .head false 1 (.p 87), (some 88), none⟩,
 ⟨.bin .neq 1 true (.p 88) (.c (.int .i64 0)), (some 89), none⟩,
 ⟨.call 94 [(.p 84, false), (.p 86, false), (.p 89, false)], (some 90), none⟩]
@[simp] def eq63_10 := id q63_10.eq_1
def q63_11 : List AOper :=
  [⟨.move .look (.p 0), (some 93), none⟩,
 ⟨.fieldAddr 0 (.p 5), (some 94), none⟩,
 ⟨.load .look false 1 (.p 94), (some 95), none⟩,
 ⟨.fieldAddr 3 (.p 6), (some 96), none⟩,
 ⟨.load .look false 1 (.p 96), (some 97), none⟩,
 ⟨.call 95 [(.p 93, false), (.p 95, false), (.p 97, false)], (some 98), none⟩]
@[simp] def eq63_11 := id q63_11.eq_1
def q63_12 : List AOper :=
  [⟨.move .look (.p 0), (some 101), none⟩,
 ⟨.fieldAddr 0 (.p 5), (some 102), none⟩,
 ⟨.load .look false 1 (.p 102), (some 103), none⟩,
 ⟨.call 96 [(.p 101, false), (.p 103, false)], (some 104), none⟩]
@[simp] def eq63_12 := id q63_12.eq_1
def q63_13 : List AOper :=
  [⟨.move .look (.p 0), (some 107), none⟩,
 ⟨.fieldAddr 0 (.p 5), (some 108), none⟩,
 ⟨.load .look false 1 (.p 108), (some 109), none⟩,
 ⟨.fieldAddr 1 (.p 6), (some 110), none⟩,
 ⟨.load .look false 1 (.p 110), (some 111), none⟩,
 ⟨.fieldAddr 2 (.p 6), (some 112), none⟩,
 ⟨.load .look false 1 (.p 112), (some 113), none⟩,
 ⟨.call 97 [(.p 107, false), (.p 109, false), (.p 111, false), (.p 113, false)], (some 114), none⟩]
@[simp] def eq63_13 := id q63_13.eq_1
def q63_14 : List AOper :=
  [⟨.move .look (.p 0), (some 117), none⟩,
 ⟨.fieldAddr 0 (.p 5), (some 118), none⟩,
 ⟨.load .look false 1 (.p 118), (some 119), none⟩,
 ⟨.fieldAddr 1 (.p 6), (some 120), none⟩,
 ⟨.load .look false 1 (.p 120), (some 121), none⟩,
 ⟨.fieldAddr 6 (.p 6), (some 122), none⟩,
 ⟨.load .look false 1 (.p 122), (some 123), none⟩,
 ⟨.call 93 [(.t 123, false)], (some 124), none⟩,
 ⟨.call 98 [(.p 117, false), (.p 119, false), (.p 121, false), (.p 124, false)], (some 125), none⟩]
@[simp] def eq63_14 := id q63_14.eq_1
def q63_15 : List AOper :=
  [⟨.move .look (.p 0), (some 128), none⟩,
 ⟨.fieldAddr 0 (.p 5), (some 129), none⟩,
 ⟨.load .look false 1 (.p 129), (some 130), none⟩,
 ⟨.fieldAddr 1 (.p 6), (some 131), none⟩,
 ⟨.load .look false 1 (.p 131), (some 132), none⟩,
 ⟨.call 99 [(.p 128, false), (.p 130, false), (.p 132, false)], (some 133), none⟩]
@[simp] def eq63_15 := id q63_15.eq_1
def q63_16 : List AOper :=
  [⟨.move .look (.p 0), (some 136), none⟩,
 ⟨.fieldAddr 0 (.p 5), (some 137), none⟩,
 ⟨.load .look false 1 (.p 137), (some 138), none⟩,
 ⟨.fieldAddr 1 (.p 6), (some 139), none⟩,
 ⟨.load .look false 1 (.p 139), (some 140), none⟩,
 ⟨.call 100 [(.p 136, false), (.p 138, false), (.p 140, false)], (some 141), none⟩]
@[simp] def eq63_16 := id q63_16.eq_1
def q63_17 : List AOper :=
  [⟨.move .look (.p 0), (some 144), none⟩,
 ⟨.fieldAddr 0 (.p 5), (some 145), none⟩,
 ⟨.load .look false 1 (.p 145), (some 146), none⟩,
 ⟨.fieldAddr 1 (.p 6), (some 147), none⟩,
 ⟨.load .look false 1 (.p 147), (some 148), none⟩,
 ⟨.fieldAddr 7 (.p 6), (some 149), none⟩,
 ⟨.load .look false 1 (.p 149), (some 150), none⟩,
 ⟨.call 39 [(.t 150, false)], (some 151), none⟩,
 ⟨.call 101 [(.p 144, false), (.p 146, false), (.p 148, false), (.t 151, false)], (some 152), none⟩]
@[simp] def eq63_17 := id q63_17.eq_1
def q63_18 : List AOper :=
  [⟨.move .look (.p 0), (some 155), none⟩,
 ⟨.fieldAddr 0 (.p 5), (some 156), none⟩,
 ⟨.load .look false 1 (.p 156), (some 157), none⟩,
 ⟨.fieldAddr 3 (.p 6), (some 158), none⟩,
 ⟨.load .look false 1 (.p 158), (some 159), none⟩,
 ⟨.convInt .i32 (.p 159), (some 160), none⟩,
 ⟨.hcall 102 [(.p 155, false), (.p 157, false), (.p 160, false)], (some 161), none⟩]
@[simp] def eq63_18 := id q63_18.eq_1
def q63_19 : List AOper :=
  [⟨.move .look (.p 0), (some 164), none⟩,
 ⟨.fieldAddr 0 (.p 5), (some 165), none⟩,
 ⟨.load .look false 1 (.p 165), (some 166), none⟩,
 ⟨.fieldAddr 4 (.p 6), (some 167), none⟩,
 ⟨.load .look false 1 (.p 167), (some 168), none⟩,
 ⟨.bin .shr 1 true (.p 168) (.c (.int .u64 32)), (some 169), none⟩,
 ⟨.convInt .u32 (.p 169), (some 170), none⟩,
 ⟨.fieldAddr 4 (.p 6), (some 171), none⟩,
 ⟨.load .look false 1 (.p 171), (some 172), none⟩,
 ⟨.convInt .u32 (.p 172), (some 173), none⟩,
 ⟨.call 103 [(.p 164, false), (.p 166, false), (.p 170, false), (.p 173, false)], (some 174), none⟩]
@[simp] def eq63_19 := id q63_19.eq_1
def q63_20 : List AOper :=
  [⟨.move .look (.p 0), (some 177), none⟩,
 ⟨.fieldAddr 0 (.p 5), (some 178), none⟩,
 ⟨.load .look false 1 (.p 178), (some 179), none⟩,
 ⟨.fieldAddr 3 (.p 6), (some 180), none⟩,
 ⟨.load .look false 1 (.p 180), (some 181), none⟩,
 ⟨.call 104 [(.p 177, false), (.p 179, false), (.p 181, false)], (some 182), none⟩]
@[simp] def eq63_20 := id q63_20.eq_1
def q63_21 : List AOper :=
  [⟨.move .look (.p 0), (some 185), none⟩,
 ⟨.fieldAddr 0 (.p 5), (some 186), none⟩,
 ⟨.load .look false 1 (.p 186), (some 187), none⟩,
 ⟨.fieldAddr 5 (.p 6), (some 188), none⟩,
 ⟨.load .look false 1 (.p 188), (some 189), none⟩,
 ⟨.fieldAddr 4 (.p 6), (some 190), none⟩,
 ⟨.load .look false 1 (.p 190), (some 191), none⟩,
 ⟨.call 105 [(.p 185, false), (.p 187, false), (.p 189, false), (.p 191, false)], (some 192), none⟩]
@[simp] def eq63_21 := id q63_21.eq_1
def q63_22 : List AOper :=
  [⟨.move .look (.p 0), (some 195), none⟩,
 ⟨.fieldAddr 0 (.p 5), (some 196), none⟩,
 ⟨.load .look false 1 (.p 196), (some 197), none⟩,
 ⟨.call 106 [(.p 195, false), (.p 197, false)], (some 198), none⟩]
@[simp] def eq63_22 := id q63_22.eq_1
def q63_23 : List AOper :=
  [⟨.move .look (.p 0), (some 201), none⟩,
 ⟨.fieldAddr 0 (.p 5), (some 202), none⟩,
 ⟨.load .look false 1 (.p 202), (some 203), none⟩,
 ⟨.call 107 [(.p 201, false), (.p 203, false)], (some 204), none⟩]
@[simp] def eq63_23 := id q63_23.eq_1
def q63_24 : List AOper :=
  [⟨.bin .eql 1 true (.p 16) (.c (.int .i64 255)), (some 200), none⟩,
 ⟨.assign (.p 200), (some 199), none⟩]
@[simp] def eq63_24 := id q63_24.eq_1
def q63_25 : List AOper :=
  [⟨.bin .eql 1 true (.p 16) (.c (.int .i64 127)), (some 194), none⟩,
 ⟨.assign (.p 194), (some 193), none⟩]
@[simp] def eq63_25 := id q63_25.eq_1
def q63_26 : List AOper :=
  [⟨.bin .eql 1 true (.p 16) (.c (.int .i64 19)), (some 184), none⟩,
 ⟨.assign (.p 184), (some 183), none⟩]
@[simp] def eq63_26 := id q63_26.eq_1
def q63_27 : List AOper :=
  [⟨.bin .eql 1 true (.p 16) (.c (.int .i64 18)), (some 176), none⟩,
 ⟨.assign (.p 176), (some 175), none⟩]
@[simp] def eq63_27 := id q63_27.eq_1
def q63_28 : List AOper :=
  [⟨.bin .eql 1 true (.p 16) (.c (.int .i64 17)), (some 163), none⟩,
 ⟨.assign (.p 163), (some 162), none⟩]
@[simp] def eq63_28 := id q63_28.eq_1
def q63_29 : List AOper :=
  [⟨.bin .eql 1 true (.p 16) (.c (.int .i64 16)), (some 154), none⟩,
 ⟨.assign (.p 154), (some 153), none⟩]
@[simp] def eq63_29 := id q63_29.eq_1
def q63_30 : List AOper :=
  [⟨.bin .eql 1 true (.p 16) (.c (.int .i64 15)), (some 143), none⟩,
 ⟨.assign (.p 143), (some 142), none⟩]
@[simp] def eq63_30 := id q63_30.eq_1
def q63_31 : List AOper :=
  [⟨.bin .eql 1 true (.p 16) (.c (.int .i64 14)), (some 135), none⟩,
 ⟨.assign (.p 135), (some 134), none⟩]
@[simp] def eq63_31 := id q63_31.eq_1
def q63_32 : List AOper :=
  [⟨.bin .eql 1 true (.p 16) (.c (.int .i64 13)), (some 127), none⟩,
 ⟨.assign (.p 127), (some 126), none⟩]
@[simp] def eq63_32 := id q63_32.eq_1
def q63_33 : List AOper :=
  [⟨.bin .eql 1 true (.p 16) (.c (.int .i64 12)), (some 116), none⟩,
 ⟨.assign (.p 116), (some 115), none⟩]
@[simp] def eq63_33 := id q63_33.eq_1
def q63_34 : List AOper :=
  [⟨.bin .eql 1 true (.p 16) (.c (.int .i64 11)), (some 106), none⟩,
 ⟨.assign (.p 106), (some 105), none⟩]
@[simp] def eq63_34 := id q63_34.eq_1
def q63_35 : List AOper :=
  [⟨.bin .eql 1 true (.p 16) (.c (.int .i64 10)), (some 100), none⟩,
 ⟨.assign (.p 100), (some 99), none⟩]
@[simp] def eq63_35 := id q63_35.eq_1
def q63_36 : List AOper :=
  [⟨.bin .eql 1 true (.p 16) (.c (.int .i64 9)), (some 92), none⟩,
 ⟨.assign (.p 92), (some 91), none⟩]
@[simp] def eq63_36 := id q63_36.eq_1
def q63_37 : List AOper :=
  [⟨.bin .eql 1 true (.p 16) (.c (.int .i64 8)), (some 83), none⟩,
 ⟨.assign (.p 83), (some 82), none⟩]
@[simp] def eq63_37 := id q63_37.eq_1
def q63_38 : List AOper :=
  [⟨.bin .eql 1 true (.p 16) (.c (.int .i64 7)), (some 74), none⟩,
 ⟨.assign (.p 74), (some 73), none⟩]
@[simp] def eq63_38 := id q63_38.eq_1
def q63_39 : List AOper :=
  [⟨.bin .eql 1 true (.p 16) (.c (.int .i64 6)), (some 68), none⟩,
 ⟨.assign (.p 68), (some 67), none⟩]
@[simp] def eq63_39 := id q63_39.eq_1
def q63_40 : List AOper :=
  [⟨.bin .eql 1 true (.p 16) (.c (.int .i64 5)), (some 57), none⟩,
 ⟨.assign (.p 57), (some 56), none⟩]
@[simp] def eq63_40 := id q63_40.eq_1
def q63_41 : List AOper :=
  [⟨.bin .eql 1 true (.p 16) (.c (.int .i64 4)), (some 47), none⟩,
 ⟨.assign (.p 47), (some 46), none⟩]
@[simp] def eq63_41 := id q63_41.eq_1
def q63_42 : List AOper :=
  [⟨.bin .eql 1 true (.p 16) (.c (.int .i64 3)), (some 35), none⟩,
 ⟨.assign (.p 35), (some 34), none⟩]
@[simp] def eq63_42 := id q63_42.eq_1
def q63_43 : List AOper :=
  [⟨.bin .eql 1 true (.p 16) (.c (.int .i64 2)), (some 27), none⟩,
 ⟨.assign (.p 27), (some 26), none⟩]
@[simp] def eq63_43 := id q63_43.eq_1
def q63_44 : List AOper :=
  [⟨.bin .eql 1 true (.p 16) (.c (.int .i64 1)), (some 18), none⟩,
 ⟨.assign (.p 18), (some 17), none⟩]
@[simp] def eq63_44 := id q63_44.eq_1
def q63_45 : List AOper :=
  [⟨.fieldAddr 0 (.p 6), (some 15), none⟩,
 ⟨.load .head false 1 (.p 15), (some 16), none⟩]
@[simp] def eq63_45 := id q63_45.eq_1
def q63_46 : List AOper :=
  [⟨.fieldAddr 1 (.p 5), (some 13), none⟩,
 ⟨.load .take true 8 (.p 13), (some 14), none⟩,
 ⟨.newbox 6 [.int .i64 0, .str [], .str [], .int .i64 0, .int .u64 0, .int .u64 0, .slice .nil 0 1 [], .slice .nil 0 1 []], (some 6), none⟩,
 ⟨.store 8 (.p 6) (.p 14), none, none⟩]
@[simp] def eq63_46 := id q63_46.eq_1
def q63_47 : List AOper :=
  [⟨.indexAddr 9 (.t 7) (.p 9), (some 11), none⟩,
 ⟨.load .take true 9 (.p 11), (some 12), none⟩,
 ⟨.newbox 5 [.str [], .int .i64 0, .str [], .str [], .int .i64 0, .int .u64 0, .int .u64 0, .slice .nil 0 1 [], .slice .nil 0 1 []], (some 5), none⟩,
 ⟨.store 9 (.p 5) (.p 12), none, none⟩]
@[simp] def eq63_47 := id q63_47.eq_1
def q63_48 : List AOper :=
  [⟨.move .look (.t 1), (some 7), none⟩,
 ⟨.len false (.p 7), (some 8), none⟩,
 ⟨.move .head (.c (.int .i64 0)), (some 9), none⟩]
@[simp] def eq63_48 := id q63_48.eq_1
def k63_0 : ACode :=
  .ops q63_0 .skip
@[simp] def xk63_0 := @xOps _ _ _ k63_0.eq_1
def k63_1 : ACode :=
  .ops q63_1 .skip
def k63_2 : ACode :=
  .ops q63_2 .skip
def k63_3 : ACode :=
  .ops q63_3 .skip
def k63_4 : ACode :=
  .ops q63_4 k63_3
def k63_5 : ACode :=
  .ops q63_5 k63_4
def k63_6 : ACode :=
  .ops q63_6 .skip
def k63_7 : ACode :=
  .ops q63_7 .skip
def k63_8 : ACode :=
  .ops q63_8 .skip
def k63_9 : ACode :=
  .ops q63_9 .skip
def k63_10 : ACode :=
  .ops q63_10 .skip
def k63_11 : ACode :=
  .ops q63_11 .skip
def k63_12 : ACode :=
  .ops q63_12 .skip
def k63_13 : ACode :=
  .ops q63_13 .skip
def k63_14 : ACode :=
  .ops q63_14 .skip
def k63_15 : ACode :=
  .ops q63_15 .skip
def k63_16 : ACode :=
  .ops q63_16 .skip
def k63_17 : ACode :=
  .ops q63_17 .skip
def k63_18 : ACode :=
  .ops q63_18 .skip
@[simp] def xk63_18 := @xOps _ _ _ k63_18.eq_1
def k63_19 : ACode :=
  .ops q63_19 .skip
def k63_20 : ACode :=
  .ops q63_20 .skip
def k63_21 : ACode :=
  .ops q63_21 .skip
def k63_22 : ACode :=
  .ops q63_22 .skip
def k63_23 : ACode :=
  .ops q63_23 .skip
def k63_24 : ACode :=
  .cond (.p 199) k63_23 .skip
def k63_25 : ACode :=
  .ops q63_24 k63_24
def k63_26 : ACode :=
  .cond (.p 193) k63_22 k63_25
def k63_27 : ACode :=
  .ops q63_25 k63_26
def k63_28 : ACode :=
  .cond (.p 183) k63_21 k63_27
def k63_29 : ACode :=
  .ops q63_26 k63_28
def k63_30 : ACode :=
  .cond (.p 175) k63_20 k63_29
def k63_31 : ACode :=
  .ops q63_27 k63_30
def k63_32 : ACode :=
  .cond (.p 162) k63_19 k63_31
def k63_33 : ACode :=
  .ops q63_28 k63_32
def k63_34 : ACode :=
  .cond (.p 153) k63_18 k63_33
@[simp] def xk63_34 := @xCond _ _ _ _ k63_34.eq_1
def k63_35 : ACode :=
  .ops q63_29 k63_34
@[simp] def xk63_35 := @xOps _ _ _ k63_35.eq_1
def k63_36 : ACode :=
  .cond (.p 142) k63_17 k63_35
@[simp] def xk63_36 := @xCond _ _ _ _ k63_36.eq_1
def k63_37 : ACode :=
  .ops q63_30 k63_36
@[simp] def xk63_37 := @xOps _ _ _ k63_37.eq_1
def k63_38 : ACode :=
  .cond (.p 134) k63_16 k63_37
@[simp] def xk63_38 := @xCond _ _ _ _ k63_38.eq_1
def k63_39 : ACode :=
  .ops q63_31 k63_38
@[simp] def xk63_39 := @xOps _ _ _ k63_39.eq_1
def k63_40 : ACode :=
  .cond (.p 126) k63_15 k63_39
@[simp] def xk63_40 := @xCond _ _ _ _ k63_40.eq_1
def k63_41 : ACode :=
  .ops q63_32 k63_40
@[simp] def xk63_41 := @xOps _ _ _ k63_41.eq_1
def k63_42 : ACode :=
  .cond (.p 115) k63_14 k63_41
@[simp] def xk63_42 := @xCond _ _ _ _ k63_42.eq_1
def k63_43 : ACode :=
  .ops q63_33 k63_42
@[simp] def xk63_43 := @xOps _ _ _ k63_43.eq_1
def k63_44 : ACode :=
  .cond (.p 105) k63_13 k63_43
@[simp] def xk63_44 := @xCond _ _ _ _ k63_44.eq_1
def k63_45 : ACode :=
  .ops q63_34 k63_44
@[simp] def xk63_45 := @xOps _ _ _ k63_45.eq_1
def k63_46 : ACode :=
  .cond (.p 99) k63_12 k63_45
@[simp] def xk63_46 := @xCond _ _ _ _ k63_46.eq_1
def k63_47 : ACode :=
  .ops q63_35 k63_46
@[simp] def xk63_47 := @xOps _ _ _ k63_47.eq_1
def k63_48 : ACode :=
  .cond (.p 91) k63_11 k63_47
@[simp] def xk63_48 := @xCond _ _ _ _ k63_48.eq_1
def k63_49 : ACode :=
  .ops q63_36 k63_48
@[simp] def xk63_49 := @xOps _ _ _ k63_49.eq_1
def k63_50 : ACode :=
  .cond (.p 82) k63_10 k63_49
@[simp] def xk63_50 := @xCond _ _ _ _ k63_50.eq_1
def k63_51 : ACode :=
  .ops q63_37 k63_50
@[simp] def xk63_51 := @xOps _ _ _ k63_51.eq_1
def k63_52 : ACode :=
  .cond (.p 73) k63_9 k63_51
@[simp] def xk63_52 := @xCond _ _ _ _ k63_52.eq_1
def k63_53 : ACode :=
  .ops q63_38 k63_52
@[simp] def xk63_53 := @xOps _ _ _ k63_53.eq_1
def k63_54 : ACode :=
  .cond (.p 67) k63_8 k63_53
@[simp] def xk63_54 := @xCond _ _ _ _ k63_54.eq_1
def k63_55 : ACode :=
  .ops q63_39 k63_54
@[simp] def xk63_55 := @xOps _ _ _ k63_55.eq_1
def k63_56 : ACode :=
  .cond (.p 56) k63_7 k63_55
@[simp] def xk63_56 := @xCond _ _ _ _ k63_56.eq_1
def k63_57 : ACode :=
  .ops q63_40 k63_56
@[simp] def xk63_57 := @xOps _ _ _ k63_57.eq_1
def k63_58 : ACode :=
  .cond (.p 46) k63_6 k63_57
@[simp] def xk63_58 := @xCond _ _ _ _ k63_58.eq_1
def k63_59 : ACode :=
  .ops q63_41 k63_58
@[simp] def xk63_59 := @xOps _ _ _ k63_59.eq_1
def k63_60 : ACode :=
  .cond (.p 34) k63_5 k63_59
@[simp] def xk63_60 := @xCond _ _ _ _ k63_60.eq_1
def k63_61 : ACode :=
  .ops q63_42 k63_60
@[simp] def xk63_61 := @xOps _ _ _ k63_61.eq_1
def k63_62 : ACode :=
  .cond (.p 26) k63_2 k63_61
@[simp] def xk63_62 := @xCond _ _ _ _ k63_62.eq_1
def k63_63 : ACode :=
  .ops q63_43 k63_62
@[simp] def xk63_63 := @xOps _ _ _ k63_63.eq_1
def k63_64 : ACode :=
  .cond (.p 17) k63_1 k63_63
@[simp] def xk63_64 := @xCond _ _ _ _ k63_64.eq_1
def k63_65 : ACode :=
  .ops q63_44 k63_64
@[simp] def xk63_65 := @xOps _ _ _ k63_65.eq_1
def k63_66 : ACode :=
  .block 2 k63_65
@[simp] def xk63_66 := @xBlock _ _ _ k63_66.eq_1
def k63_67 : ACode :=
  .ops q63_45 k63_66
@[simp] def xk63_67 := @xOps _ _ _ k63_67.eq_1
def k63_68 : ACode :=
  .ops q63_46 k63_67
@[simp] def xk63_68 := @xOps _ _ _ k63_68.eq_1
def k63_69 : ACode :=
  .ops q63_47 k63_68
@[simp] def xk63_69 := @xOps _ _ _ k63_69.eq_1
def k63_70 : ACode :=
  .block 1 k63_69
@[simp] def xk63_70 := @xBlock _ _ _ k63_70.eq_1
def k63_71 : ACode :=
  .seq k63_70 k63_0
@[simp] def xk63_71 := @xSeq _ _ _ k63_71.eq_1
def k63_72 : ACode :=
  .cond (.p 10) .skip (.exit 0)
@[simp] def xk63_72 := @xCond _ _ _ _ k63_72.eq_1
def k63_73 : ACode :=
  .seq k63_72 k63_71
@[simp] def xk63_73 := @xSeq _ _ _ k63_73.eq_1
def k63_74 : ACode :=
  .ops [⟨.bin .lss 1 false (.p 9) (.p 8), (some 10), none⟩] k63_73
@[simp] def xk63_74 := @xOps _ _ _ k63_74.eq_1
def lc63_0 : ACode :=
  k63_74
@[simp] def xlc63_0 := @xSame _ _ lc63_0.eq_1
def k63_76 : ACode :=
  .loop lc63_0
@[simp] def xk63_76 := @xLoop _ _ k63_76.eq_1
def k63_77 : ACode :=
  .block 0 k63_76
@[simp] def xk63_77 := @xBlock _ _ _ k63_77.eq_1
def k63_78 : ACode :=
  .seq k63_77 .ret
@[simp] def xk63_78 := @xSeq _ _ _ k63_78.eq_1
def k63_79 : ACode :=
  .ops q63_48 k63_78
@[simp] def xk63_79 := @xOps _ _ _ k63_79.eq_1
def af63 : AFunc := ⟨206, k63_79, [], fun _ _ => none⟩

theorem ok63 : ∃ hs, pFunc Tryz.prog sg hs Tryz.f63 = some af63 := ⟨fun i => if i == 7 then 5 else 0, by kernel_rfl⟩
def q150_0 : List AOper :=
  [⟨.move .look (.p 0), (some 3), none⟩,
 ⟨.build [.str []] [(0, 1, .p 3)], (some 4), none⟩,
 ⟨.boxobj (.p 4), (some 5), none⟩,
 ⟨.mkIface 253 (.p 5), (some 6), none⟩,
 ⟨.assign (.p 6), (some 2), none⟩]
@[simp] def eq150_0 := id q150_0.eq_1
def k150_0 : ACode :=
  .ops q150_0 .ret
def k150_1 : ACode :=
  .ops [⟨.assign (.c (.nilI)), (some 2), none⟩] k150_0
def af150 : AFunc := ⟨7, k150_1, [.tmp 2], fun _ _ => none⟩

theorem ok150 : ∃ hs, pFunc Tryz.prog sg hs Tryz.f150 = some af150 := ⟨fun i => if i == 5 then 1 else 0, by kernel_rfl⟩
def q202_0 : List AOper :=
  [⟨.move .look (.m 1), (some 23), none⟩,
 ⟨.move .look (.p 2), (some 24), none⟩,
 ⟨.bin .shr 1 true (.p 24) (.c (.int .u64 24)), (some 25), none⟩,
 ⟨.convInt .u8 (.p 25), (some 26), none⟩,
 ⟨.indexAddr 1 (.m 23) (.c (.int .i64 3)), (some 27), none⟩,
 ⟨.store 1 (.p 27) (.p 26), none, none⟩]
@[simp] def eq202_0 := id q202_0.eq_1
def q202_1 : List AOper :=
  [⟨.move .look (.m 1), (some 18), none⟩,
 ⟨.move .look (.p 2), (some 19), none⟩,
 ⟨.bin .shr 1 true (.p 19) (.c (.int .u64 16)), (some 20), none⟩,
 ⟨.convInt .u8 (.p 20), (some 21), none⟩,
 ⟨.indexAddr 1 (.m 18) (.c (.int .i64 2)), (some 22), none⟩,
 ⟨.store 1 (.p 22) (.p 21), none, none⟩]
@[simp] def eq202_1 := id q202_1.eq_1
def q202_2 : List AOper :=
  [⟨.move .look (.m 1), (some 13), none⟩,
 ⟨.move .look (.p 2), (some 14), none⟩,
 ⟨.bin .shr 1 true (.p 14) (.c (.int .u64 8)), (some 15), none⟩,
 ⟨.convInt .u8 (.p 15), (some 16), none⟩,
 ⟨.indexAddr 1 (.m 13) (.c (.int .i64 1)), (some 17), none⟩,
 ⟨.store 1 (.p 17) (.p 16), none, none⟩]
@[simp] def eq202_2 := id q202_2.eq_1
def q202_3 : List AOper :=
  [⟨.move .look (.m 1), (some 9), none⟩,
 ⟨.move .look (.p 2), (some 10), none⟩,
 ⟨.convInt .u8 (.p 10), (some 11), none⟩,
 ⟨.indexAddr 1 (.m 9) (.c (.int .i64 0)), (some 12), none⟩,
 ⟨.store 1 (.p 12) (.p 11), none, none⟩]
@[simp] def eq202_3 := id q202_3.eq_1
def q202_4 : List AOper :=
  [⟨.move .look (.t 1), (some 6), none⟩,
 ⟨.indexAddr 1 (.t 6) (.c (.int .i64 3)), (some 7), none⟩,
 ⟨.load .head false 1 (.p 7), (some 8), none⟩]
@[simp] def eq202_4 := id q202_4.eq_1
def k202_0 : ACode :=
  .ops q202_0 .ret
@[simp] def xk202_0 := @xOps _ _ _ k202_0.eq_1
def k202_1 : ACode :=
  .ops q202_1 k202_0
@[simp] def xk202_1 := @xOps _ _ _ k202_1.eq_1
def k202_2 : ACode :=
  .ops q202_2 k202_1
@[simp] def xk202_2 := @xOps _ _ _ k202_2.eq_1
def k202_3 : ACode :=
  .ops q202_3 k202_2
@[simp] def xk202_3 := @xOps _ _ _ k202_3.eq_1
def k202_4 : ACode :=
  .ops q202_4 k202_3
@[simp] def xk202_4 := @xOps _ _ _ k202_4.eq_1
def k202_5 : ACode :=
  .ops [⟨.box 3 (.p 0), (some 3), none⟩] k202_4
@[simp] def xk202_5 := @xOps _ _ _ k202_5.eq_1
def af202 : AFunc := ⟨28, k202_5, [], fun _ _ => none⟩

theorem ok202 : ∃ hs, pFunc Tryz.prog sg hs Tryz.f202 = some af202 := ⟨fun i => if i == 9 then 1 else if i == 12 then 1 else if i == 13 then 1 else if i == 17 then 1 else if i == 18 then 1 else if i == 22 then 1 else if i == 23 then 1 else if i == 27 then 1 else 0, by kernel_rfl⟩
def q151_0 : List AOper :=
  [⟨.move .take (.t 0), (some 14), none⟩,
 ⟨.assign (.t 14), (some 6), none⟩]
@[simp] def eq151_0 := id q151_0.eq_1
def q151_1 : List AOper :=
  [⟨.load .look true 0 (.c (.gl 5)), (some 7), none⟩,
 ⟨.move .look (.m 0), (some 8), none⟩,
 ⟨.move .head (.p 1), (some 9), none⟩,
 ⟨.sliceSl 1 (.m 8) (some (.p 9)) none, (some 10), none⟩,
 ⟨.move .look (.p 2), (some 11), none⟩,
 ⟨.convInt .u32 (.p 11), (some 12), none⟩,
 ⟨.hcall 202 [(.p 7, false), (.m 10, false), (.p 12, false)], (some 13), none⟩]
@[simp] def eq151_1 := id q151_1.eq_1
def k151_0 : ACode :=
  .ops q151_0 .ret
@[simp] def xk151_0 := @xOps _ _ _ k151_0.eq_1
def k151_1 : ACode :=
  .ops q151_1 k151_0
@[simp] def xk151_1 := @xOps _ _ _ k151_1.eq_1
def k151_2 : ACode :=
  .ops [⟨.assign (.c (.slice .nil 0 1 [])), (some 6), none⟩] k151_1
@[simp] def xk151_2 := @xOps _ _ _ k151_2.eq_1
def af151 : AFunc := ⟨15, k151_2, [.tmp 6], fun _ _ => none⟩

theorem ok151 : ∃ hs, pFunc Tryz.prog sg hs Tryz.f151 = some af151 := ⟨fun i => if i == 8 then 1 else if i == 10 then 1 else 0, by kernel_rfl⟩
def q108_0 : List AOper :=
  [⟨.move .take (.t 0), (some 25), none⟩,
 ⟨.assign (.t 25), (some 4), none⟩,
 ⟨.assign (.c (.nilI)), (some 5), none⟩]
@[simp] def eq108_0 := id q108_0.eq_1
def q108_1 : List AOper :=
  [⟨.move .take (.t 0), (some 17), none⟩,
 ⟨.move .look (.p 1), (some 18), none⟩,
 ⟨.move .head (.t 0), (some 19), none⟩,
 ⟨.move .head (.p 1), (some 20), none⟩,
 ⟨.sliceSl 1 (.t 19) (some (.p 20)) none, (some 21), none⟩,
 ⟨.len false (.p 21), (some 22), none⟩,
 ⟨.convInt .i32 (.p 22), (some 23), none⟩,
 ⟨.call 151 [(.t 17, true), (.p 18, false), (.p 23, false)], (some 24), none⟩,
 ⟨.assign (.t 24), (some 0), none⟩]
@[simp] def eq108_1 := id q108_1.eq_1
def q108_2 : List AOper :=
  [⟨.move .take (.t 0), (some 14), none⟩,
 ⟨.buildSl 5 1 [.int .u8 0] [(0, 1, .c (.int .u8 0))], (some 15), none⟩,
 ⟨.append 5 1 1 false (.t 14) (.p 15), (some 16), none⟩,
 ⟨.assign (.t 16), (some 0), none⟩]
@[simp] def eq108_2 := id q108_2.eq_1
def q108_3 : List AOper :=
  [⟨.move .take (.t 0), (some 12), none⟩,
 ⟨.hcall 150 [(.c (.str [110, 111, 116, 32, 101, 110, 111, 117, 103, 104, 32, 98, 121, 116, 101, 115, 32, 97, 118, 97, 105, 108, 97, 98, 108, 101, 32, 97, 102, 116, 101, 114, 32, 105, 110, 100, 101, 120, 32, 116, 111, 32, 119, 114, 105, 116, 101, 32, 108, 101, 110, 103, 116, 104]), false)], (some 13), none⟩,
 ⟨.assign (.t 12), (some 4), none⟩,
 ⟨.assign (.p 13), (some 5), none⟩]
@[simp] def eq108_3 := id q108_3.eq_1
def q108_4 : List AOper :=
  [⟨.move .look (.p 1), (some 6), none⟩,
 ⟨.convInt .i64 (.p 6), (some 7), none⟩,
 ⟨.move .head (.t 0), (some 8), none⟩,
 ⟨.len false (.p 8), (some 9), none⟩,
 ⟨.bin .sub 1 true (.p 9) (.c (.int .i64 4)), (some 10), none⟩,
 ⟨.bin .gtr 1 false (.p 7) (.p 10), (some 11), none⟩]
@[simp] def eq108_4 := id q108_4.eq_1
def q108_5 : List AOper :=
  [⟨.assign (.c (.slice .nil 0 1 [])), (some 4), none⟩,
 ⟨.assign (.c (.nilI)), (some 5), none⟩]
@[simp] def eq108_5 := id q108_5.eq_1
def k108_0 : ACode :=
  .ops q108_0 .ret
@[simp] def xk108_0 := @xOps _ _ _ k108_0.eq_1
def k108_1 : ACode :=
  .ops q108_1 k108_0
@[simp] def xk108_1 := @xOps _ _ _ k108_1.eq_1
def k108_2 : ACode :=
  .ops q108_2 k108_1
@[simp] def xk108_2 := @xOps _ _ _ k108_2.eq_1
def k108_3 : ACode :=
  .ops q108_3 .ret
def k108_4 : ACode :=
  .cond (.p 11) k108_3 .skip
@[simp] def xk108_4 := @xCond _ _ _ _ k108_4.eq_1
def k108_5 : ACode :=
  .seq k108_4 k108_2
@[simp] def xk108_5 := @xSeq _ _ _ k108_5.eq_1
def k108_6 : ACode :=
  .ops q108_4 k108_5
@[simp] def xk108_6 := @xOps _ _ _ k108_6.eq_1
def k108_7 : ACode :=
  .ops q108_5 k108_6
@[simp] def xk108_7 := @xOps _ _ _ k108_7.eq_1
def af108 : AFunc := ⟨26, k108_7, [.tmp 4, .tmp 5], fun _ _ => none⟩

theorem ok108 : ∃ hs, pFunc Tryz.prog sg hs Tryz.f108 = some af108 := ⟨fun i => 0, by kernel_rfl⟩
def q64_0 : List AOper :=
  [⟨.move .look (.p 0), (some 37), none⟩,
 ⟨.nilCheck (.p 37), (some 38), none⟩,
 ⟨.fieldAddr 0 (.p 38), (some 39), none⟩,
 ⟨.load .take false 1 (.p 39), (some 40), none⟩,
 ⟨.assign (.t 40), (some 2), none⟩]
@[simp] def eq64_0 := id q64_0.eq_1
def q64_1 : List AOper :=
  [⟨.move .look (.p 0), (some 28), none⟩,
 ⟨.move .look (.p 0), (some 29), none⟩,
 ⟨.nilCheck (.p 29), (some 30), none⟩,
 ⟨.fieldAddr 1 (.p 30), (some 31), none⟩,
 ⟨.load .look false 1 (.p 31), (some 32), none⟩,
 ⟨.move .head (.p 3), (some 33), none⟩,
 ⟨.sliceSl 1 (.t 32) none (some (.p 33)), (some 34), none⟩,
 ⟨.nilCheck (.p 28), (some 35), none⟩,
 ⟨.fieldAddr 1 (.p 35), (some 36), none⟩,
 ⟨.store 1 (.p 36) (.t 34), none, none⟩]
@[simp] def eq64_1 := id q64_1.eq_1
def q64_2 : List AOper :=
  [⟨.move .look (.p 0), (some 11), none⟩,
 ⟨.move .look (.p 0), (some 12), none⟩,
 ⟨.nilCheck (.p 12), (some 13), none⟩,
 ⟨.fieldAddr 0 (.p 13), (some 14), none⟩,
 ⟨.load .take false 1 (.p 14), (some 15), none⟩,
 ⟨.move .look (.p 0), (some 16), none⟩,
 ⟨.nilCheck (.p 16), (some 17), none⟩,
 ⟨.fieldAddr 1 (.p 17), (some 18), none⟩,
 ⟨.load .look false 1 (.p 18), (some 19), none⟩,
 ⟨.move .look (.p 3), (some 20), none⟩,
 ⟨.indexAddr 1 (.t 19) (.p 20), (some 21), none⟩,
 ⟨.load .look false 1 (.p 21), (some 22), none⟩,
 ⟨.hcall 108 [(.t 15, true), (.p 22, false)], (some 23), none⟩,
 ⟨.move .look (.t 23), (some 10), none⟩,
 ⟨.extract 10 0, (some 24), none⟩,
 ⟨.extract 10 1, (some 25), none⟩,
 ⟨.nilCheck (.p 11), (some 26), none⟩,
 ⟨.fieldAddr 0 (.p 26), (some 27), none⟩,
 ⟨.store 1 (.p 27) (.t 24), none, none⟩]
@[simp] def eq64_2 := id q64_2.eq_1
def q64_3 : List AOper :=
  [⟨.move .look (.p 0), (some 4), none⟩,
 ⟨.nilCheck (.p 4), (some 5), none⟩,
 ⟨.fieldAddr 1 (.p 5), (some 6), none⟩,
 ⟨.load .head false 1 (.p 6), (some 7), none⟩,
 ⟨.len false (.p 7), (some 8), none⟩,
 ⟨.bin .sub 1 true (.p 8) (.c (.int .i64 1)), (some 9), none⟩,
 ⟨.assign (.p 9), (some 3), none⟩]
@[simp] def eq64_3 := id q64_3.eq_1
def k64_0 : ACode :=
  .ops q64_0 .ret
@[simp] def xk64_0 := @xOps _ _ _ k64_0.eq_1
def k64_1 : ACode :=
  .ops q64_1 k64_0
@[simp] def xk64_1 := @xOps _ _ _ k64_1.eq_1
def k64_2 : ACode :=
  .ops q64_2 k64_1
@[simp] def xk64_2 := @xOps _ _ _ k64_2.eq_1
def k64_3 : ACode :=
  .ops q64_3 k64_2
@[simp] def xk64_3 := @xOps _ _ _ k64_3.eq_1
def k64_4 : ACode :=
  .ops [⟨.assign (.c (.slice .nil 0 1 [])), (some 2), none⟩] k64_3
@[simp] def xk64_4 := @xOps _ _ _ k64_4.eq_1
def af64 : AFunc := ⟨41, k64_4, [.tmp 2], fun _ _ => none⟩

theorem ok64 : ∃ hs, pFunc Tryz.prog sg hs Tryz.f64 = some af64 := ⟨fun i => 0, by kernel_rfl⟩
def q39_0 : List AOper :=
  [⟨.move .look (.p 3), (some 8), none⟩,
 ⟨.hcall 64 [(.p 8, false)], (some 9), none⟩,
 ⟨.assign (.t 9), (some 2), none⟩]
@[simp] def eq39_0 := id q39_0.eq_1
def q39_1 : List AOper :=
  [⟨.move .look (.p 3), (some 5), none⟩,
 ⟨.move .look (.t 0), (some 6), none⟩,
 ⟨.hcall 63 [(.p 5, false), (.t 6, false)], (some 7), none⟩]
@[simp] def eq39_1 := id q39_1.eq_1
def q39_2 : List AOper :=
  [⟨.hcall 62 [], (some 4), none⟩,
 ⟨.assign (.p 4), (some 3), none⟩]
@[simp] def eq39_2 := id q39_2.eq_1
def k39_0 : ACode :=
  .ops q39_0 .ret
@[simp] def xk39_0 := @xOps _ _ _ k39_0.eq_1
def k39_1 : ACode :=
  .ops q39_1 k39_0
@[simp] def xk39_1 := @xOps _ _ _ k39_1.eq_1
def k39_2 : ACode :=
  .ops q39_2 k39_1
@[simp] def xk39_2 := @xOps _ _ _ k39_2.eq_1
def k39_3 : ACode :=
  .ops [⟨.assign (.c (.slice .nil 0 1 [])), (some 2), none⟩] k39_2
@[simp] def xk39_3 := @xOps _ _ _ k39_3.eq_1
def af39 : AFunc := ⟨10, k39_3, [.tmp 2], fun _ _ => none⟩

theorem ok39 : ∃ hs, pFunc Tryz.prog sg hs Tryz.f39 = some af39 := ⟨fun i => 0, by kernel_rfl⟩
def q152_0 : List AOper :=
  [⟨.move .take (.p 6), (some 92), none⟩,
 ⟨.move .take (.p 7), (some 93), none⟩,
 ⟨.assign (.p 92), (some 4), none⟩,
 ⟨.assign (.p 93), (some 5), none⟩]
@[simp] def eq152_0 := id q152_0.eq_1
def q152_1 : List AOper :=
  [⟨.move .look (.p 6), (some 90), none⟩,
 ⟨.bin .lss 1 true (.p 90) (.c (.int .i32 0)), (some 91), none⟩]
@[simp] def eq152_1 := id q152_1.eq_1
def q152_2 : List AOper :=
  [⟨.move .look (.t 0), (some 16), none⟩,
 ⟨.call 77 [(.t 16, false)], (some 17), none⟩,
 ⟨.move .look (.t 17), (some 15), none⟩,
 ⟨.extract 15 0, (some 18), none⟩,
 ⟨.extract 15 1, (some 19), none⟩,
 ⟨.extract 15 2, (some 20), none⟩,
 ⟨.assign (.p 18), (some 6), none⟩,
 ⟨.assign (.p 20), (some 7), none⟩]
@[simp] def eq152_2 := id q152_2.eq_1
def q152_3 : List AOper :=
  [⟨.move .look (.p 6), (some 29), none⟩,
 ⟨.bin .add 1 true (.p 29) (.c (.int .i32 5)), (some 30), none⟩,
 ⟨.assign (.p 30), (some 6), none⟩]
@[simp] def eq152_3 := id q152_3.eq_1
def q152_4 : List AOper :=
  [⟨.move .look (.t 0), (some 24), none⟩,
 ⟨.call 77 [(.t 24, false)], (some 25), none⟩,
 ⟨.move .look (.t 25), (some 23), none⟩,
 ⟨.extract 23 0, (some 26), none⟩,
 ⟨.extract 23 1, (some 27), none⟩,
 ⟨.extract 23 2, (some 28), none⟩,
 ⟨.assign (.p 26), (some 6), none⟩,
 ⟨.assign (.p 28), (some 7), none⟩]
@[simp] def eq152_4 := id q152_4.eq_1
def q152_5 : List AOper :=
  [⟨.move .look (.p 6), (some 41), none⟩,
 ⟨.bin .add 1 true (.p 41) (.c (.int .i32 16)), (some 42), none⟩,
 ⟨.assign (.p 42), (some 6), none⟩]
@[simp] def eq152_5 := id q152_5.eq_1
def q152_6 : List AOper :=
  [⟨.move .look (.t 0), (some 36), none⟩,
 ⟨.call 77 [(.t 36, false)], (some 37), none⟩,
 ⟨.move .look (.t 37), (some 35), none⟩,
 ⟨.extract 35 0, (some 38), none⟩,
 ⟨.extract 35 1, (some 39), none⟩,
 ⟨.extract 35 2, (some 40), none⟩,
 ⟨.assign (.p 38), (some 6), none⟩,
 ⟨.assign (.p 40), (some 7), none⟩]
@[simp] def eq152_6 := id q152_6.eq_1
def q152_7 : List AOper :=
  [⟨.move .look (.p 6), (some 62), none⟩,
 ⟨.bin .add 1 true (.p 62) (.c (.int .i32 4)), (some 63), none⟩,
 ⟨.assign (.p 63), (some 6), none⟩]
@[simp] def eq152_7 := id q152_7.eq_1
def q152_8 : List AOper :=
  [⟨.move .look (.t 0), (some 57), none⟩,
 ⟨.call 77 [(.t 57, false)], (some 58), none⟩,
 ⟨.move .look (.t 58), (some 56), none⟩,
 ⟨.extract 56 0, (some 59), none⟩,
 ⟨.extract 56 1, (some 60), none⟩,
 ⟨.extract 56 2, (some 61), none⟩,
 ⟨.assign (.p 59), (some 6), none⟩,
 ⟨.assign (.p 61), (some 7), none⟩]
@[simp] def eq152_8 := id q152_8.eq_1
def q152_9 : List AOper :=
  [⟨.move .look (.p 8), (some 84), none⟩,
 ⟨.bin .add 1 true (.p 84) (.c (.int .i64 1)), (some 85), none⟩,
 ⟨.move .look (.p 9), (some 86), none⟩,
 ⟨.bin .add 1 false (.p 85) (.p 86), (some 87), none⟩,
 ⟨.bin .add 1 true (.p 87) (.c (.int .i64 1)), (some 88), none⟩,
 ⟨.convInt .i32 (.p 88), (some 89), none⟩,
 ⟨.assign (.p 89), (some 6), none⟩]
@[simp] def eq152_9 := id q152_9.eq_1
def q152_10 : List AOper :=
  [⟨.move .look (.p 9), (some 82), none⟩,
 ⟨.bin .lss 1 true (.p 82) (.c (.int .i64 0)), (some 83), none⟩]
@[simp] def eq152_10 := id q152_10.eq_1
def q152_11 : List AOper :=
  [⟨.move .look (.t 0), (some 77), none⟩,
 ⟨.move .look (.p 8), (some 78), none⟩,
 ⟨.bin .add 1 true (.p 78) (.c (.int .i64 1)), (some 79), none⟩,
 ⟨.sliceSl 1 (.t 77) (some (.p 79)) none, (some 80), none⟩,
 ⟨.call 155 [(.t 80, false), (.c (.int .u8 0), false)], (some 81), none⟩,
 ⟨.assign (.p 81), (some 9), none⟩]
@[simp] def eq152_11 := id q152_11.eq_1
def q152_12 : List AOper :=
  [⟨.move .look (.p 8), (some 75), none⟩,
 ⟨.bin .lss 1 true (.p 75) (.c (.int .i64 0)), (some 76), none⟩]
@[simp] def eq152_12 := id q152_12.eq_1
def q152_13 : List AOper :=
  [⟨.move .look (.t 0), (some 73), none⟩,
 ⟨.call 155 [(.t 73, false), (.c (.int .u8 0), false)], (some 74), none⟩,
 ⟨.assign (.p 74), (some 8), none⟩]
@[simp] def eq152_13 := id q152_13.eq_1
def q152_14 : List AOper :=
  [⟨.bin .eql 1 true (.p 10) (.c (.int .u8 11)), (some 72), none⟩,
 ⟨.assign (.p 72), (some 71), none⟩]
@[simp] def eq152_14 := id q152_14.eq_1
def q152_15 : List AOper :=
  [⟨.bin .eql 1 true (.p 10) (.c (.int .u8 7)), (some 70), none⟩,
 ⟨.assign (.p 70), (some 69), none⟩]
@[simp] def eq152_15 := id q152_15.eq_1
def q152_16 : List AOper :=
  [⟨.bin .eql 1 true (.p 10) (.c (.int .u8 6)), (some 68), none⟩,
 ⟨.assign (.p 68), (some 64), none⟩]
@[simp] def eq152_16 := id q152_16.eq_1
def q152_17 : List AOper :=
  [⟨.bin .eql 1 true (.p 10) (.c (.int .u8 10)), (some 67), none⟩,
 ⟨.assign (.p 67), (some 64), none⟩]
@[simp] def eq152_17 := id q152_17.eq_1
def q152_18 : List AOper :=
  [⟨.bin .eql 1 true (.p 10) (.c (.int .u8 255)), (some 66), none⟩,
 ⟨.assign (.p 66), (some 64), none⟩]
@[simp] def eq152_18 := id q152_18.eq_1
def q152_19 : List AOper :=
  [⟨.bin .eql 1 true (.p 10) (.c (.int .u8 127)), (some 65), none⟩,
 ⟨.assign (.p 65), (some 64), none⟩]
@[simp] def eq152_19 := id q152_19.eq_1
def q152_20 : List AOper :=
  [⟨.bin .eql 1 true (.p 10) (.c (.int .u8 14)), (some 55), none⟩,
 ⟨.assign (.p 55), (some 52), none⟩]
@[simp] def eq152_20 := id q152_20.eq_1
def q152_21 : List AOper :=
  [⟨.bin .eql 1 true (.p 10) (.c (.int .u8 2)), (some 54), none⟩,
 ⟨.assign (.p 54), (some 52), none⟩]
@[simp] def eq152_21 := id q152_21.eq_1
def q152_22 : List AOper :=
  [⟨.bin .eql 1 true (.p 10) (.c (.int .u8 13)), (some 53), none⟩,
 ⟨.assign (.p 53), (some 52), none⟩]
@[simp] def eq152_22 := id q152_22.eq_1
def q152_23 : List AOper :=
  [⟨.bin .eql 1 true (.p 10) (.c (.int .u8 16)), (some 51), none⟩,
 ⟨.assign (.p 51), (some 50), none⟩]
@[simp] def eq152_23 := id q152_23.eq_1
def q152_24 : List AOper :=
  [⟨.bin .eql 1 true (.p 10) (.c (.int .u8 19)), (some 49), none⟩,
 ⟨.assign (.p 49), (some 48), none⟩]
@[simp] def eq152_24 := id q152_24.eq_1
def q152_25 : List AOper :=
  [⟨.bin .eql 1 true (.p 10) (.c (.int .u8 17)), (some 47), none⟩,
 ⟨.assign (.p 47), (some 43), none⟩]
@[simp] def eq152_25 := id q152_25.eq_1
def q152_26 : List AOper :=
  [⟨.bin .eql 1 true (.p 10) (.c (.int .u8 18)), (some 46), none⟩,
 ⟨.assign (.p 46), (some 43), none⟩]
@[simp] def eq152_26 := id q152_26.eq_1
def q152_27 : List AOper :=
  [⟨.bin .eql 1 true (.p 10) (.c (.int .u8 1)), (some 45), none⟩,
 ⟨.assign (.p 45), (some 43), none⟩]
@[simp] def eq152_27 := id q152_27.eq_1
def q152_28 : List AOper :=
  [⟨.bin .eql 1 true (.p 10) (.c (.int .u8 9)), (some 44), none⟩,
 ⟨.assign (.p 44), (some 43), none⟩]
@[simp] def eq152_28 := id q152_28.eq_1
def q152_29 : List AOper :=
  [⟨.bin .eql 1 true (.p 10) (.c (.int .u8 12)), (some 34), none⟩,
 ⟨.assign (.p 34), (some 33), none⟩]
@[simp] def eq152_29 := id q152_29.eq_1
def q152_30 : List AOper :=
  [⟨.bin .eql 1 true (.p 10) (.c (.int .u8 8)), (some 32), none⟩,
 ⟨.assign (.p 32), (some 31), none⟩]
@[simp] def eq152_30 := id q152_30.eq_1
def q152_31 : List AOper :=
  [⟨.bin .eql 1 true (.p 10) (.c (.int .u8 5)), (some 22), none⟩,
 ⟨.assign (.p 22), (some 21), none⟩]
@[simp] def eq152_31 := id q152_31.eq_1
def q152_32 : List AOper :=
  [⟨.bin .eql 1 true (.p 10) (.c (.int .u8 15)), (some 14), none⟩,
 ⟨.assign (.p 14), (some 11), none⟩]
@[simp] def eq152_32 := id q152_32.eq_1
def q152_33 : List AOper :=
  [⟨.bin .eql 1 true (.p 10) (.c (.int .u8 3)), (some 13), none⟩,
 ⟨.assign (.p 13), (some 11), none⟩]
@[simp] def eq152_33 := id q152_33.eq_1
def q152_34 : List AOper :=
  [⟨.bin .eql 1 true (.p 10) (.c (.int .u8 4)), (some 12), none⟩,
 ⟨.assign (.p 12), (some 11), none⟩]
@[simp] def eq152_34 := id q152_34.eq_1
def q152_35 : List AOper :=
  [⟨.assign (.c (.int .i32 0)), (some 4), none⟩,
 ⟨.assign (.c (.bool false)), (some 5), none⟩]
@[simp] def eq152_35 := id q152_35.eq_1
def k152_0 : ACode :=
  .ops q152_0 .ret
@[simp] def xk152_0 := @xOps _ _ _ k152_0.eq_1
def k152_1 : ACode :=
  .ops [⟨.assign (.c (.bool false)), (some 7), none⟩] .skip
@[simp] def xk152_1 := @xOps _ _ _ k152_1.eq_1
def k152_2 : ACode :=
  .cond (.p 91) k152_1 .skip
@[simp] def xk152_2 := @xCond _ _ _ _ k152_2.eq_1
def k152_3 : ACode :=
  .seq k152_2 k152_0
@[simp] def xk152_3 := @xSeq _ _ _ k152_3.eq_1
def k152_4 : ACode :=
  .ops q152_1 k152_3
@[simp] def xk152_4 := @xOps _ _ _ k152_4.eq_1
def k152_5 : ACode :=
  .ops q152_2 .skip
@[simp] def xk152_5 := @xOps _ _ _ k152_5.eq_1
def k152_6 : ACode :=
  .ops q152_3 .skip
@[simp] def xk152_6 := @xOps _ _ _ k152_6.eq_1
def k152_7 : ACode :=
  .ops q152_4 k152_6
@[simp] def xk152_7 := @xOps _ _ _ k152_7.eq_1
def k152_8 : ACode :=
  .ops [⟨.assign (.c (.int .i32 1)), (some 6), none⟩] .skip
@[simp] def xk152_8 := @xOps _ _ _ k152_8.eq_1
def k152_9 : ACode :=
  .ops q152_5 .skip
@[simp] def xk152_9 := @xOps _ _ _ k152_9.eq_1
def k152_10 : ACode :=
  .ops q152_6 k152_9
@[simp] def xk152_10 := @xOps _ _ _ k152_10.eq_1
def k152_11 : ACode :=
  .ops [⟨.assign (.c (.int .i32 8)), (some 6), none⟩] .skip
@[simp] def xk152_11 := @xOps _ _ _ k152_11.eq_1
def k152_12 : ACode :=
  .ops [⟨.assign (.c (.int .i32 16)), (some 6), none⟩] .skip
@[simp] def xk152_12 := @xOps _ _ _ k152_12.eq_1
def k152_13 : ACode :=
  .ops [⟨.assign (.c (.int .i32 4)), (some 6), none⟩] .skip
@[simp] def xk152_13 := @xOps _ _ _ k152_13.eq_1
def k152_14 : ACode :=
  .ops q152_7 .skip
@[simp] def xk152_14 := @xOps _ _ _ k152_14.eq_1
def k152_15 : ACode :=
  .ops q152_8 k152_14
@[simp] def xk152_15 := @xOps _ _ _ k152_15.eq_1
def k152_16 : ACode :=
  .ops [⟨.assign (.c (.int .i32 0)), (some 6), none⟩] .skip
@[simp] def xk152_16 := @xOps _ _ _ k152_16.eq_1
def k152_17 : ACode :=
  .ops [⟨.assign (.c (.int .i32 12)), (some 6), none⟩] .skip
@[simp] def xk152_17 := @xOps _ _ _ k152_17.eq_1
def k152_18 : ACode :=
  .ops q152_9 .skip
@[simp] def xk152_18 := @xOps _ _ _ k152_18.eq_1
def k152_19 : ACode :=
  .ops [⟨.assign (.c (.bool false)), (some 7), none⟩] (.exit 0)
@[simp] def xk152_19 := @xOps _ _ _ k152_19.eq_1
def k152_20 : ACode :=
  .cond (.p 83) k152_19 .skip
@[simp] def xk152_20 := @xCond _ _ _ _ k152_20.eq_1
def k152_21 : ACode :=
  .seq k152_20 k152_18
@[simp] def xk152_21 := @xSeq _ _ _ k152_21.eq_1
def k152_22 : ACode :=
  .ops q152_10 k152_21
@[simp] def xk152_22 := @xOps _ _ _ k152_22.eq_1
def k152_23 : ACode :=
  .ops q152_11 k152_22
@[simp] def xk152_23 := @xOps _ _ _ k152_23.eq_1
def k152_24 : ACode :=
  .ops [⟨.assign (.c (.bool false)), (some 7), none⟩] (.exit 0)
@[simp] def xk152_24 := @xOps _ _ _ k152_24.eq_1
def k152_25 : ACode :=
  .cond (.p 76) k152_24 .skip
@[simp] def xk152_25 := @xCond _ _ _ _ k152_25.eq_1
def k152_26 : ACode :=
  .seq k152_25 k152_23
@[simp] def xk152_26 := @xSeq _ _ _ k152_26.eq_1
def k152_27 : ACode :=
  .ops q152_12 k152_26
@[simp] def xk152_27 := @xOps _ _ _ k152_27.eq_1
def k152_28 : ACode :=
  .ops q152_13 k152_27
@[simp] def xk152_28 := @xOps _ _ _ k152_28.eq_1
def k152_29 : ACode :=
  .ops [⟨.assign (.c (.bool false)), (some 7), none⟩] .skip
@[simp] def xk152_29 := @xOps _ _ _ k152_29.eq_1
def k152_30 : ACode :=
  .cond (.p 71) k152_28 k152_29
@[simp] def xk152_30 := @xCond _ _ _ _ k152_30.eq_1
def k152_31 : ACode :=
  .ops q152_14 k152_30
@[simp] def xk152_31 := @xOps _ _ _ k152_31.eq_1
def k152_32 : ACode :=
  .cond (.p 69) k152_17 k152_31
@[simp] def xk152_32 := @xCond _ _ _ _ k152_32.eq_1
def k152_33 : ACode :=
  .ops q152_15 k152_32
@[simp] def xk152_33 := @xOps _ _ _ k152_33.eq_1
def k152_34 : ACode :=
  .cond (.p 64) k152_16 k152_33
@[simp] def xk152_34 := @xCond _ _ _ _ k152_34.eq_1
def k152_35 : ACode :=
  .ops q152_16 .skip
@[simp] def xk152_35 := @xOps _ _ _ k152_35.eq_1
def k152_36 : ACode :=
  .cond (.p 64) .skip k152_35
@[simp] def xk152_36 := @xCond _ _ _ _ k152_36.eq_1
def k152_37 : ACode :=
  .ops q152_17 k152_36
@[simp] def xk152_37 := @xOps _ _ _ k152_37.eq_1
def k152_38 : ACode :=
  .cond (.p 64) .skip k152_37
@[simp] def xk152_38 := @xCond _ _ _ _ k152_38.eq_1
def k152_39 : ACode :=
  .ops q152_18 k152_38
@[simp] def xk152_39 := @xOps _ _ _ k152_39.eq_1
def k152_40 : ACode :=
  .cond (.p 64) .skip k152_39
@[simp] def xk152_40 := @xCond _ _ _ _ k152_40.eq_1
def k152_41 : ACode :=
  .seq k152_40 k152_34
@[simp] def xk152_41 := @xSeq _ _ _ k152_41.eq_1
def k152_42 : ACode :=
  .ops q152_19 k152_41
@[simp] def xk152_42 := @xOps _ _ _ k152_42.eq_1
def k152_43 : ACode :=
  .cond (.p 52) k152_15 k152_42
@[simp] def xk152_43 := @xCond _ _ _ _ k152_43.eq_1
def k152_44 : ACode :=
  .ops q152_20 .skip
@[simp] def xk152_44 := @xOps _ _ _ k152_44.eq_1
def k152_45 : ACode :=
  .cond (.p 52) .skip k152_44
@[simp] def xk152_45 := @xCond _ _ _ _ k152_45.eq_1
def k152_46 : ACode :=
  .ops q152_21 k152_45
@[simp] def xk152_46 := @xOps _ _ _ k152_46.eq_1
def k152_47 : ACode :=
  .cond (.p 52) .skip k152_46
@[simp] def xk152_47 := @xCond _ _ _ _ k152_47.eq_1
def k152_48 : ACode :=
  .seq k152_47 k152_43
@[simp] def xk152_48 := @xSeq _ _ _ k152_48.eq_1
def k152_49 : ACode :=
  .ops q152_22 k152_48
@[simp] def xk152_49 := @xOps _ _ _ k152_49.eq_1
def k152_50 : ACode :=
  .cond (.p 50) k152_13 k152_49
@[simp] def xk152_50 := @xCond _ _ _ _ k152_50.eq_1
def k152_51 : ACode :=
  .ops q152_23 k152_50
@[simp] def xk152_51 := @xOps _ _ _ k152_51.eq_1
def k152_52 : ACode :=
  .cond (.p 48) k152_12 k152_51
@[simp] def xk152_52 := @xCond _ _ _ _ k152_52.eq_1
def k152_53 : ACode :=
  .ops q152_24 k152_52
@[simp] def xk152_53 := @xOps _ _ _ k152_53.eq_1
def k152_54 : ACode :=
  .cond (.p 43) k152_11 k152_53
@[simp] def xk152_54 := @xCond _ _ _ _ k152_54.eq_1
def k152_55 : ACode :=
  .ops q152_25 .skip
@[simp] def xk152_55 := @xOps _ _ _ k152_55.eq_1
def k152_56 : ACode :=
  .cond (.p 43) .skip k152_55
@[simp] def xk152_56 := @xCond _ _ _ _ k152_56.eq_1
def k152_57 : ACode :=
  .ops q152_26 k152_56
@[simp] def xk152_57 := @xOps _ _ _ k152_57.eq_1
def k152_58 : ACode :=
  .cond (.p 43) .skip k152_57
@[simp] def xk152_58 := @xCond _ _ _ _ k152_58.eq_1
def k152_59 : ACode :=
  .ops q152_27 k152_58
@[simp] def xk152_59 := @xOps _ _ _ k152_59.eq_1
def k152_60 : ACode :=
  .cond (.p 43) .skip k152_59
@[simp] def xk152_60 := @xCond _ _ _ _ k152_60.eq_1
def k152_61 : ACode :=
  .seq k152_60 k152_54
@[simp] def xk152_61 := @xSeq _ _ _ k152_61.eq_1
def k152_62 : ACode :=
  .ops q152_28 k152_61
@[simp] def xk152_62 := @xOps _ _ _ k152_62.eq_1
def k152_63 : ACode :=
  .cond (.p 33) k152_10 k152_62
@[simp] def xk152_63 := @xCond _ _ _ _ k152_63.eq_1
def k152_64 : ACode :=
  .ops q152_29 k152_63
@[simp] def xk152_64 := @xOps _ _ _ k152_64.eq_1
def k152_65 : ACode :=
  .cond (.p 31) k152_8 k152_64
@[simp] def xk152_65 := @xCond _ _ _ _ k152_65.eq_1
def k152_66 : ACode :=
  .ops q152_30 k152_65
@[simp] def xk152_66 := @xOps _ _ _ k152_66.eq_1
def k152_67 : ACode :=
  .cond (.p 21) k152_7 k152_66
@[simp] def xk152_67 := @xCond _ _ _ _ k152_67.eq_1
def k152_68 : ACode :=
  .ops q152_31 k152_67
@[simp] def xk152_68 := @xOps _ _ _ k152_68.eq_1
def k152_69 : ACode :=
  .cond (.p 11) k152_5 k152_68
@[simp] def xk152_69 := @xCond _ _ _ _ k152_69.eq_1
def k152_70 : ACode :=
  .ops q152_32 .skip
@[simp] def xk152_70 := @xOps _ _ _ k152_70.eq_1
def k152_71 : ACode :=
  .cond (.p 11) .skip k152_70
@[simp] def xk152_71 := @xCond _ _ _ _ k152_71.eq_1
def k152_72 : ACode :=
  .ops q152_33 k152_71
@[simp] def xk152_72 := @xOps _ _ _ k152_72.eq_1
def k152_73 : ACode :=
  .cond (.p 11) .skip k152_72
@[simp] def xk152_73 := @xCond _ _ _ _ k152_73.eq_1
def k152_74 : ACode :=
  .seq k152_73 k152_69
@[simp] def xk152_74 := @xSeq _ _ _ k152_74.eq_1
def k152_75 : ACode :=
  .ops q152_34 k152_74
@[simp] def xk152_75 := @xOps _ _ _ k152_75.eq_1
def k152_76 : ACode :=
  .block 0 k152_75
@[simp] def xk152_76 := @xBlock _ _ _ k152_76.eq_1
def k152_77 : ACode :=
  .seq k152_76 k152_4
@[simp] def xk152_77 := @xSeq _ _ _ k152_77.eq_1
def k152_78 : ACode :=
  .ops [⟨.move .head (.p 1), (some 10), none⟩] k152_77
@[simp] def xk152_78 := @xOps _ _ _ k152_78.eq_1
def k152_79 : ACode :=
  .ops [⟨.assign (.c (.bool true)), (some 7), none⟩] k152_78
@[simp] def xk152_79 := @xOps _ _ _ k152_79.eq_1
def k152_80 : ACode :=
  .ops [⟨.assign (.c (.int .i32 0)), (some 6), none⟩] k152_79
@[simp] def xk152_80 := @xOps _ _ _ k152_80.eq_1
def k152_81 : ACode :=
  .ops q152_35 k152_80
@[simp] def xk152_81 := @xOps _ _ _ k152_81.eq_1
def af152 : AFunc := ⟨94, k152_81, [.tmp 4, .tmp 5], fun _ _ => none⟩

theorem ok152 : ∃ hs, pFunc Tryz.prog sg hs Tryz.f152 = some af152 := ⟨fun i => 0, by kernel_rfl⟩
def q109_0 : List AOper :=
  [⟨.move .look (.t 0), (some 25), none⟩,
 ⟨.move .head (.p 7), (some 26), none⟩,
 ⟨.sliceSl 1 (.t 25) none (some (.p 26)), (some 27), none⟩,
 ⟨.move .look (.t 0), (some 28), none⟩,
 ⟨.move .head (.p 7), (some 29), none⟩,
 ⟨.sliceSl 1 (.t 28) (some (.p 29)) none, (some 30), none⟩,
 ⟨.assign (.t 27), (some 4), none⟩,
 ⟨.assign (.t 30), (some 5), none⟩,
 ⟨.assign (.c (.bool true)), (some 6), none⟩]
@[simp] def eq109_0 := id q109_0.eq_1
def q109_1 : List AOper :=
  [⟨.move .take (.t 0), (some 24), none⟩,
 ⟨.assign (.c (.slice .nil 0 1 [])), (some 4), none⟩,
 ⟨.assign (.t 24), (some 5), none⟩,
 ⟨.assign (.c (.bool false)), (some 6), none⟩]
@[simp] def eq109_1 := id q109_1.eq_1
def q109_2 : List AOper :=
  [⟨.move .look (.p 8), (some 15), none⟩,
 ⟨.un .not (.p 15), (some 16), none⟩,
 ⟨.move .look (.p 16), (some 17), none⟩,
 ⟨.move .look (.p 7), (some 18), (some (17, false))⟩,
 ⟨.convInt .i64 (.p 18), (some 19), (some (17, false))⟩,
 ⟨.move .head (.t 0), (some 20), (some (17, false))⟩,
 ⟨.len false (.p 20), (some 21), (some (17, false))⟩,
 ⟨.bin .gtr 1 false (.p 19) (.p 21), (some 22), (some (17, false))⟩,
 ⟨.pick (.p 17) (.c (.bool true)) (.p 22), (some 23), none⟩]
@[simp] def eq109_2 := id q109_2.eq_1
def q109_3 : List AOper :=
  [⟨.move .look (.t 0), (some 10), none⟩,
 ⟨.move .look (.p 1), (some 11), none⟩,
 ⟨.call 152 [(.t 10, false), (.p 11, false)], (some 12), none⟩,
 ⟨.move .look (.t 12), (some 9), none⟩,
 ⟨.extract 9 0, (some 13), none⟩,
 ⟨.extract 9 1, (some 14), none⟩,
 ⟨.assign (.p 13), (some 7), none⟩,
 ⟨.assign (.p 14), (some 8), none⟩]
@[simp] def eq109_3 := id q109_3.eq_1
def q109_4 : List AOper :=
  [⟨.assign (.c (.slice .nil 0 1 [])), (some 4), none⟩,
 ⟨.assign (.c (.slice .nil 0 1 [])), (some 5), none⟩,
 ⟨.assign (.c (.bool false)), (some 6), none⟩]
@[simp] def eq109_4 := id q109_4.eq_1
def k109_0 : ACode :=
  .ops q109_0 .ret
@[simp] def xk109_0 := @xOps _ _ _ k109_0.eq_1
def k109_1 : ACode :=
  .ops q109_1 .ret
@[simp] def xk109_1 := @xOps _ _ _ k109_1.eq_1
def k109_2 : ACode :=
  .cond (.p 23) k109_1 .skip
@[simp] def xk109_2 := @xCond _ _ _ _ k109_2.eq_1
def k109_3 : ACode :=
  .seq k109_2 k109_0
@[simp] def xk109_3 := @xSeq _ _ _ k109_3.eq_1
def k109_4 : ACode :=
  .ops q109_2 k109_3
@[simp] def xk109_4 := @xOps _ _ _ k109_4.eq_1
def k109_5 : ACode :=
  .ops q109_3 k109_4
@[simp] def xk109_5 := @xOps _ _ _ k109_5.eq_1
def k109_6 : ACode :=
  .ops q109_4 k109_5
@[simp] def xk109_6 := @xOps _ _ _ k109_6.eq_1
def af109 : AFunc := ⟨31, k109_6, [.tmp 4, .tmp 5, .tmp 6], fun _ _ => none⟩

theorem ok109 : ∃ hs, pFunc Tryz.prog sg hs Tryz.f109 = some af109 := ⟨fun i => 0, by kernel_rfl⟩
def q65_0 : List AOper :=
  [⟨.move .look (.p 1), (some 21), none⟩,
 ⟨.move .look (.t 7), (some 22), none⟩,
 ⟨.build [.int .u8 0, .slice .nil 0 1 []] [(0, 1, .p 21), (1, 1, .t 22)], (some 23), none⟩,
 ⟨.move .take (.t 8), (some 24), none⟩,
 ⟨.store 2 (.p 4) (.p 23), none, none⟩,
 ⟨.assign (.t 24), (some 5), none⟩,
 ⟨.assign (.c (.bool true)), (some 6), none⟩]
@[simp] def eq65_0 := id q65_0.eq_1
def q65_1 : List AOper :=
  [⟨.build [.int .u8 0, .slice .nil 0 1 []] [], (some 19), none⟩,
 ⟨.move .take (.t 0), (some 20), none⟩,
 ⟨.store 2 (.p 4) (.p 19), none, none⟩,
 ⟨.assign (.t 20), (some 5), none⟩,
 ⟨.assign (.c (.bool false)), (some 6), none⟩]
@[simp] def eq65_1 := id q65_1.eq_1
def q65_2 : List AOper :=
  [⟨.move .look (.p 9), (some 17), none⟩,
 ⟨.un .not (.p 17), (some 18), none⟩]
@[simp] def eq65_2 := id q65_2.eq_1
def q65_3 : List AOper :=
  [⟨.move .look (.t 0), (some 11), none⟩,
 ⟨.move .look (.p 1), (some 12), none⟩,
 ⟨.call 109 [(.t 11, false), (.p 12, false)], (some 13), none⟩,
 ⟨.move .look (.t 13), (some 10), none⟩,
 ⟨.extract 10 0, (some 14), none⟩,
 ⟨.extract 10 1, (some 15), none⟩,
 ⟨.extract 10 2, (some 16), none⟩,
 ⟨.assign (.t 14), (some 7), none⟩,
 ⟨.assign (.t 15), (some 8), none⟩,
 ⟨.assign (.p 16), (some 9), none⟩]
@[simp] def eq65_3 := id q65_3.eq_1
def q65_4 : List AOper :=
  [⟨.newbox 4 [.int .u8 0, .slice .nil 0 1 []], (some 4), none⟩,
 ⟨.assign (.c (.slice .nil 0 1 [])), (some 5), none⟩,
 ⟨.assign (.c (.bool false)), (some 6), none⟩]
@[simp] def eq65_4 := id q65_4.eq_1
def k65_0 : ACode :=
  .ops q65_0 .ret
@[simp] def xk65_0 := @xOps _ _ _ k65_0.eq_1
def k65_1 : ACode :=
  .ops q65_1 .ret
@[simp] def xk65_1 := @xOps _ _ _ k65_1.eq_1
def k65_2 : ACode :=
  .cond (.p 18) k65_1 .skip
@[simp] def xk65_2 := @xCond _ _ _ _ k65_2.eq_1
def k65_3 : ACode :=
  .seq k65_2 k65_0
@[simp] def xk65_3 := @xSeq _ _ _ k65_3.eq_1
def k65_4 : ACode :=
  .ops q65_2 k65_3
@[simp] def xk65_4 := @xOps _ _ _ k65_4.eq_1
def k65_5 : ACode :=
  .ops q65_3 k65_4
@[simp] def xk65_5 := @xOps _ _ _ k65_5.eq_1
def k65_6 : ACode :=
  .ops q65_4 k65_5
@[simp] def xk65_6 := @xOps _ _ _ k65_6.eq_1
def af65 : AFunc := ⟨25, k65_6, [.cell 4 true 2, .tmp 5, .tmp 6], fun _ _ => none⟩

theorem ok65 : ∃ hs, pFunc Tryz.prog sg hs Tryz.f65 = some af65 := ⟨fun i => 0, by kernel_rfl⟩
def q40_0 : List AOper :=
  [⟨.load .take true 8 (.p 4), (some 225), none⟩,
 ⟨.move .look (.t 5), (some 226), none⟩,
 ⟨.move .take (.p 6), (some 228), none⟩,
 ⟨.call 23 [(.t 226, false)], (some 227), none⟩,
 ⟨.store 8 (.p 4) (.p 225), none, none⟩,
 ⟨.assign (.t 227), (some 5), none⟩,
 ⟨.assign (.p 228), (some 6), none⟩]
@[simp] def eq40_0 := id q40_0.eq_1
def q40_1 : List AOper :=
  [⟨.build [.int .i64 0, .str [], .str [], .int .i64 0, .int .u64 0, .int .u64 0, .slice .nil 0 1 [], .slice .nil 0 1 []] [], (some 224), none⟩,
 ⟨.store 8 (.p 4) (.p 224), none, none⟩]
@[simp] def eq40_1 := id q40_1.eq_1
def q40_2 : List AOper :=
  [⟨.move .look (.p 6), (some 222), none⟩,
 ⟨.un .not (.p 222), (some 223), none⟩]
@[simp] def eq40_2 := id q40_2.eq_1
def q40_3 : List AOper :=
  [⟨.move .look (.p 7), (some 36), none⟩,
 ⟨.px (.fb 0) [.p 36], (some 37), none⟩,
 ⟨.fieldAddr 4 (.p 4), (some 38), none⟩,
 ⟨.store 1 (.p 38) (.p 37), none, none⟩]
@[simp] def eq40_3 := id q40_3.eq_1
def q40_4 : List AOper :=
  [⟨.move .look (.t 1), (some 31), none⟩,
 ⟨.call 45 [(.t 31, false)], (some 32), none⟩,
 ⟨.move .look (.t 32), (some 30), none⟩,
 ⟨.extract 30 0, (some 33), none⟩,
 ⟨.extract 30 1, (some 34), none⟩,
 ⟨.extract 30 2, (some 35), none⟩,
 ⟨.assign (.p 33), (some 7), none⟩,
 ⟨.assign (.t 34), (some 5), none⟩,
 ⟨.assign (.p 35), (some 6), none⟩]
@[simp] def eq40_4 := id q40_4.eq_1
def q40_5 : List AOper :=
  [⟨.move .look (.t 1), (some 42), none⟩,
 ⟨.call 46 [(.t 42, false)], (some 43), none⟩,
 ⟨.move .look (.t 43), (some 41), none⟩,
 ⟨.extract 41 0, (some 44), none⟩,
 ⟨.extract 41 1, (some 45), none⟩,
 ⟨.extract 41 2, (some 46), none⟩,
 ⟨.fieldAddr 1 (.p 4), (some 47), none⟩,
 ⟨.store 1 (.p 47) (.p 44), none, none⟩,
 ⟨.assign (.t 45), (some 5), none⟩,
 ⟨.assign (.p 46), (some 6), none⟩]
@[simp] def eq40_5 := id q40_5.eq_1
def q40_6 : List AOper :=
  [⟨.move .look (.t 8), (some 56), none⟩,
 ⟨.call 23 [(.t 56, false)], (some 57), none⟩,
 ⟨.fieldAddr 6 (.p 4), (some 58), none⟩,
 ⟨.store 1 (.p 58) (.t 57), none, none⟩]
@[simp] def eq40_6 := id q40_6.eq_1
def q40_7 : List AOper :=
  [⟨.move .look (.t 1), (some 51), none⟩,
 ⟨.call 47 [(.t 51, false)], (some 52), none⟩,
 ⟨.move .look (.t 52), (some 50), none⟩,
 ⟨.extract 50 0, (some 53), none⟩,
 ⟨.extract 50 1, (some 54), none⟩,
 ⟨.extract 50 2, (some 55), none⟩,
 ⟨.assign (.t 53), (some 8), none⟩,
 ⟨.assign (.t 54), (some 5), none⟩,
 ⟨.assign (.p 55), (some 6), none⟩]
@[simp] def eq40_7 := id q40_7.eq_1
def q40_8 : List AOper :=
  [⟨.move .look (.t 9), (some 67), none⟩,
 ⟨.call 23 [(.t 67, false)], (some 68), none⟩,
 ⟨.fieldAddr 6 (.p 4), (some 69), none⟩,
 ⟨.store 1 (.p 69) (.t 68), none, none⟩]
@[simp] def eq40_8 := id q40_8.eq_1
def q40_9 : List AOper :=
  [⟨.move .look (.t 1), (some 62), none⟩,
 ⟨.call 48 [(.t 62, false)], (some 63), none⟩,
 ⟨.move .look (.t 63), (some 61), none⟩,
 ⟨.extract 61 0, (some 64), none⟩,
 ⟨.extract 61 1, (some 65), none⟩,
 ⟨.extract 61 2, (some 66), none⟩,
 ⟨.assign (.t 64), (some 9), none⟩,
 ⟨.assign (.t 65), (some 5), none⟩,
 ⟨.assign (.p 66), (some 6), none⟩]
@[simp] def eq40_9 := id q40_9.eq_1
def q40_10 : List AOper :=
  [⟨.move .look (.p 10), (some 80), none⟩,
 ⟨.convInt .i64 (.p 80), (some 81), none⟩,
 ⟨.fieldAddr 6 (.p 4), (some 82), none⟩,
 ⟨.load .look false 1 (.p 82), (some 83), none⟩,
 ⟨.call 23 [(.t 83, false)], (some 84), none⟩,
 ⟨.fieldAddr 3 (.p 4), (some 85), none⟩,
 ⟨.store 1 (.p 85) (.p 81), none, none⟩,
 ⟨.fieldAddr 6 (.p 4), (some 86), none⟩,
 ⟨.store 1 (.p 86) (.t 84), none, none⟩]
@[simp] def eq40_10 := id q40_10.eq_1
def q40_11 : List AOper :=
  [⟨.move .look (.t 1), (some 73), none⟩,
 ⟨.call 49 [(.t 73, false)], (some 74), none⟩,
 ⟨.move .look (.t 74), (some 72), none⟩,
 ⟨.extract 72 0, (some 75), none⟩,
 ⟨.extract 72 1, (some 76), none⟩,
 ⟨.extract 72 2, (some 77), none⟩,
 ⟨.extract 72 3, (some 78), none⟩,
 ⟨.assign (.p 75), (some 10), none⟩,
 ⟨.fieldAddr 6 (.p 4), (some 79), none⟩,
 ⟨.store 1 (.p 79) (.t 76), none, none⟩,
 ⟨.assign (.t 77), (some 5), none⟩,
 ⟨.assign (.p 78), (some 6), none⟩]
@[simp] def eq40_11 := id q40_11.eq_1
def q40_12 : List AOper :=
  [⟨.px (.slArr 12 5 1) [.p 11, .c (.int .i64 0), .c (.int .i64 12)], (some 95), none⟩,
 ⟨.call 23 [(.t 95, false)], (some 96), none⟩,
 ⟨.fieldAddr 6 (.p 4), (some 97), none⟩,
 ⟨.store 1 (.p 97) (.t 96), none, none⟩]
@[simp] def eq40_12 := id q40_12.eq_1
def q40_13 : List AOper :=
  [⟨.move .look (.t 1), (some 90), none⟩,
 ⟨.call 50 [(.t 90, false)], (some 91), none⟩,
 ⟨.move .look (.t 91), (some 89), none⟩,
 ⟨.extract 89 0, (some 92), none⟩,
 ⟨.extract 89 1, (some 93), none⟩,
 ⟨.extract 89 2, (some 94), none⟩,
 ⟨.store 12 (.p 11) (.p 92), none, none⟩,
 ⟨.assign (.t 93), (some 5), none⟩,
 ⟨.assign (.p 94), (some 6), none⟩]
@[simp] def eq40_13 := id q40_13.eq_1
def q40_14 : List AOper :=
  [⟨.move .look (.p 12), (some 106), none⟩,
 ⟨.call 28 [(.p 106, false)], (some 107), none⟩,
 ⟨.fieldAddr 3 (.p 4), (some 108), none⟩,
 ⟨.store 1 (.p 108) (.p 107), none, none⟩]
@[simp] def eq40_14 := id q40_14.eq_1
def q40_15 : List AOper :=
  [⟨.move .look (.t 1), (some 101), none⟩,
 ⟨.call 51 [(.t 101, false)], (some 102), none⟩,
 ⟨.move .look (.t 102), (some 100), none⟩,
 ⟨.extract 100 0, (some 103), none⟩,
 ⟨.extract 100 1, (some 104), none⟩,
 ⟨.extract 100 2, (some 105), none⟩,
 ⟨.assign (.p 103), (some 12), none⟩,
 ⟨.assign (.t 104), (some 5), none⟩,
 ⟨.assign (.p 105), (some 6), none⟩]
@[simp] def eq40_15 := id q40_15.eq_1
def q40_16 : List AOper :=
  [⟨.move .look (.t 1), (some 112), none⟩,
 ⟨.call 52 [(.t 112, false)], (some 113), none⟩,
 ⟨.move .look (.t 113), (some 111), none⟩,
 ⟨.extract 111 0, (some 114), none⟩,
 ⟨.extract 111 1, (some 115), none⟩,
 ⟨.extract 111 2, (some 116), none⟩,
 ⟨.fieldAddr 3 (.p 4), (some 117), none⟩,
 ⟨.store 1 (.p 117) (.p 114), none, none⟩,
 ⟨.assign (.t 115), (some 5), none⟩,
 ⟨.assign (.p 116), (some 6), none⟩]
@[simp] def eq40_16 := id q40_16.eq_1
def q40_17 : List AOper :=
  [⟨.move .look (.t 1), (some 121), none⟩,
 ⟨.call 53 [(.t 121, false)], (some 122), none⟩,
 ⟨.move .look (.t 122), (some 120), none⟩,
 ⟨.extract 120 0, (some 123), none⟩,
 ⟨.extract 120 1, (some 124), none⟩,
 ⟨.extract 120 2, (some 125), none⟩,
 ⟨.extract 120 3, (some 126), none⟩,
 ⟨.fieldAddr 1 (.p 4), (some 127), none⟩,
 ⟨.store 1 (.p 127) (.p 123), none, none⟩,
 ⟨.fieldAddr 2 (.p 4), (some 128), none⟩,
 ⟨.store 1 (.p 128) (.p 124), none, none⟩,
 ⟨.assign (.t 125), (some 5), none⟩,
 ⟨.assign (.p 126), (some 6), none⟩]
@[simp] def eq40_17 := id q40_17.eq_1
def q40_18 : List AOper :=
  [⟨.px (.slArr 12 5 1) [.p 13, .c (.int .i64 0), .c (.int .i64 12)], (some 139), none⟩,
 ⟨.call 23 [(.t 139, false)], (some 140), none⟩,
 ⟨.fieldAddr 6 (.p 4), (some 141), none⟩,
 ⟨.store 1 (.p 141) (.t 140), none, none⟩]
@[simp] def eq40_18 := id q40_18.eq_1
def q40_19 : List AOper :=
  [⟨.move .look (.t 1), (some 132), none⟩,
 ⟨.call 54 [(.t 132, false)], (some 133), none⟩,
 ⟨.move .look (.t 133), (some 131), none⟩,
 ⟨.extract 131 0, (some 134), none⟩,
 ⟨.extract 131 1, (some 135), none⟩,
 ⟨.extract 131 2, (some 136), none⟩,
 ⟨.extract 131 3, (some 137), none⟩,
 ⟨.fieldAddr 1 (.p 4), (some 138), none⟩,
 ⟨.store 1 (.p 138) (.p 134), none, none⟩,
 ⟨.store 12 (.p 13) (.p 135), none, none⟩,
 ⟨.assign (.t 136), (some 5), none⟩,
 ⟨.assign (.p 137), (some 6), none⟩]
@[simp] def eq40_19 := id q40_19.eq_1
def q40_20 : List AOper :=
  [⟨.move .look (.t 1), (some 145), none⟩,
 ⟨.call 55 [(.t 145, false)], (some 146), none⟩,
 ⟨.move .look (.t 146), (some 144), none⟩,
 ⟨.extract 144 0, (some 147), none⟩,
 ⟨.extract 144 1, (some 148), none⟩,
 ⟨.extract 144 2, (some 149), none⟩,
 ⟨.fieldAddr 1 (.p 4), (some 150), none⟩,
 ⟨.store 1 (.p 150) (.p 147), none, none⟩,
 ⟨.assign (.t 148), (some 5), none⟩,
 ⟨.assign (.p 149), (some 6), none⟩]
@[simp] def eq40_20 := id q40_20.eq_1
def q40_21 : List AOper :=
  [⟨.move .look (.t 1), (some 154), none⟩,
 ⟨.call 56 [(.t 154, false)], (some 155), none⟩,
 ⟨.move .look (.t 155), (some 153), none⟩,
 ⟨.extract 153 0, (some 156), none⟩,
 ⟨.extract 153 1, (some 157), none⟩,
 ⟨.extract 153 2, (some 158), none⟩,
 ⟨.fieldAddr 1 (.p 4), (some 159), none⟩,
 ⟨.store 1 (.p 159) (.p 156), none, none⟩,
 ⟨.assign (.t 157), (some 5), none⟩,
 ⟨.assign (.p 158), (some 6), none⟩]
@[simp] def eq40_21 := id q40_21.eq_1
def q40_22 : List AOper :=
  [⟨.fieldAddr 6 (.p 4), (some 171), none⟩,
 ⟨.load .look false 1 (.p 171), (some 172), none⟩,
 ⟨.call 23 [(.t 172, false)], (some 173), none⟩,
 ⟨.fieldAddr 6 (.p 4), (some 174), none⟩,
 ⟨.store 1 (.p 174) (.t 173), none, none⟩]
@[simp] def eq40_22 := id q40_22.eq_1
def q40_23 : List AOper :=
  [⟨.move .look (.t 1), (some 163), none⟩,
 ⟨.call 57 [(.t 163, false)], (some 164), none⟩,
 ⟨.move .look (.t 164), (some 162), none⟩,
 ⟨.extract 162 0, (some 165), none⟩,
 ⟨.extract 162 1, (some 166), none⟩,
 ⟨.extract 162 2, (some 167), none⟩,
 ⟨.extract 162 3, (some 168), none⟩,
 ⟨.fieldAddr 1 (.p 4), (some 169), none⟩,
 ⟨.store 1 (.p 169) (.p 165), none, none⟩,
 ⟨.fieldAddr 6 (.p 4), (some 170), none⟩,
 ⟨.store 1 (.p 170) (.t 166), none, none⟩,
 ⟨.assign (.t 167), (some 5), none⟩,
 ⟨.assign (.p 168), (some 6), none⟩]
@[simp] def eq40_23 := id q40_23.eq_1
def q40_24 : List AOper :=
  [⟨.move .look (.p 14), (some 183), none⟩,
 ⟨.convInt .i64 (.p 183), (some 184), none⟩,
 ⟨.fieldAddr 3 (.p 4), (some 185), none⟩,
 ⟨.store 1 (.p 185) (.p 184), none, none⟩]
@[simp] def eq40_24 := id q40_24.eq_1
def q40_25 : List AOper :=
  [⟨.move .look (.t 1), (some 178), none⟩,
 ⟨.call 58 [(.t 178, false)], (some 179), none⟩,
 ⟨.move .look (.t 179), (some 177), none⟩,
 ⟨.extract 177 0, (some 180), none⟩,
 ⟨.extract 177 1, (some 181), none⟩,
 ⟨.extract 177 2, (some 182), none⟩,
 ⟨.assign (.p 180), (some 14), none⟩,
 ⟨.assign (.t 181), (some 5), none⟩,
 ⟨.assign (.p 182), (some 6), none⟩]
@[simp] def eq40_25 := id q40_25.eq_1
def q40_26 : List AOper :=
  [⟨.move .look (.p 15), (some 195), none⟩,
 ⟨.convInt .u64 (.p 195), (some 196), none⟩,
 ⟨.bin .shl 1 true (.p 196) (.c (.int .u64 32)), (some 197), none⟩,
 ⟨.move .look (.p 16), (some 198), none⟩,
 ⟨.convInt .u64 (.p 198), (some 199), none⟩,
 ⟨.bin .or 1 false (.p 197) (.p 199), (some 200), none⟩,
 ⟨.fieldAddr 4 (.p 4), (some 201), none⟩,
 ⟨.store 1 (.p 201) (.p 200), none, none⟩]
@[simp] def eq40_26 := id q40_26.eq_1
def q40_27 : List AOper :=
  [⟨.move .look (.t 1), (some 189), none⟩,
 ⟨.call 59 [(.t 189, false)], (some 190), none⟩,
 ⟨.move .look (.t 190), (some 188), none⟩,
 ⟨.extract 188 0, (some 191), none⟩,
 ⟨.extract 188 1, (some 192), none⟩,
 ⟨.extract 188 2, (some 193), none⟩,
 ⟨.extract 188 3, (some 194), none⟩,
 ⟨.assign (.p 191), (some 15), none⟩,
 ⟨.assign (.p 192), (some 16), none⟩,
 ⟨.assign (.t 193), (some 5), none⟩,
 ⟨.assign (.p 194), (some 6), none⟩]
@[simp] def eq40_27 := id q40_27.eq_1
def q40_28 : List AOper :=
  [⟨.assign (.c (.int .u32 0)), (some 15), none⟩,
 ⟨.assign (.c (.int .u32 0)), (some 16), none⟩]
@[simp] def eq40_28 := id q40_28.eq_1
def q40_29 : List AOper :=
  [⟨.move .look (.t 1), (some 205), none⟩,
 ⟨.call 60 [(.t 205, false)], (some 206), none⟩,
 ⟨.move .look (.t 206), (some 204), none⟩,
 ⟨.extract 204 0, (some 207), none⟩,
 ⟨.extract 204 1, (some 208), none⟩,
 ⟨.extract 204 2, (some 209), none⟩,
 ⟨.fieldAddr 3 (.p 4), (some 210), none⟩,
 ⟨.store 1 (.p 210) (.p 207), none, none⟩,
 ⟨.assign (.t 208), (some 5), none⟩,
 ⟨.assign (.p 209), (some 6), none⟩]
@[simp] def eq40_29 := id q40_29.eq_1
def q40_30 : List AOper :=
  [⟨.move .look (.t 1), (some 214), none⟩,
 ⟨.call 61 [(.t 214, false)], (some 215), none⟩,
 ⟨.move .look (.t 215), (some 213), none⟩,
 ⟨.extract 213 0, (some 216), none⟩,
 ⟨.extract 213 1, (some 217), none⟩,
 ⟨.extract 213 2, (some 218), none⟩,
 ⟨.extract 213 3, (some 219), none⟩,
 ⟨.fieldAddr 5 (.p 4), (some 220), none⟩,
 ⟨.store 1 (.p 220) (.p 216), none, none⟩,
 ⟨.fieldAddr 4 (.p 4), (some 221), none⟩,
 ⟨.store 1 (.p 221) (.p 217), none, none⟩,
 ⟨.assign (.t 218), (some 5), none⟩,
 ⟨.assign (.p 219), (some 6), none⟩]
@[simp] def eq40_30 := id q40_30.eq_1
def q40_31 : List AOper :=
  [⟨.move .look (.t 1), (some 21), none⟩,
 ⟨.move .look (.p 0), (some 22), none⟩,
 ⟨.convInt .u8 (.p 22), (some 23), none⟩,
 ⟨.call 65 [(.t 21, false), (.p 23, false)], (some 24), none⟩,
 ⟨.move .look (.t 24), (some 20), none⟩,
 ⟨.extract 20 0, (some 25), none⟩,
 ⟨.extract 20 1, (some 26), none⟩,
 ⟨.extract 20 2, (some 27), none⟩,
 ⟨.assign (.t 26), (some 5), none⟩,
 ⟨.assign (.p 27), (some 6), none⟩]
@[simp] def eq40_31 := id q40_31.eq_1
def q40_32 : List AOper :=
  [⟨.bin .eql 1 true (.p 19) (.c (.int .i64 19)), (some 212), none⟩,
 ⟨.assign (.p 212), (some 211), none⟩]
@[simp] def eq40_32 := id q40_32.eq_1
def q40_33 : List AOper :=
  [⟨.bin .eql 1 true (.p 19) (.c (.int .i64 18)), (some 203), none⟩,
 ⟨.assign (.p 203), (some 202), none⟩]
@[simp] def eq40_33 := id q40_33.eq_1
def q40_34 : List AOper :=
  [⟨.bin .eql 1 true (.p 19) (.c (.int .i64 17)), (some 187), none⟩,
 ⟨.assign (.p 187), (some 186), none⟩]
@[simp] def eq40_34 := id q40_34.eq_1
def q40_35 : List AOper :=
  [⟨.bin .eql 1 true (.p 19) (.c (.int .i64 16)), (some 176), none⟩,
 ⟨.assign (.p 176), (some 175), none⟩]
@[simp] def eq40_35 := id q40_35.eq_1
def q40_36 : List AOper :=
  [⟨.bin .eql 1 true (.p 19) (.c (.int .i64 15)), (some 161), none⟩,
 ⟨.assign (.p 161), (some 160), none⟩]
@[simp] def eq40_36 := id q40_36.eq_1
def q40_37 : List AOper :=
  [⟨.bin .eql 1 true (.p 19) (.c (.int .i64 14)), (some 152), none⟩,
 ⟨.assign (.p 152), (some 151), none⟩]
@[simp] def eq40_37 := id q40_37.eq_1
def q40_38 : List AOper :=
  [⟨.bin .eql 1 true (.p 19) (.c (.int .i64 13)), (some 143), none⟩,
 ⟨.assign (.p 143), (some 142), none⟩]
@[simp] def eq40_38 := id q40_38.eq_1
def q40_39 : List AOper :=
  [⟨.bin .eql 1 true (.p 19) (.c (.int .i64 12)), (some 130), none⟩,
 ⟨.assign (.p 130), (some 129), none⟩]
@[simp] def eq40_39 := id q40_39.eq_1
def q40_40 : List AOper :=
  [⟨.bin .eql 1 true (.p 19) (.c (.int .i64 11)), (some 119), none⟩,
 ⟨.assign (.p 119), (some 118), none⟩]
@[simp] def eq40_40 := id q40_40.eq_1
def q40_41 : List AOper :=
  [⟨.bin .eql 1 true (.p 19) (.c (.int .i64 9)), (some 110), none⟩,
 ⟨.assign (.p 110), (some 109), none⟩]
@[simp] def eq40_41 := id q40_41.eq_1
def q40_42 : List AOper :=
  [⟨.bin .eql 1 true (.p 19) (.c (.int .i64 8)), (some 99), none⟩,
 ⟨.assign (.p 99), (some 98), none⟩]
@[simp] def eq40_42 := id q40_42.eq_1
def q40_43 : List AOper :=
  [⟨.bin .eql 1 true (.p 19) (.c (.int .i64 7)), (some 88), none⟩,
 ⟨.assign (.p 88), (some 87), none⟩]
@[simp] def eq40_43 := id q40_43.eq_1
def q40_44 : List AOper :=
  [⟨.bin .eql 1 true (.p 19) (.c (.int .i64 5)), (some 71), none⟩,
 ⟨.assign (.p 71), (some 70), none⟩]
@[simp] def eq40_44 := id q40_44.eq_1
def q40_45 : List AOper :=
  [⟨.bin .eql 1 true (.p 19) (.c (.int .i64 4)), (some 60), none⟩,
 ⟨.assign (.p 60), (some 59), none⟩]
@[simp] def eq40_45 := id q40_45.eq_1
def q40_46 : List AOper :=
  [⟨.bin .eql 1 true (.p 19) (.c (.int .i64 3)), (some 49), none⟩,
 ⟨.assign (.p 49), (some 48), none⟩]
@[simp] def eq40_46 := id q40_46.eq_1
def q40_47 : List AOper :=
  [⟨.bin .eql 1 true (.p 19) (.c (.int .i64 2)), (some 40), none⟩,
 ⟨.assign (.p 40), (some 39), none⟩]
@[simp] def eq40_47 := id q40_47.eq_1
def q40_48 : List AOper :=
  [⟨.bin .eql 1 true (.p 19) (.c (.int .i64 1)), (some 29), none⟩,
 ⟨.assign (.p 29), (some 28), none⟩]
@[simp] def eq40_48 := id q40_48.eq_1
def q40_49 : List AOper :=
  [⟨.move .take (.p 0), (some 17), none⟩,
 ⟨.fieldAddr 0 (.p 4), (some 18), none⟩,
 ⟨.store 1 (.p 18) (.p 17), none, none⟩]
@[simp] def eq40_49 := id q40_49.eq_1
def q40_50 : List AOper :=
  [⟨.newbox 4 [.int .i64 0, .str [], .str [], .int .i64 0, .int .u64 0, .int .u64 0, .slice .nil 0 1 [], .slice .nil 0 1 []], (some 4), none⟩,
 ⟨.assign (.c (.slice .nil 0 1 [])), (some 5), none⟩,
 ⟨.assign (.c (.bool false)), (some 6), none⟩]
@[simp] def eq40_50 := id q40_50.eq_1
def k40_0 : ACode :=
  .ops q40_0 .ret
@[simp] def xk40_0 := @xOps _ _ _ k40_0.eq_1
def k40_1 : ACode :=
  .ops q40_1 .skip
def k40_2 : ACode :=
  .cond (.p 223) k40_1 .skip
@[simp] def xk40_2 := @xCond _ _ _ _ k40_2.eq_1
def k40_3 : ACode :=
  .seq k40_2 k40_0
@[simp] def xk40_3 := @xSeq _ _ _ k40_3.eq_1
def k40_4 : ACode :=
  .ops q40_2 k40_3
@[simp] def xk40_4 := @xOps _ _ _ k40_4.eq_1
def k40_5 : ACode :=
  .ops q40_3 .skip
def k40_6 : ACode :=
  .ops q40_4 k40_5
def k40_7 : ACode :=
  .ops [⟨.assign (.c (.flt .f64 0)), (some 7), none⟩] k40_6
def k40_8 : ACode :=
  .ops q40_5 .skip
def k40_9 : ACode :=
  .ops q40_6 .skip
def k40_10 : ACode :=
  .ops q40_7 k40_9
def k40_11 : ACode :=
  .ops [⟨.assign (.c (.slice .nil 0 1 [])), (some 8), none⟩] k40_10
def k40_12 : ACode :=
  .ops q40_8 .skip
def k40_13 : ACode :=
  .ops q40_9 k40_12
def k40_14 : ACode :=
  .ops [⟨.assign (.c (.slice .nil 0 1 [])), (some 9), none⟩] k40_13
def k40_15 : ACode :=
  .ops q40_10 .skip
def k40_16 : ACode :=
  .ops q40_11 k40_15
def k40_17 : ACode :=
  .ops [⟨.assign (.c (.int .u8 0)), (some 10), none⟩] k40_16
def k40_18 : ACode :=
  .ops q40_12 .skip
def k40_19 : ACode :=
  .ops q40_13 k40_18
def k40_20 : ACode :=
  .ops [⟨.newobj [.int .u8 0, .int .u8 0, .int .u8 0, .int .u8 0, .int .u8 0, .int .u8 0, .int .u8 0, .int .u8 0, .int .u8 0, .int .u8 0, .int .u8 0, .int .u8 0], (some 11), none⟩] k40_19
def k40_21 : ACode :=
  .ops q40_14 .skip
def k40_22 : ACode :=
  .ops q40_15 k40_21
def k40_23 : ACode :=
  .ops [⟨.assign (.c (.bool false)), (some 12), none⟩] k40_22
def k40_24 : ACode :=
  .ops q40_16 .skip
def k40_25 : ACode :=
  .ops q40_17 .skip
def k40_26 : ACode :=
  .ops q40_18 .skip
def k40_27 : ACode :=
  .ops q40_19 k40_26
def k40_28 : ACode :=
  .ops [⟨.newobj [.int .u8 0, .int .u8 0, .int .u8 0, .int .u8 0, .int .u8 0, .int .u8 0, .int .u8 0, .int .u8 0, .int .u8 0, .int .u8 0, .int .u8 0, .int .u8 0], (some 13), none⟩] k40_27
def k40_29 : ACode :=
  .ops q40_20 .skip
def k40_30 : ACode :=
  .ops q40_21 .skip
def k40_31 : ACode :=
  .ops q40_22 .skip
def k40_32 : ACode :=
  .ops q40_23 k40_31
def k40_33 : ACode :=
  .ops q40_24 .skip
@[simp] def xk40_33 := @xOps _ _ _ k40_33.eq_1
def k40_34 : ACode :=
  .ops q40_25 k40_33
@[simp] def xk40_34 := @xOps _ _ _ k40_34.eq_1
def k40_35 : ACode :=
  .ops [⟨.assign (.c (.int .i32 0)), (some 14), none⟩] k40_34
@[simp] def xk40_35 := @xOps _ _ _ k40_35.eq_1
def k40_36 : ACode :=
  .ops q40_26 .skip
def k40_37 : ACode :=
  .ops q40_27 k40_36
def k40_38 : ACode :=
  .ops q40_28 k40_37
def k40_39 : ACode :=
  .ops q40_29 .skip
def k40_40 : ACode :=
  .ops q40_30 .skip
def k40_41 : ACode :=
  .ops q40_31 .skip
def k40_42 : ACode :=
  .cond (.p 211) k40_40 k40_41
def k40_43 : ACode :=
  .ops q40_32 k40_42
def k40_44 : ACode :=
  .cond (.p 202) k40_39 k40_43
def k40_45 : ACode :=
  .ops q40_33 k40_44
def k40_46 : ACode :=
  .cond (.p 186) k40_38 k40_45
def k40_47 : ACode :=
  .ops q40_34 k40_46
def k40_48 : ACode :=
  .cond (.p 175) k40_35 k40_47
@[simp] def xk40_48 := @xCond _ _ _ _ k40_48.eq_1
def k40_49 : ACode :=
  .ops q40_35 k40_48
@[simp] def xk40_49 := @xOps _ _ _ k40_49.eq_1
def k40_50 : ACode :=
  .cond (.p 160) k40_32 k40_49
@[simp] def xk40_50 := @xCond _ _ _ _ k40_50.eq_1
def k40_51 : ACode :=
  .ops q40_36 k40_50
@[simp] def xk40_51 := @xOps _ _ _ k40_51.eq_1
def k40_52 : ACode :=
  .cond (.p 151) k40_30 k40_51
@[simp] def xk40_52 := @xCond _ _ _ _ k40_52.eq_1
def k40_53 : ACode :=
  .ops q40_37 k40_52
@[simp] def xk40_53 := @xOps _ _ _ k40_53.eq_1
def k40_54 : ACode :=
  .cond (.p 142) k40_29 k40_53
@[simp] def xk40_54 := @xCond _ _ _ _ k40_54.eq_1
def k40_55 : ACode :=
  .ops q40_38 k40_54
@[simp] def xk40_55 := @xOps _ _ _ k40_55.eq_1
def k40_56 : ACode :=
  .cond (.p 129) k40_28 k40_55
@[simp] def xk40_56 := @xCond _ _ _ _ k40_56.eq_1
def k40_57 : ACode :=
  .ops q40_39 k40_56
@[simp] def xk40_57 := @xOps _ _ _ k40_57.eq_1
def k40_58 : ACode :=
  .cond (.p 118) k40_25 k40_57
@[simp] def xk40_58 := @xCond _ _ _ _ k40_58.eq_1
def k40_59 : ACode :=
  .ops q40_40 k40_58
@[simp] def xk40_59 := @xOps _ _ _ k40_59.eq_1
def k40_60 : ACode :=
  .cond (.p 109) k40_24 k40_59
@[simp] def xk40_60 := @xCond _ _ _ _ k40_60.eq_1
def k40_61 : ACode :=
  .ops q40_41 k40_60
@[simp] def xk40_61 := @xOps _ _ _ k40_61.eq_1
def k40_62 : ACode :=
  .cond (.p 98) k40_23 k40_61
@[simp] def xk40_62 := @xCond _ _ _ _ k40_62.eq_1
def k40_63 : ACode :=
  .ops q40_42 k40_62
@[simp] def xk40_63 := @xOps _ _ _ k40_63.eq_1
def k40_64 : ACode :=
  .cond (.p 87) k40_20 k40_63
@[simp] def xk40_64 := @xCond _ _ _ _ k40_64.eq_1
def k40_65 : ACode :=
  .ops q40_43 k40_64
@[simp] def xk40_65 := @xOps _ _ _ k40_65.eq_1
def k40_66 : ACode :=
  .cond (.p 70) k40_17 k40_65
@[simp] def xk40_66 := @xCond _ _ _ _ k40_66.eq_1
def k40_67 : ACode :=
  .ops q40_44 k40_66
@[simp] def xk40_67 := @xOps _ _ _ k40_67.eq_1
def k40_68 : ACode :=
  .cond (.p 59) k40_14 k40_67
@[simp] def xk40_68 := @xCond _ _ _ _ k40_68.eq_1
def k40_69 : ACode :=
  .ops q40_45 k40_68
@[simp] def xk40_69 := @xOps _ _ _ k40_69.eq_1
def k40_70 : ACode :=
  .cond (.p 48) k40_11 k40_69
@[simp] def xk40_70 := @xCond _ _ _ _ k40_70.eq_1
def k40_71 : ACode :=
  .ops q40_46 k40_70
@[simp] def xk40_71 := @xOps _ _ _ k40_71.eq_1
def k40_72 : ACode :=
  .cond (.p 39) k40_8 k40_71
@[simp] def xk40_72 := @xCond _ _ _ _ k40_72.eq_1
def k40_73 : ACode :=
  .ops q40_47 k40_72
@[simp] def xk40_73 := @xOps _ _ _ k40_73.eq_1
def k40_74 : ACode :=
  .cond (.p 28) k40_7 k40_73
@[simp] def xk40_74 := @xCond _ _ _ _ k40_74.eq_1
def k40_75 : ACode :=
  .ops q40_48 k40_74
@[simp] def xk40_75 := @xOps _ _ _ k40_75.eq_1
def k40_76 : ACode :=
  .block 0 k40_75
@[simp] def xk40_76 := @xBlock _ _ _ k40_76.eq_1
def k40_77 : ACode :=
  .seq k40_76 k40_4
@[simp] def xk40_77 := @xSeq _ _ _ k40_77.eq_1
def k40_78 : ACode :=
  .ops [⟨.move .head (.p 0), (some 19), none⟩] k40_77
@[simp] def xk40_78 := @xOps _ _ _ k40_78.eq_1
def k40_79 : ACode :=
  .ops q40_49 k40_78
@[simp] def xk40_79 := @xOps _ _ _ k40_79.eq_1
def k40_80 : ACode :=
  .ops q40_50 k40_79
@[simp] def xk40_80 := @xOps _ _ _ k40_80.eq_1
def af40 : AFunc := ⟨229, k40_80, [.cell 4 true 8, .tmp 5, .tmp 6], fun _ _ => none⟩

theorem ok40 : ∃ hs, pFunc Tryz.prog sg hs Tryz.f40 = some af40 := ⟨fun i => if i == 11 then 1 else if i == 13 then 1 else 0, by kernel_rfl⟩
def q110_0 : List AOper :=
  [⟨.move .look (.t 0), (some 5), none⟩,
 ⟨.move .look (.t 1), (some 6), none⟩,
 ⟨.build [.slice .nil 0 1 [], .slice .nil 0 1 []] [(0, 1, .t 5), (1, 1, .t 6)], (some 7), none⟩,
 ⟨.store 2 (.p 4) (.p 7), none, none⟩]
@[simp] def eq110_0 := id q110_0.eq_1
def k110_0 : ACode :=
  .ops q110_0 .ret
@[simp] def xk110_0 := @xOps _ _ _ k110_0.eq_1
def k110_1 : ACode :=
  .ops [⟨.newbox 4 [.slice .nil 0 1 [], .slice .nil 0 1 []], (some 4), none⟩] k110_0
@[simp] def xk110_1 := @xOps _ _ _ k110_1.eq_1
def af110 : AFunc := ⟨8, k110_1, [.cell 4 true 2], fun _ _ => none⟩

theorem ok110 : ∃ hs, pFunc Tryz.prog sg hs Tryz.f110 = some af110 := ⟨fun i => 0, by kernel_rfl⟩
def q111_0 : List AOper :=
  [⟨.move .look (.t 0), (some 57), none⟩,
 ⟨.move .head (.p 9), (some 58), none⟩,
 ⟨.sliceSl 1 (.t 57) none (some (.p 58)), (some 59), none⟩,
 ⟨.move .look (.t 0), (some 60), none⟩,
 ⟨.move .head (.p 9), (some 61), none⟩,
 ⟨.sliceSl 1 (.t 60) (some (.p 61)) none, (some 62), none⟩,
 ⟨.assign (.t 59), (some 2), none⟩,
 ⟨.assign (.t 62), (some 3), none⟩,
 ⟨.assign (.c (.bool true)), (some 4), none⟩]
@[simp] def eq111_0 := id q111_0.eq_1
def q111_1 : List AOper :=
  [⟨.move .take (.t 0), (some 56), none⟩,
 ⟨.assign (.c (.slice .nil 0 1 [])), (some 2), none⟩,
 ⟨.assign (.t 56), (some 3), none⟩,
 ⟨.assign (.c (.bool false)), (some 4), none⟩]
@[simp] def eq111_1 := id q111_1.eq_1
def q111_2 : List AOper :=
  [⟨.move .look (.p 9), (some 52), none⟩,
 ⟨.move .head (.t 0), (some 53), none⟩,
 ⟨.len false (.p 53), (some 54), none⟩,
 ⟨.bin .gtr 1 false (.p 52) (.p 54), (some 55), none⟩]
@[simp] def eq111_2 := id q111_2.eq_1
def q111_3 : List AOper :=
  [⟨.move .look (.p 6), (some 48), none⟩,
 ⟨.move .look (.p 7), (some 49), none⟩,
 ⟨.convInt .i64 (.p 49), (some 50), none⟩,
 ⟨.bin .add 1 false (.p 48) (.p 50), (some 51), none⟩,
 ⟨.assign (.p 51), (some 9), none⟩]
@[simp] def eq111_3 := id q111_3.eq_1
def q111_4 : List AOper :=
  [⟨.move .take (.t 0), (some 47), none⟩,
 ⟨.assign (.c (.slice .nil 0 1 [])), (some 2), none⟩,
 ⟨.assign (.t 47), (some 3), none⟩,
 ⟨.assign (.c (.bool false)), (some 4), none⟩]
@[simp] def eq111_4 := id q111_4.eq_1
def q111_5 : List AOper :=
  [⟨.move .look (.p 8), (some 45), none⟩,
 ⟨.un .not (.p 45), (some 46), none⟩]
@[simp] def eq111_5 := id q111_5.eq_1
def q111_6 : List AOper :=
  [⟨.move .look (.t 0), (some 38), none⟩,
 ⟨.move .head (.p 6), (some 39), none⟩,
 ⟨.sliceSl 1 (.t 38) (some (.p 39)) none, (some 40), none⟩,
 ⟨.move .look (.p 5), (some 41), none⟩,
 ⟨.call 152 [(.t 40, false), (.p 41, false)], (some 42), none⟩,
 ⟨.move .look (.t 42), (some 37), none⟩,
 ⟨.extract 37 0, (some 43), none⟩,
 ⟨.extract 37 1, (some 44), none⟩,
 ⟨.assign (.p 43), (some 7), none⟩,
 ⟨.assign (.p 44), (some 8), none⟩]
@[simp] def eq111_6 := id q111_6.eq_1
def q111_7 : List AOper :=
  [⟨.move .look (.p 6), (some 35), none⟩,
 ⟨.bin .add 1 true (.p 35) (.c (.int .i64 1)), (some 36), none⟩,
 ⟨.assign (.p 36), (some 6), none⟩]
@[simp] def eq111_7 := id q111_7.eq_1
def q111_8 : List AOper :=
  [⟨.move .take (.t 0), (some 34), none⟩,
 ⟨.assign (.c (.slice .nil 0 1 [])), (some 2), none⟩,
 ⟨.assign (.t 34), (some 3), none⟩,
 ⟨.assign (.c (.bool false)), (some 4), none⟩]
@[simp] def eq111_8 := id q111_8.eq_1
def q111_9 : List AOper :=
  [⟨.move .look (.p 6), (some 30), none⟩,
 ⟨.move .head (.t 0), (some 31), none⟩,
 ⟨.len false (.p 31), (some 32), none⟩,
 ⟨.bin .geq 1 false (.p 30) (.p 32), (some 33), none⟩]
@[simp] def eq111_9 := id q111_9.eq_1
def q111_10 : List AOper :=
  [⟨.move .look (.p 6), (some 28), none⟩,
 ⟨.bin .add 1 true (.p 28) (.c (.int .i64 1)), (some 29), none⟩,
 ⟨.assign (.p 29), (some 6), none⟩]
@[simp] def eq111_10 := id q111_10.eq_1
def q111_11 : List AOper :=
  [⟨.move .look (.p 6), (some 17), none⟩,
 ⟨.move .head (.t 0), (some 18), none⟩,
 ⟨.len false (.p 18), (some 19), none⟩,
 ⟨.bin .lss 1 false (.p 17) (.p 19), (some 20), none⟩,
 ⟨.move .look (.p 20), (some 21), none⟩,
 ⟨.move .look (.t 0), (some 22), (some (21, true))⟩,
 ⟨.move .look (.p 6), (some 23), (some (21, true))⟩,
 ⟨.indexAddr 1 (.t 22) (.p 23), (some 24), (some (21, true))⟩,
 ⟨.load .head false 1 (.p 24), (some 25), (some (21, true))⟩,
 ⟨.bin .neq 1 true (.p 25) (.c (.int .u8 0)), (some 26), (some (21, true))⟩,
 ⟨.pick (.p 21) (.p 26) (.c (.bool false)), (some 27), none⟩]
@[simp] def eq111_11 := id q111_11.eq_1
def q111_12 : List AOper :=
  [⟨.move .look (.t 0), (some 14), none⟩,
 ⟨.indexAddr 1 (.t 14) (.c (.int .i64 0)), (some 15), none⟩,
 ⟨.load .take false 1 (.p 15), (some 16), none⟩,
 ⟨.assign (.p 16), (some 5), none⟩]
@[simp] def eq111_12 := id q111_12.eq_1
def q111_13 : List AOper :=
  [⟨.move .take (.t 0), (some 13), none⟩,
 ⟨.assign (.c (.slice .nil 0 1 [])), (some 2), none⟩,
 ⟨.assign (.t 13), (some 3), none⟩,
 ⟨.assign (.c (.bool false)), (some 4), none⟩]
@[simp] def eq111_13 := id q111_13.eq_1
def q111_14 : List AOper :=
  [⟨.move .head (.t 0), (some 10), none⟩,
 ⟨.len false (.p 10), (some 11), none⟩,
 ⟨.bin .lss 1 true (.p 11) (.c (.int .i64 1)), (some 12), none⟩]
@[simp] def eq111_14 := id q111_14.eq_1
def q111_15 : List AOper :=
  [⟨.assign (.c (.slice .nil 0 1 [])), (some 2), none⟩,
 ⟨.assign (.c (.slice .nil 0 1 [])), (some 3), none⟩,
 ⟨.assign (.c (.bool false)), (some 4), none⟩]
@[simp] def eq111_15 := id q111_15.eq_1
def k111_0 : ACode :=
  .ops q111_0 .ret
@[simp] def xk111_0 := @xOps _ _ _ k111_0.eq_1
def k111_1 : ACode :=
  .ops q111_1 .ret
@[simp] def xk111_1 := @xOps _ _ _ k111_1.eq_1
def k111_2 : ACode :=
  .cond (.p 55) k111_1 .skip
@[simp] def xk111_2 := @xCond _ _ _ _ k111_2.eq_1
def k111_3 : ACode :=
  .seq k111_2 k111_0
@[simp] def xk111_3 := @xSeq _ _ _ k111_3.eq_1
def k111_4 : ACode :=
  .ops q111_2 k111_3
@[simp] def xk111_4 := @xOps _ _ _ k111_4.eq_1
def k111_5 : ACode :=
  .ops q111_3 k111_4
@[simp] def xk111_5 := @xOps _ _ _ k111_5.eq_1
def k111_6 : ACode :=
  .ops q111_4 .ret
@[simp] def xk111_6 := @xOps _ _ _ k111_6.eq_1
def k111_7 : ACode :=
  .cond (.p 46) k111_6 .skip
@[simp] def xk111_7 := @xCond _ _ _ _ k111_7.eq_1
def k111_8 : ACode :=
  .seq k111_7 k111_5
@[simp] def xk111_8 := @xSeq _ _ _ k111_8.eq_1
def k111_9 : ACode :=
  .ops q111_5 k111_8
@[simp] def xk111_9 := @xOps _ _ _ k111_9.eq_1
def k111_10 : ACode :=
  .ops q111_6 k111_9
@[simp] def xk111_10 := @xOps _ _ _ k111_10.eq_1
def k111_11 : ACode :=
  .ops q111_7 k111_10
@[simp] def xk111_11 := @xOps _ _ _ k111_11.eq_1
def k111_12 : ACode :=
  .ops q111_8 .ret
@[simp] def xk111_12 := @xOps _ _ _ k111_12.eq_1
def k111_13 : ACode :=
  .cond (.p 33) k111_12 .skip
@[simp] def xk111_13 := @xCond _ _ _ _ k111_13.eq_1
def k111_14 : ACode :=
  .seq k111_13 k111_11
@[simp] def xk111_14 := @xSeq _ _ _ k111_14.eq_1
def k111_15 : ACode :=
  .ops q111_9 k111_14
@[simp] def xk111_15 := @xOps _ _ _ k111_15.eq_1
def k111_16 : ACode :=
  .ops q111_10 .skip
@[simp] def xk111_16 := @xOps _ _ _ k111_16.eq_1
def k111_17 : ACode :=
  .block 1 k111_16
@[simp] def xk111_17 := @xBlock _ _ _ k111_17.eq_1
def k111_18 : ACode :=
  .cond (.p 27) .skip (.exit 0)
@[simp] def xk111_18 := @xCond _ _ _ _ k111_18.eq_1
def k111_19 : ACode :=
  .seq k111_18 k111_17
@[simp] def xk111_19 := @xSeq _ _ _ k111_19.eq_1
def k111_20 : ACode :=
  .ops q111_11 k111_19
@[simp] def xk111_20 := @xOps _ _ _ k111_20.eq_1
def lc111_0 : ACode :=
  k111_20
@[simp] def xlc111_0 := @xSame _ _ lc111_0.eq_1
def k111_22 : ACode :=
  .loop lc111_0
@[simp] def xk111_22 := @xLoop _ _ k111_22.eq_1
def k111_23 : ACode :=
  .block 0 k111_22
@[simp] def xk111_23 := @xBlock _ _ _ k111_23.eq_1
def k111_24 : ACode :=
  .seq k111_23 k111_15
@[simp] def xk111_24 := @xSeq _ _ _ k111_24.eq_1
def k111_25 : ACode :=
  .ops [⟨.assign (.c (.int .i64 1)), (some 6), none⟩] k111_24
@[simp] def xk111_25 := @xOps _ _ _ k111_25.eq_1
def k111_26 : ACode :=
  .ops q111_12 k111_25
@[simp] def xk111_26 := @xOps _ _ _ k111_26.eq_1
def k111_27 : ACode :=
  .ops q111_13 .ret
@[simp] def xk111_27 := @xOps _ _ _ k111_27.eq_1
def k111_28 : ACode :=
  .cond (.p 12) k111_27 .skip
@[simp] def xk111_28 := @xCond _ _ _ _ k111_28.eq_1
def k111_29 : ACode :=
  .seq k111_28 k111_26
@[simp] def xk111_29 := @xSeq _ _ _ k111_29.eq_1
def k111_30 : ACode :=
  .ops q111_14 k111_29
@[simp] def xk111_30 := @xOps _ _ _ k111_30.eq_1
def k111_31 : ACode :=
  .ops q111_15 k111_30
@[simp] def xk111_31 := @xOps _ _ _ k111_31.eq_1
def af111 : AFunc := ⟨63, k111_31, [.tmp 2, .tmp 3, .tmp 4], fun _ _ => none⟩

theorem ok111 : ∃ hs, pFunc Tryz.prog sg hs Tryz.f111 = some af111 := ⟨fun i => 0, by kernel_rfl⟩
def q153_0 : List AOper :=
  [⟨.move .look (.t 0), (some 15), none⟩,
 ⟨.move .look (.p 4), (some 16), none⟩,
 ⟨.bin .add 1 true (.p 16) (.c (.int .i64 1)), (some 17), none⟩,
 ⟨.sliceSl 1 (.t 15) (some (.c (.int .i64 1))) (some (.p 17)), (some 18), none⟩,
 ⟨.assign (.t 18), (some 2), none⟩,
 ⟨.assign (.c (.nilI)), (some 3), none⟩]
@[simp] def eq153_0 := id q153_0.eq_1
def q153_1 : List AOper :=
  [⟨.mkIface 185 (.c (.str [101, 108, 101, 109, 101, 110, 116, 32, 105, 115, 32, 109, 105, 115, 115, 105, 110, 103, 32, 107, 101, 121])), (some 14), none⟩,
 ⟨.assign (.c (.slice .nil 0 1 [])), (some 2), none⟩,
 ⟨.assign (.p 14), (some 3), none⟩]
@[simp] def eq153_1 := id q153_1.eq_1
def q153_2 : List AOper :=
  [⟨.move .head (.p 4), (some 12), none⟩,
 ⟨.bin .eql 1 true (.p 12) (.c (.int .i64 (-1))), (some 13), none⟩]
@[simp] def eq153_2 := id q153_2.eq_1
def q153_3 : List AOper :=
  [⟨.move .look (.t 0), (some 9), none⟩,
 ⟨.sliceSl 1 (.t 9) (some (.c (.int .i64 1))) none, (some 10), none⟩,
 ⟨.call 155 [(.t 10, false), (.c (.int .u8 0), false)], (some 11), none⟩,
 ⟨.assign (.p 11), (some 4), none⟩]
@[simp] def eq153_3 := id q153_3.eq_1
def q153_4 : List AOper :=
  [⟨.mkIface 185 (.c (.str [101, 108, 101, 109, 101, 110, 116, 32, 105, 115, 32, 109, 105, 115, 115, 105, 110, 103, 32, 116, 121, 112, 101])), (some 8), none⟩,
 ⟨.assign (.c (.slice .nil 0 1 [])), (some 2), none⟩,
 ⟨.assign (.p 8), (some 3), none⟩]
@[simp] def eq153_4 := id q153_4.eq_1
def q153_5 : List AOper :=
  [⟨.move .head (.t 0), (some 5), none⟩,
 ⟨.len false (.p 5), (some 6), none⟩,
 ⟨.bin .eql 1 true (.p 6) (.c (.int .i64 0)), (some 7), none⟩]
@[simp] def eq153_5 := id q153_5.eq_1
def q153_6 : List AOper :=
  [⟨.assign (.c (.slice .nil 0 1 [])), (some 2), none⟩,
 ⟨.assign (.c (.nilI)), (some 3), none⟩]
@[simp] def eq153_6 := id q153_6.eq_1
def k153_0 : ACode :=
  .ops q153_0 .ret
@[simp] def xk153_0 := @xOps _ _ _ k153_0.eq_1
def k153_1 : ACode :=
  .ops q153_1 .ret
@[simp] def xk153_1 := @xOps _ _ _ k153_1.eq_1
def k153_2 : ACode :=
  .cond (.p 13) k153_1 .skip
@[simp] def xk153_2 := @xCond _ _ _ _ k153_2.eq_1
def k153_3 : ACode :=
  .seq k153_2 k153_0
@[simp] def xk153_3 := @xSeq _ _ _ k153_3.eq_1
def k153_4 : ACode :=
  .ops q153_2 k153_3
@[simp] def xk153_4 := @xOps _ _ _ k153_4.eq_1
def k153_5 : ACode :=
  .ops q153_3 k153_4
@[simp] def xk153_5 := @xOps _ _ _ k153_5.eq_1
def k153_6 : ACode :=
  .ops q153_4 .ret
@[simp] def xk153_6 := @xOps _ _ _ k153_6.eq_1
def k153_7 : ACode :=
  .cond (.p 7) k153_6 .skip
@[simp] def xk153_7 := @xCond _ _ _ _ k153_7.eq_1
def k153_8 : ACode :=
  .seq k153_7 k153_5
@[simp] def xk153_8 := @xSeq _ _ _ k153_8.eq_1
def k153_9 : ACode :=
  .ops q153_5 k153_8
@[simp] def xk153_9 := @xOps _ _ _ k153_9.eq_1
def k153_10 : ACode :=
  .ops q153_6 k153_9
@[simp] def xk153_10 := @xOps _ _ _ k153_10.eq_1
def af153 : AFunc := ⟨19, k153_10, [.tmp 2, .tmp 3], fun _ _ => none⟩

theorem ok153 : ∃ hs, pFunc Tryz.prog sg hs Tryz.f153 = some af153 := ⟨fun i => 0, by kernel_rfl⟩
def q112_0 : List AOper :=
  [⟨.move .take (.t 3), (some 10), none⟩,
 ⟨.assign (.t 10), (some 2), none⟩]
@[simp] def eq112_0 := id q112_0.eq_1
def q112_1 : List AOper :=
  [⟨.move .look (.t 0), (some 6), none⟩,
 ⟨.call 153 [(.t 6, false)], (some 7), none⟩,
 ⟨.move .look (.t 7), (some 5), none⟩,
 ⟨.extract 5 0, (some 8), none⟩,
 ⟨.extract 5 1, (some 9), none⟩,
 ⟨.assign (.t 8), (some 3), none⟩,
 ⟨.assign (.p 9), (some 4), none⟩]
@[simp] def eq112_1 := id q112_1.eq_1
def k112_0 : ACode :=
  .ops q112_0 .ret
@[simp] def xk112_0 := @xOps _ _ _ k112_0.eq_1
def k112_1 : ACode :=
  .ops q112_1 k112_0
@[simp] def xk112_1 := @xOps _ _ _ k112_1.eq_1
def k112_2 : ACode :=
  .ops [⟨.assign (.c (.slice .nil 0 1 [])), (some 2), none⟩] k112_1
@[simp] def xk112_2 := @xOps _ _ _ k112_2.eq_1
def af112 : AFunc := ⟨11, k112_2, [.tmp 2], fun _ _ => none⟩

theorem ok112 : ∃ hs, pFunc Tryz.prog sg hs Tryz.f112 = some af112 := ⟨fun i => 0, by kernel_rfl⟩
def q117_0 : List AOper :=
  [⟨.load .take true 2 (.p 5), (some 39), none⟩,
 ⟨.store 2 (.p 2) (.p 39), none, none⟩,
 ⟨.assign (.c (.nilI)), (some 3), none⟩]
@[simp] def eq117_0 := id q117_0.eq_1
def q117_1 : List AOper :=
  [⟨.build [.int .u8 0, .slice .nil 0 1 []] [], (some 34), none⟩,
 ⟨.move .look (.t 0), (some 35), none⟩,
 ⟨.move .look (.t 6), (some 36), none⟩,
 ⟨.call 110 [(.t 35, false), (.t 36, false)], (some 37), none⟩,
 ⟨.mkIface 172 (.p 37), (some 38), none⟩,
 ⟨.store 2 (.p 2) (.p 34), none, none⟩,
 ⟨.assign (.p 38), (some 3), none⟩]
@[simp] def eq117_1 := id q117_1.eq_1
def q117_2 : List AOper :=
  [⟨.move .look (.p 7), (some 32), none⟩,
 ⟨.un .not (.p 32), (some 33), none⟩]
@[simp] def eq117_2 := id q117_2.eq_1
def q117_3 : List AOper :=
  [⟨.move .look (.t 0), (some 21), none⟩,
 ⟨.move .look (.p 4), (some 22), none⟩,
 ⟨.bin .add 1 true (.p 22) (.c (.int .i64 2)), (some 23), none⟩,
 ⟨.sliceSl 1 (.t 21) (some (.p 23)) none, (some 24), none⟩,
 ⟨.move .look (.t 0), (some 25), none⟩,
 ⟨.indexAddr 1 (.t 25) (.c (.int .i64 0)), (some 26), none⟩,
 ⟨.load .look false 1 (.p 26), (some 27), none⟩,
 ⟨.call 65 [(.t 24, false), (.p 27, false)], (some 28), none⟩,
 ⟨.move .look (.t 28), (some 20), none⟩,
 ⟨.extract 20 0, (some 29), none⟩,
 ⟨.extract 20 1, (some 30), none⟩,
 ⟨.extract 20 2, (some 31), none⟩,
 ⟨.newbox1 5 [.int .u8 0, .slice .nil 0 1 []], (some 5), none⟩,
 ⟨.store 2 (.p 5) (.p 29), none, none⟩,
 ⟨.assign (.t 30), (some 6), none⟩,
 ⟨.assign (.p 31), (some 7), none⟩]
@[simp] def eq117_3 := id q117_3.eq_1
def q117_4 : List AOper :=
  [⟨.build [.int .u8 0, .slice .nil 0 1 []] [], (some 18), none⟩,
 ⟨.mkIface 185 (.c (.str [101, 108, 101, 109, 101, 110, 116, 32, 105, 115, 32, 109, 105, 115, 115, 105, 110, 103, 32, 107, 101, 121])), (some 19), none⟩,
 ⟨.store 2 (.p 2) (.p 18), none, none⟩,
 ⟨.assign (.p 19), (some 3), none⟩]
@[simp] def eq117_4 := id q117_4.eq_1
def q117_5 : List AOper :=
  [⟨.move .head (.p 4), (some 16), none⟩,
 ⟨.bin .eql 1 true (.p 16) (.c (.int .i64 (-1))), (some 17), none⟩]
@[simp] def eq117_5 := id q117_5.eq_1
def q117_6 : List AOper :=
  [⟨.move .look (.t 0), (some 13), none⟩,
 ⟨.sliceSl 1 (.t 13) (some (.c (.int .i64 1))) none, (some 14), none⟩,
 ⟨.call 155 [(.t 14, false), (.c (.int .u8 0), false)], (some 15), none⟩,
 ⟨.assign (.p 15), (some 4), none⟩]
@[simp] def eq117_6 := id q117_6.eq_1
def q117_7 : List AOper :=
  [⟨.build [.int .u8 0, .slice .nil 0 1 []] [], (some 11), none⟩,
 ⟨.mkIface 185 (.c (.str [101, 108, 101, 109, 101, 110, 116, 32, 105, 115, 32, 109, 105, 115, 115, 105, 110, 103, 32, 116, 121, 112, 101])), (some 12), none⟩,
 ⟨.store 2 (.p 2) (.p 11), none, none⟩,
 ⟨.assign (.p 12), (some 3), none⟩]
@[simp] def eq117_7 := id q117_7.eq_1
def q117_8 : List AOper :=
  [⟨.move .head (.t 0), (some 8), none⟩,
 ⟨.len false (.p 8), (some 9), none⟩,
 ⟨.bin .eql 1 true (.p 9) (.c (.int .i64 0)), (some 10), none⟩]
@[simp] def eq117_8 := id q117_8.eq_1
def q117_9 : List AOper :=
  [⟨.newbox 2 [.int .u8 0, .slice .nil 0 1 []], (some 2), none⟩,
 ⟨.assign (.c (.nilI)), (some 3), none⟩]
@[simp] def eq117_9 := id q117_9.eq_1
def k117_0 : ACode :=
  .ops q117_0 .ret
@[simp] def xk117_0 := @xOps _ _ _ k117_0.eq_1
def k117_1 : ACode :=
  .ops q117_1 .ret
@[simp] def xk117_1 := @xOps _ _ _ k117_1.eq_1
def k117_2 : ACode :=
  .cond (.p 33) k117_1 .skip
@[simp] def xk117_2 := @xCond _ _ _ _ k117_2.eq_1
def k117_3 : ACode :=
  .seq k117_2 k117_0
@[simp] def xk117_3 := @xSeq _ _ _ k117_3.eq_1
def k117_4 : ACode :=
  .ops q117_2 k117_3
@[simp] def xk117_4 := @xOps _ _ _ k117_4.eq_1
def k117_5 : ACode :=
  .ops q117_3 k117_4
@[simp] def xk117_5 := @xOps _ _ _ k117_5.eq_1
def k117_6 : ACode :=
  .ops q117_4 .ret
@[simp] def xk117_6 := @xOps _ _ _ k117_6.eq_1
def k117_7 : ACode :=
  .cond (.p 17) k117_6 .skip
@[simp] def xk117_7 := @xCond _ _ _ _ k117_7.eq_1
def k117_8 : ACode :=
  .seq k117_7 k117_5
@[simp] def xk117_8 := @xSeq _ _ _ k117_8.eq_1
def k117_9 : ACode :=
  .ops q117_5 k117_8
@[simp] def xk117_9 := @xOps _ _ _ k117_9.eq_1
def k117_10 : ACode :=
  .ops q117_6 k117_9
@[simp] def xk117_10 := @xOps _ _ _ k117_10.eq_1
def k117_11 : ACode :=
  .ops q117_7 .ret
@[simp] def xk117_11 := @xOps _ _ _ k117_11.eq_1
def k117_12 : ACode :=
  .cond (.p 10) k117_11 .skip
@[simp] def xk117_12 := @xCond _ _ _ _ k117_12.eq_1
def k117_13 : ACode :=
  .seq k117_12 k117_10
@[simp] def xk117_13 := @xSeq _ _ _ k117_13.eq_1
def k117_14 : ACode :=
  .ops q117_8 k117_13
@[simp] def xk117_14 := @xOps _ _ _ k117_14.eq_1
def k117_15 : ACode :=
  .ops q117_9 k117_14
@[simp] def xk117_15 := @xOps _ _ _ k117_15.eq_1
def af117 : AFunc := ⟨40, k117_15, [.cell 2 true 2, .tmp 3], fun _ _ => none⟩

theorem ok117 : ∃ hs, pFunc Tryz.prog sg hs Tryz.f117 = some af117 := ⟨fun i => if i == 5 then 4 else 0, by kernel_rfl⟩
def q113_0 : List AOper :=
  [⟨.load .take true 2 (.p 3), (some 10), none⟩,
 ⟨.store 2 (.p 2) (.p 10), none, none⟩]
@[simp] def eq113_0 := id q113_0.eq_1
def q113_1 : List AOper :=
  [⟨.move .look (.t 0), (some 6), none⟩,
 ⟨.call 117 [(.t 6, false)], (some 7), none⟩,
 ⟨.move .look (.t 7), (some 5), none⟩,
 ⟨.extract 5 0, (some 8), none⟩,
 ⟨.extract 5 1, (some 9), none⟩,
 ⟨.newbox 3 [.int .u8 0, .slice .nil 0 1 []], (some 3), none⟩,
 ⟨.store 2 (.p 3) (.p 8), none, none⟩,
 ⟨.assign (.p 9), (some 4), none⟩]
@[simp] def eq113_1 := id q113_1.eq_1
def k113_0 : ACode :=
  .ops q113_0 .ret
@[simp] def xk113_0 := @xOps _ _ _ k113_0.eq_1
def k113_1 : ACode :=
  .ops q113_1 k113_0
@[simp] def xk113_1 := @xOps _ _ _ k113_1.eq_1
def k113_2 : ACode :=
  .ops [⟨.newbox 2 [.int .u8 0, .slice .nil 0 1 []], (some 2), none⟩] k113_1
@[simp] def xk113_2 := @xOps _ _ _ k113_2.eq_1
def af113 : AFunc := ⟨11, k113_2, [.cell 2 true 2], fun _ _ => none⟩

theorem ok113 : ∃ hs, pFunc Tryz.prog sg hs Tryz.f113 = some af113 := ⟨fun i => 0, by kernel_rfl⟩
def q114_0 : List AOper :=
  [⟨.move .take (.t 3), (some 28), none⟩,
 ⟨.assign (.t 28), (some 2), none⟩]
@[simp] def eq114_0 := id q114_0.eq_1
def q114_1 : List AOper :=
  [⟨.fieldAddr 1 (.p 1), (some 22), none⟩,
 ⟨.load .look false 1 (.p 22), (some 23), none⟩,
 ⟨.fieldAddr 1 (.p 1), (some 24), none⟩,
 ⟨.load .look false 1 (.p 24), (some 25), none⟩,
 ⟨.call 110 [(.t 23, false), (.t 25, false)], (some 26), none⟩,
 ⟨.mkIface 172 (.p 26), (some 27), none⟩,
 ⟨.dead, none, none⟩]
@[simp] def eq114_1 := id q114_1.eq_1
def q114_2 : List AOper :=
  [⟨.move .look (.p 5), (some 20), none⟩,
 ⟨.un .not (.p 20), (some 21), none⟩]
@[simp] def eq114_2 := id q114_2.eq_1
def q114_3 : List AOper :=
  [⟨.fieldAddr 1 (.p 1), (some 14), none⟩,
 ⟨.load .look false 1 (.p 14), (some 15), none⟩,
 ⟨.call 47 [(.t 15, false)], (some 16), none⟩,
 ⟨.move .look (.t 16), (some 13), none⟩,
 ⟨.extract 13 0, (some 17), none⟩,
 ⟨.extract 13 1, (some 18), none⟩,
 ⟨.extract 13 2, (some 19), none⟩,
 ⟨.assign (.t 17), (some 3), none⟩,
 ⟨.assign (.t 18), (some 4), none⟩,
 ⟨.assign (.p 19), (some 5), none⟩]
@[simp] def eq114_3 := id q114_3.eq_1
def q114_4 : List AOper :=
  [⟨.fieldAddr 0 (.p 1), (some 9), none⟩,
 ⟨.load .look false 1 (.p 9), (some 10), none⟩,
 ⟨.build [.str [], .int .u8 0] [(0, 1, .c (.str [98, 115, 111, 110, 99, 111, 114, 101, 46, 86, 97, 108, 117, 101, 46, 68, 111, 99, 117, 109, 101, 110, 116])), (1, 1, .p 10)], (some 11), none⟩,
 ⟨.mkIface 217 (.p 11), (some 12), none⟩,
 ⟨.dead, none, none⟩]
@[simp] def eq114_4 := id q114_4.eq_1
def q114_5 : List AOper :=
  [⟨.fieldAddr 0 (.p 1), (some 6), none⟩,
 ⟨.load .head false 1 (.p 6), (some 7), none⟩,
 ⟨.bin .neq 1 true (.p 7) (.c (.int .u8 3)), (some 8), none⟩]
@[simp] def eq114_5 := id q114_5.eq_1
def q114_6 : List AOper :=
  [⟨.box 1 (.p 0), (some 1), none⟩,
 ⟨.assign (.c (.slice .nil 0 1 [])), (some 2), none⟩]
@[simp] def eq114_6 := id q114_6.eq_1
def k114_0 : ACode :=
  .ops q114_0 .ret
@[simp] def xk114_0 := @xOps _ _ _ k114_0.eq_1
def k114_1 : ACode :=
  .ops q114_1 .skip
def k114_2 : ACode :=
  .cond (.p 21) k114_1 .skip
@[simp] def xk114_2 := @xCond _ _ _ _ k114_2.eq_1
def k114_3 : ACode :=
  .seq k114_2 k114_0
@[simp] def xk114_3 := @xSeq _ _ _ k114_3.eq_1
def k114_4 : ACode :=
  .ops q114_2 k114_3
@[simp] def xk114_4 := @xOps _ _ _ k114_4.eq_1
def k114_5 : ACode :=
  .ops q114_3 k114_4
@[simp] def xk114_5 := @xOps _ _ _ k114_5.eq_1
def k114_6 : ACode :=
  .ops q114_4 .skip
def k114_7 : ACode :=
  .cond (.p 8) k114_6 .skip
@[simp] def xk114_7 := @xCond _ _ _ _ k114_7.eq_1
def k114_8 : ACode :=
  .seq k114_7 k114_5
@[simp] def xk114_8 := @xSeq _ _ _ k114_8.eq_1
def k114_9 : ACode :=
  .ops q114_5 k114_8
@[simp] def xk114_9 := @xOps _ _ _ k114_9.eq_1
def k114_10 : ACode :=
  .ops q114_6 k114_9
@[simp] def xk114_10 := @xOps _ _ _ k114_10.eq_1
def af114 : AFunc := ⟨29, k114_10, [.tmp 2], fun _ _ => none⟩

theorem ok114 : ∃ hs, pFunc Tryz.prog sg hs Tryz.f114 = some af114 := ⟨fun i => 0, by kernel_rfl⟩
def q115_0 : List AOper :=
  [⟨.move .take (.t 3), (some 28), none⟩,
 ⟨.assign (.t 28), (some 2), none⟩]
@[simp] def eq115_0 := id q115_0.eq_1
def q115_1 : List AOper :=
  [⟨.fieldAddr 1 (.p 1), (some 22), none⟩,
 ⟨.load .look false 1 (.p 22), (some 23), none⟩,
 ⟨.fieldAddr 1 (.p 1), (some 24), none⟩,
 ⟨.load .look false 1 (.p 24), (some 25), none⟩,
 ⟨.call 110 [(.t 23, false), (.t 25, false)], (some 26), none⟩,
 ⟨.mkIface 172 (.p 26), (some 27), none⟩,
 ⟨.dead, none, none⟩]
@[simp] def eq115_1 := id q115_1.eq_1
def q115_2 : List AOper :=
  [⟨.move .look (.p 5), (some 20), none⟩,
 ⟨.un .not (.p 20), (some 21), none⟩]
@[simp] def eq115_2 := id q115_2.eq_1
def q115_3 : List AOper :=
  [⟨.fieldAddr 1 (.p 1), (some 14), none⟩,
 ⟨.load .look false 1 (.p 14), (some 15), none⟩,
 ⟨.call 48 [(.t 15, false)], (some 16), none⟩,
 ⟨.move .look (.t 16), (some 13), none⟩,
 ⟨.extract 13 0, (some 17), none⟩,
 ⟨.extract 13 1, (some 18), none⟩,
 ⟨.extract 13 2, (some 19), none⟩,
 ⟨.assign (.t 17), (some 3), none⟩,
 ⟨.assign (.t 18), (some 4), none⟩,
 ⟨.assign (.p 19), (some 5), none⟩]
@[simp] def eq115_3 := id q115_3.eq_1
def q115_4 : List AOper :=
  [⟨.fieldAddr 0 (.p 1), (some 9), none⟩,
 ⟨.load .look false 1 (.p 9), (some 10), none⟩,
 ⟨.build [.str [], .int .u8 0] [(0, 1, .c (.str [98, 115, 111, 110, 99, 111, 114, 101, 46, 86, 97, 108, 117, 101, 46, 65, 114, 114, 97, 121])), (1, 1, .p 10)], (some 11), none⟩,
 ⟨.mkIface 217 (.p 11), (some 12), none⟩,
 ⟨.dead, none, none⟩]
@[simp] def eq115_4 := id q115_4.eq_1
def q115_5 : List AOper :=
  [⟨.fieldAddr 0 (.p 1), (some 6), none⟩,
 ⟨.load .head false 1 (.p 6), (some 7), none⟩,
 ⟨.bin .neq 1 true (.p 7) (.c (.int .u8 4)), (some 8), none⟩]
@[simp] def eq115_5 := id q115_5.eq_1
def q115_6 : List AOper :=
  [⟨.box 1 (.p 0), (some 1), none⟩,
 ⟨.assign (.c (.slice .nil 0 1 [])), (some 2), none⟩]
@[simp] def eq115_6 := id q115_6.eq_1
def k115_0 : ACode :=
  .ops q115_0 .ret
@[simp] def xk115_0 := @xOps _ _ _ k115_0.eq_1
def k115_1 : ACode :=
  .ops q115_1 .skip
def k115_2 : ACode :=
  .cond (.p 21) k115_1 .skip
@[simp] def xk115_2 := @xCond _ _ _ _ k115_2.eq_1
def k115_3 : ACode :=
  .seq k115_2 k115_0
@[simp] def xk115_3 := @xSeq _ _ _ k115_3.eq_1
def k115_4 : ACode :=
  .ops q115_2 k115_3
@[simp] def xk115_4 := @xOps _ _ _ k115_4.eq_1
def k115_5 : ACode :=
  .ops q115_3 k115_4
@[simp] def xk115_5 := @xOps _ _ _ k115_5.eq_1
def k115_6 : ACode :=
  .ops q115_4 .skip
def k115_7 : ACode :=
  .cond (.p 8) k115_6 .skip
@[simp] def xk115_7 := @xCond _ _ _ _ k115_7.eq_1
def k115_8 : ACode :=
  .seq k115_7 k115_5
@[simp] def xk115_8 := @xSeq _ _ _ k115_8.eq_1
def k115_9 : ACode :=
  .ops q115_5 k115_8
@[simp] def xk115_9 := @xOps _ _ _ k115_9.eq_1
def k115_10 : ACode :=
  .ops q115_6 k115_9
@[simp] def xk115_10 := @xOps _ _ _ k115_10.eq_1
def af115 : AFunc := ⟨29, k115_10, [.tmp 2], fun _ _ => none⟩

theorem ok115 : ∃ hs, pFunc Tryz.prog sg hs Tryz.f115 = some af115 := ⟨fun i => 0, by kernel_rfl⟩
def q154_0 : List AOper :=
  [⟨.move .look (.t 4), (some 11), none⟩,
 ⟨.convBS (.t 11), (some 12), none⟩,
 ⟨.move .take (.p 5), (some 13), none⟩,
 ⟨.assign (.p 12), (some 2), none⟩,
 ⟨.assign (.p 13), (some 3), none⟩]
@[simp] def eq154_0 := id q154_0.eq_1
def q154_1 : List AOper :=
  [⟨.move .look (.t 0), (some 7), none⟩,
 ⟨.call 153 [(.t 7, false)], (some 8), none⟩,
 ⟨.move .look (.t 8), (some 6), none⟩,
 ⟨.extract 6 0, (some 9), none⟩,
 ⟨.extract 6 1, (some 10), none⟩,
 ⟨.assign (.t 9), (some 4), none⟩,
 ⟨.assign (.p 10), (some 5), none⟩]
@[simp] def eq154_1 := id q154_1.eq_1
def q154_2 : List AOper :=
  [⟨.assign (.c (.str [])), (some 2), none⟩,
 ⟨.assign (.c (.nilI)), (some 3), none⟩]
@[simp] def eq154_2 := id q154_2.eq_1
def k154_0 : ACode :=
  .ops q154_0 .ret
@[simp] def xk154_0 := @xOps _ _ _ k154_0.eq_1
def k154_1 : ACode :=
  .ops q154_1 k154_0
@[simp] def xk154_1 := @xOps _ _ _ k154_1.eq_1
def k154_2 : ACode :=
  .ops q154_2 k154_1
@[simp] def xk154_2 := @xOps _ _ _ k154_2.eq_1
def af154 : AFunc := ⟨14, k154_2, [.tmp 2, .tmp 3], fun _ _ => none⟩

theorem ok154 : ∃ hs, pFunc Tryz.prog sg hs Tryz.f154 = some af154 := ⟨fun i => 0, by kernel_rfl⟩
def q116_0 : List AOper :=
  [⟨.move .take (.p 3), (some 10), none⟩,
 ⟨.assign (.p 10), (some 2), none⟩]
@[simp] def eq116_0 := id q116_0.eq_1
def q116_1 : List AOper :=
  [⟨.move .look (.t 0), (some 6), none⟩,
 ⟨.call 154 [(.t 6, false)], (some 7), none⟩,
 ⟨.move .look (.t 7), (some 5), none⟩,
 ⟨.extract 5 0, (some 8), none⟩,
 ⟨.extract 5 1, (some 9), none⟩,
 ⟨.assign (.p 8), (some 3), none⟩,
 ⟨.assign (.p 9), (some 4), none⟩]
@[simp] def eq116_1 := id q116_1.eq_1
def k116_0 : ACode :=
  .ops q116_0 .ret
@[simp] def xk116_0 := @xOps _ _ _ k116_0.eq_1
def k116_1 : ACode :=
  .ops q116_1 k116_0
@[simp] def xk116_1 := @xOps _ _ _ k116_1.eq_1
def k116_2 : ACode :=
  .ops [⟨.assign (.c (.str [])), (some 2), none⟩] k116_1
@[simp] def xk116_2 := @xOps _ _ _ k116_2.eq_1
def af116 : AFunc := ⟨11, k116_2, [.tmp 2], fun _ _ => none⟩

theorem ok116 : ∃ hs, pFunc Tryz.prog sg hs Tryz.f116 = some af116 := ⟨fun i => 0, by kernel_rfl⟩
def q66_0 : List AOper :=
  [⟨.load .take false 1 (.c (.gl 2)), (some 112), none⟩,
 ⟨.build [.int .u8 0, .slice .nil 0 1 []] [], (some 111), none⟩,
 ⟨.store 2 (.p 4) (.p 111), none, none⟩,
 ⟨.assign (.p 112), (some 5), none⟩]
@[simp] def eq66_0 := id q66_0.eq_1
def q66_1 : List AOper :=
  [⟨.move .look (.t 9), (some 107), none⟩,
 ⟨.call 117 [(.t 107, false)], (some 108), none⟩,
 ⟨.extract 108 0, (some 109), none⟩,
 ⟨.extract 108 1, (some 110), none⟩,
 ⟨.store 2 (.p 4) (.p 109), none, none⟩,
 ⟨.assign (.p 110), (some 5), none⟩]
@[simp] def eq66_1 := id q66_1.eq_1
def q66_2 : List AOper :=
  [⟨.load .take true 2 (.p 11), (some 90), none⟩,
 ⟨.store 2 (.p 4) (.p 90), none, none⟩,
 ⟨.assign (.c (.nilI)), (some 5), none⟩]
@[simp] def eq66_2 := id q66_2.eq_1
def q66_3 : List AOper :=
  [⟨.build [.int .u8 0, .slice .nil 0 1 []] [], (some 88), none⟩,
 ⟨.move .take (.p 12), (some 89), none⟩,
 ⟨.store 2 (.p 4) (.p 88), none, none⟩,
 ⟨.assign (.p 89), (some 5), none⟩]
@[simp] def eq66_3 := id q66_3.eq_1
def q66_4 : List AOper :=
  [⟨.move .head (.p 12), (some 86), none⟩,
 ⟨.bin .neq 5 true (.p 86) (.c (.nilI)), (some 87), none⟩]
@[simp] def eq66_4 := id q66_4.eq_1
def q66_5 : List AOper :=
  [⟨.move .look (.t 9), (some 78), none⟩,
 ⟨.move .look (.t 1), (some 81), none⟩,
 ⟨.sliceSl 1 (.t 81) (some (.c (.int .i64 1))) none, (some 82), none⟩,
 ⟨.call 113 [(.t 78, false)], (some 79), none⟩,
 ⟨.call 114 [(.p 79, false)], (some 80), none⟩,
 ⟨.call 66 [(.t 80, false), (.t 82, false)], (some 83), none⟩,
 ⟨.move .look (.t 83), (some 77), none⟩,
 ⟨.extract 77 0, (some 84), none⟩,
 ⟨.extract 77 1, (some 85), none⟩,
 ⟨.newbox1 11 [.int .u8 0, .slice .nil 0 1 []], (some 11), none⟩,
 ⟨.store 2 (.p 11) (.p 84), none, none⟩,
 ⟨.assign (.p 85), (some 12), none⟩]
@[simp] def eq66_5 := id q66_5.eq_1
def q66_6 : List AOper :=
  [⟨.load .take true 2 (.p 13), (some 106), none⟩,
 ⟨.store 2 (.p 4) (.p 106), none, none⟩,
 ⟨.assign (.c (.nilI)), (some 5), none⟩]
@[simp] def eq66_6 := id q66_6.eq_1
def q66_7 : List AOper :=
  [⟨.build [.int .u8 0, .slice .nil 0 1 []] [], (some 104), none⟩,
 ⟨.move .take (.p 14), (some 105), none⟩,
 ⟨.store 2 (.p 4) (.p 104), none, none⟩,
 ⟨.assign (.p 105), (some 5), none⟩]
@[simp] def eq66_7 := id q66_7.eq_1
def q66_8 : List AOper :=
  [⟨.move .head (.p 14), (some 102), none⟩,
 ⟨.bin .neq 5 true (.p 102) (.c (.nilI)), (some 103), none⟩]
@[simp] def eq66_8 := id q66_8.eq_1
def q66_9 : List AOper :=
  [⟨.move .look (.t 9), (some 94), none⟩,
 ⟨.move .look (.t 1), (some 97), none⟩,
 ⟨.sliceSl 1 (.t 97) (some (.c (.int .i64 1))) none, (some 98), none⟩,
 ⟨.call 113 [(.t 94, false)], (some 95), none⟩,
 ⟨.call 115 [(.p 95, false)], (some 96), none⟩,
 ⟨.call 66 [(.t 96, false), (.t 98, false)], (some 99), none⟩,
 ⟨.move .look (.t 99), (some 93), none⟩,
 ⟨.extract 93 0, (some 100), none⟩,
 ⟨.extract 93 1, (some 101), none⟩,
 ⟨.newbox1 13 [.int .u8 0, .slice .nil 0 1 []], (some 13), none⟩,
 ⟨.store 2 (.p 13) (.p 100), none, none⟩,
 ⟨.assign (.p 101), (some 14), none⟩]
@[simp] def eq66_9 := id q66_9.eq_1
def q66_10 : List AOper :=
  [⟨.build [.int .u8 0, .slice .nil 0 1 []] [], (some 69), none⟩,
 ⟨.move .look (.t 9), (some 70), none⟩,
 ⟨.call 116 [(.t 70, false)], (some 71), none⟩,
 ⟨.move .look (.p 10), (some 72), none⟩,
 ⟨.build [.str [], .int .u8 0] [(0, 1, .p 71), (1, 1, .p 72)], (some 73), none⟩,
 ⟨.mkIface 182 (.p 73), (some 74), none⟩,
 ⟨.store 2 (.p 4) (.p 69), none, none⟩,
 ⟨.assign (.p 74), (some 5), none⟩]
@[simp] def eq66_10 := id q66_10.eq_1
def q66_11 : List AOper :=
  [⟨.bin .eql 1 true (.p 68) (.c (.int .u8 4)), (some 92), none⟩,
 ⟨.assign (.p 92), (some 91), none⟩]
@[simp] def eq66_11 := id q66_11.eq_1
def q66_12 : List AOper :=
  [⟨.bin .eql 1 true (.p 68) (.c (.int .u8 3)), (some 76), none⟩,
 ⟨.assign (.p 76), (some 75), none⟩]
@[simp] def eq66_12 := id q66_12.eq_1
def q66_13 : List AOper :=
  [⟨.move .look (.t 9), (some 65), none⟩,
 ⟨.indexAddr 1 (.t 65) (.c (.int .i64 0)), (some 66), none⟩,
 ⟨.load .take false 1 (.p 66), (some 67), none⟩,
 ⟨.assign (.p 67), (some 10), none⟩]
@[simp] def eq66_13 := id q66_13.eq_1
def q66_14 : List AOper :=
  [⟨.move .head (.t 1), (some 62), none⟩,
 ⟨.len false (.p 62), (some 63), none⟩,
 ⟨.bin .gtr 1 true (.p 63) (.c (.int .i64 1)), (some 64), none⟩]
@[simp] def eq66_14 := id q66_14.eq_1
def q66_15 : List AOper :=
  [⟨.move .look (.t 9), (some 55), none⟩,
 ⟨.move .look (.t 1), (some 58), none⟩,
 ⟨.indexAddr 1 (.t 58) (.c (.int .i64 0)), (some 59), none⟩,
 ⟨.load .head false 1 (.p 59), (some 60), none⟩,
 ⟨.call 112 [(.t 55, false)], (some 56), none⟩,
 ⟨.convBS (.t 56), (some 57), none⟩,
 ⟨.bin .neq 2 false (.p 57) (.p 60), (some 61), none⟩]
@[simp] def eq66_15 := id q66_15.eq_1
def q66_16 : List AOper :=
  [⟨.build [.int .u8 0, .slice .nil 0 1 []] [], (some 50), none⟩,
 ⟨.move .look (.t 0), (some 51), none⟩,
 ⟨.move .look (.t 7), (some 52), none⟩,
 ⟨.call 110 [(.t 51, false), (.t 52, false)], (some 53), none⟩,
 ⟨.mkIface 172 (.p 53), (some 54), none⟩,
 ⟨.store 2 (.p 4) (.p 50), none, none⟩,
 ⟨.assign (.p 54), (some 5), none⟩]
@[simp] def eq66_16 := id q66_16.eq_1
def q66_17 : List AOper :=
  [⟨.move .look (.p 8), (some 48), none⟩,
 ⟨.un .not (.p 48), (some 49), none⟩]
@[simp] def eq66_17 := id q66_17.eq_1
def q66_18 : List AOper :=
  [⟨.move .look (.p 6), (some 43), none⟩,
 ⟨.move .head (.t 9), (some 44), none⟩,
 ⟨.len false (.p 44), (some 45), none⟩,
 ⟨.convInt .i32 (.p 45), (some 46), none⟩,
 ⟨.bin .sub 1 false (.p 43) (.p 46), (some 47), none⟩,
 ⟨.assign (.p 47), (some 6), none⟩]
@[simp] def eq66_18 := id q66_18.eq_1
def q66_19 : List AOper :=
  [⟨.move .look (.t 7), (some 38), none⟩,
 ⟨.call 111 [(.t 38, false)], (some 39), none⟩,
 ⟨.move .look (.t 39), (some 37), none⟩,
 ⟨.extract 37 0, (some 40), none⟩,
 ⟨.extract 37 1, (some 41), none⟩,
 ⟨.extract 37 2, (some 42), none⟩,
 ⟨.assign (.t 40), (some 9), none⟩,
 ⟨.assign (.t 41), (some 7), none⟩,
 ⟨.assign (.p 42), (some 8), none⟩]
@[simp] def eq66_19 := id q66_19.eq_1
def q66_20 : List AOper :=
  [⟨.move .look (.p 6), (some 35), none⟩,
 ⟨.bin .gtr 1 true (.p 35) (.c (.int .i32 1)), (some 36), none⟩]
@[simp] def eq66_20 := id q66_20.eq_1
def q66_21 : List AOper :=
  [⟨.move .look (.p 6), (some 33), none⟩,
 ⟨.bin .sub 1 true (.p 33) (.c (.int .i32 4)), (some 34), none⟩,
 ⟨.assign (.p 34), (some 6), none⟩]
@[simp] def eq66_21 := id q66_21.eq_1
def q66_22 : List AOper :=
  [⟨.build [.int .u8 0, .slice .nil 0 1 []] [], (some 28), none⟩,
 ⟨.move .look (.t 0), (some 29), none⟩,
 ⟨.move .look (.t 7), (some 30), none⟩,
 ⟨.call 110 [(.t 29, false), (.t 30, false)], (some 31), none⟩,
 ⟨.mkIface 172 (.p 31), (some 32), none⟩,
 ⟨.store 2 (.p 4) (.p 28), none, none⟩,
 ⟨.assign (.p 32), (some 5), none⟩]
@[simp] def eq66_22 := id q66_22.eq_1
def q66_23 : List AOper :=
  [⟨.move .look (.p 8), (some 26), none⟩,
 ⟨.un .not (.p 26), (some 27), none⟩]
@[simp] def eq66_23 := id q66_23.eq_1
def q66_24 : List AOper :=
  [⟨.move .look (.t 0), (some 21), none⟩,
 ⟨.call 77 [(.t 21, false)], (some 22), none⟩,
 ⟨.move .look (.t 22), (some 20), none⟩,
 ⟨.extract 20 0, (some 23), none⟩,
 ⟨.extract 20 1, (some 24), none⟩,
 ⟨.extract 20 2, (some 25), none⟩,
 ⟨.assign (.p 23), (some 6), none⟩,
 ⟨.assign (.t 24), (some 7), none⟩,
 ⟨.assign (.p 25), (some 8), none⟩]
@[simp] def eq66_24 := id q66_24.eq_1
def q66_25 : List AOper :=
  [⟨.load .take false 1 (.c (.gl 1)), (some 19), none⟩,
 ⟨.build [.int .u8 0, .slice .nil 0 1 []] [], (some 18), none⟩,
 ⟨.store 2 (.p 4) (.p 18), none, none⟩,
 ⟨.assign (.p 19), (some 5), none⟩]
@[simp] def eq66_25 := id q66_25.eq_1
def q66_26 : List AOper :=
  [⟨.move .head (.t 1), (some 15), none⟩,
 ⟨.len false (.p 15), (some 16), none⟩,
 ⟨.bin .lss 1 true (.p 16) (.c (.int .i64 1)), (some 17), none⟩]
@[simp] def eq66_26 := id q66_26.eq_1
def q66_27 : List AOper :=
  [⟨.newbox 4 [.int .u8 0, .slice .nil 0 1 []], (some 4), none⟩,
 ⟨.assign (.c (.nilI)), (some 5), none⟩]
@[simp] def eq66_27 := id q66_27.eq_1
def k66_0 : ACode :=
  .ops q66_0 .ret
@[simp] def xk66_0 := @xOps _ _ _ k66_0.eq_1
def k66_1 : ACode :=
  .ops q66_1 .ret
@[simp] def xk66_1 := @xOps _ _ _ k66_1.eq_1
def k66_2 : ACode :=
  .ops q66_2 .ret
@[simp] def xk66_2 := @xOps _ _ _ k66_2.eq_1
def k66_3 : ACode :=
  .ops q66_3 .ret
@[simp] def xk66_3 := @xOps _ _ _ k66_3.eq_1
def k66_4 : ACode :=
  .cond (.p 87) k66_3 .skip
@[simp] def xk66_4 := @xCond _ _ _ _ k66_4.eq_1
def k66_5 : ACode :=
  .seq k66_4 k66_2
@[simp] def xk66_5 := @xSeq _ _ _ k66_5.eq_1
def k66_6 : ACode :=
  .ops q66_4 k66_5
@[simp] def xk66_6 := @xOps _ _ _ k66_6.eq_1
def k66_7 : ACode :=
  .ops q66_5 k66_6
@[simp] def xk66_7 := @xOps _ _ _ k66_7.eq_1
def k66_8 : ACode :=
  .ops q66_6 .ret
@[simp] def xk66_8 := @xOps _ _ _ k66_8.eq_1
def k66_9 : ACode :=
  .ops q66_7 .ret
@[simp] def xk66_9 := @xOps _ _ _ k66_9.eq_1
def k66_10 : ACode :=
  .cond (.p 103) k66_9 .skip
@[simp] def xk66_10 := @xCond _ _ _ _ k66_10.eq_1
def k66_11 : ACode :=
  .seq k66_10 k66_8
@[simp] def xk66_11 := @xSeq _ _ _ k66_11.eq_1
def k66_12 : ACode :=
  .ops q66_8 k66_11
@[simp] def xk66_12 := @xOps _ _ _ k66_12.eq_1
def k66_13 : ACode :=
  .ops q66_9 k66_12
@[simp] def xk66_13 := @xOps _ _ _ k66_13.eq_1
def k66_14 : ACode :=
  .ops q66_10 .ret
@[simp] def xk66_14 := @xOps _ _ _ k66_14.eq_1
def k66_15 : ACode :=
  .cond (.p 91) k66_13 k66_14
@[simp] def xk66_15 := @xCond _ _ _ _ k66_15.eq_1
def k66_16 : ACode :=
  .ops q66_11 k66_15
@[simp] def xk66_16 := @xOps _ _ _ k66_16.eq_1
def k66_17 : ACode :=
  .cond (.p 75) k66_7 k66_16
@[simp] def xk66_17 := @xCond _ _ _ _ k66_17.eq_1
def k66_18 : ACode :=
  .ops q66_12 k66_17
@[simp] def xk66_18 := @xOps _ _ _ k66_18.eq_1
def k66_19 : ACode :=
  .block 2 k66_18
@[simp] def xk66_19 := @xBlock _ _ _ k66_19.eq_1
def k66_20 : ACode :=
  .ops [⟨.move .head (.p 10), (some 68), none⟩] k66_19
@[simp] def xk66_20 := @xOps _ _ _ k66_20.eq_1
def k66_21 : ACode :=
  .ops q66_13 k66_20
@[simp] def xk66_21 := @xOps _ _ _ k66_21.eq_1
def k66_22 : ACode :=
  .cond (.p 64) k66_21 .skip
@[simp] def xk66_22 := @xCond _ _ _ _ k66_22.eq_1
def k66_23 : ACode :=
  .seq k66_22 k66_1
@[simp] def xk66_23 := @xSeq _ _ _ k66_23.eq_1
def k66_24 : ACode :=
  .ops q66_14 k66_23
@[simp] def xk66_24 := @xOps _ _ _ k66_24.eq_1
def k66_25 : ACode :=
  .cond (.p 61) (.exit 1) .skip
@[simp] def xk66_25 := @xCond _ _ _ _ k66_25.eq_1
def k66_26 : ACode :=
  .seq k66_25 k66_24
@[simp] def xk66_26 := @xSeq _ _ _ k66_26.eq_1
def k66_27 : ACode :=
  .ops q66_15 k66_26
@[simp] def xk66_27 := @xOps _ _ _ k66_27.eq_1
def k66_28 : ACode :=
  .ops q66_16 .ret
def k66_29 : ACode :=
  .cond (.p 49) k66_28 .skip
@[simp] def xk66_29 := @xCond _ _ _ _ k66_29.eq_1
def k66_30 : ACode :=
  .seq k66_29 k66_27
@[simp] def xk66_30 := @xSeq _ _ _ k66_30.eq_1
def k66_31 : ACode :=
  .ops q66_17 k66_30
@[simp] def xk66_31 := @xOps _ _ _ k66_31.eq_1
def k66_32 : ACode :=
  .ops q66_18 k66_31
@[simp] def xk66_32 := @xOps _ _ _ k66_32.eq_1
def k66_33 : ACode :=
  .ops q66_19 k66_32
@[simp] def xk66_33 := @xOps _ _ _ k66_33.eq_1
def k66_34 : ACode :=
  .block 1 k66_33
@[simp] def xk66_34 := @xBlock _ _ _ k66_34.eq_1
def k66_35 : ACode :=
  .cond (.p 36) .skip (.exit 0)
@[simp] def xk66_35 := @xCond _ _ _ _ k66_35.eq_1
def k66_36 : ACode :=
  .seq k66_35 k66_34
@[simp] def xk66_36 := @xSeq _ _ _ k66_36.eq_1
def k66_37 : ACode :=
  .ops q66_20 k66_36
@[simp] def xk66_37 := @xOps _ _ _ k66_37.eq_1
def lc66_0 : ACode :=
  k66_37
@[simp] def xlc66_0 := @xSame _ _ lc66_0.eq_1
def k66_39 : ACode :=
  .loop lc66_0
@[simp] def xk66_39 := @xLoop _ _ k66_39.eq_1
def k66_40 : ACode :=
  .block 0 k66_39
@[simp] def xk66_40 := @xBlock _ _ _ k66_40.eq_1
def k66_41 : ACode :=
  .seq k66_40 k66_0
@[simp] def xk66_41 := @xSeq _ _ _ k66_41.eq_1
def k66_42 : ACode :=
  .ops [⟨.assign (.c (.slice .nil 0 1 [])), (some 9), none⟩] k66_41
@[simp] def xk66_42 := @xOps _ _ _ k66_42.eq_1
def k66_43 : ACode :=
  .ops q66_21 k66_42
@[simp] def xk66_43 := @xOps _ _ _ k66_43.eq_1
def k66_44 : ACode :=
  .ops q66_22 .ret
def k66_45 : ACode :=
  .cond (.p 27) k66_44 .skip
@[simp] def xk66_45 := @xCond _ _ _ _ k66_45.eq_1
def k66_46 : ACode :=
  .seq k66_45 k66_43
@[simp] def xk66_46 := @xSeq _ _ _ k66_46.eq_1
def k66_47 : ACode :=
  .ops q66_23 k66_46
@[simp] def xk66_47 := @xOps _ _ _ k66_47.eq_1
def k66_48 : ACode :=
  .ops q66_24 k66_47
@[simp] def xk66_48 := @xOps _ _ _ k66_48.eq_1
def k66_49 : ACode :=
  .ops q66_25 .ret
def k66_50 : ACode :=
  .cond (.p 17) k66_49 .skip
@[simp] def xk66_50 := @xCond _ _ _ _ k66_50.eq_1
def k66_51 : ACode :=
  .seq k66_50 k66_48
@[simp] def xk66_51 := @xSeq _ _ _ k66_51.eq_1
def k66_52 : ACode :=
  .ops q66_26 k66_51
@[simp] def xk66_52 := @xOps _ _ _ k66_52.eq_1
def k66_53 : ACode :=
  .ops q66_27 k66_52
@[simp] def xk66_53 := @xOps _ _ _ k66_53.eq_1
def af66 : AFunc := ⟨113, k66_53, [.cell 4 true 2, .tmp 5], fun _ _ => none⟩

theorem ok66 : ∃ hs, pFunc Tryz.prog sg hs Tryz.f66 = some af66 := ⟨fun i => if i == 11 then 4 else if i == 13 then 4 else 0, by kernel_rfl⟩
def q67_0 : List AOper :=
  [⟨.fieldAddr 0 (.p 1), (some 3), none⟩,
 ⟨.load .look false 1 (.p 3), (some 4), none⟩,
 ⟨.convInt .i64 (.p 4), (some 5), none⟩,
 ⟨.fieldAddr 1 (.p 1), (some 6), none⟩,
 ⟨.load .look false 1 (.p 6), (some 7), none⟩,
 ⟨.call 23 [(.t 7, false)], (some 8), none⟩,
 ⟨.build [.int .i64 0, .slice .nil 0 1 []] [(0, 1, .p 5), (1, 1, .t 8)], (some 9), none⟩,
 ⟨.store 2 (.p 2) (.p 9), none, none⟩]
@[simp] def eq67_0 := id q67_0.eq_1
def q67_1 : List AOper :=
  [⟨.box 1 (.p 0), (some 1), none⟩,
 ⟨.newbox 2 [.int .i64 0, .slice .nil 0 1 []], (some 2), none⟩]
@[simp] def eq67_1 := id q67_1.eq_1
def k67_0 : ACode :=
  .ops q67_0 .ret
@[simp] def xk67_0 := @xOps _ _ _ k67_0.eq_1
def k67_1 : ACode :=
  .ops q67_1 k67_0
@[simp] def xk67_1 := @xOps _ _ _ k67_1.eq_1
def af67 : AFunc := ⟨10, k67_1, [.cell 2 true 2], fun _ _ => none⟩

theorem ok67 : ∃ hs, pFunc Tryz.prog sg hs Tryz.f67 = some af67 := ⟨fun i => 0, by kernel_rfl⟩
def q118_0 : List AOper :=
  [⟨.move .look (.p 0), (some 18), none⟩,
 ⟨.move .look (.p 1), (some 19), none⟩,
 ⟨.move .look (.p 5), (some 20), none⟩,
 ⟨.call 157 [(.p 18, false), (.p 19, false), (.p 20, false)], (some 21), none⟩,
 ⟨.assign (.p 21), (some 4), none⟩]
@[simp] def eq118_0 := id q118_0.eq_1
def q118_1 : List AOper :=
  [⟨.move .look (.p 1), (some 15), none⟩,
 ⟨.call 156 [(.p 15, false)], (some 16), none⟩,
 ⟨.dead, (some 17), none⟩,
 ⟨.assign (.p 17), (some 5), none⟩]
@[simp] def eq118_1 := id q118_1.eq_1
def q118_2 : List AOper :=
  [⟨.move .head (.p 0), (some 12), none⟩,
 ⟨.move .head (.p 1), (some 13), none⟩,
 ⟨.bin .eql 5 false (.p 12) (.p 13), (some 14), none⟩,
 ⟨.assign (.p 14), (some 4), none⟩]
@[simp] def eq118_2 := id q118_2.eq_1
def q118_3 : List AOper :=
  [⟨.move .head (.p 0), (some 6), none⟩,
 ⟨.bin .eql 5 true (.p 6) (.c (.nilI)), (some 7), none⟩,
 ⟨.move .look (.p 7), (some 8), none⟩,
 ⟨.move .head (.p 1), (some 9), (some (8, false))⟩,
 ⟨.bin .eql 5 true (.p 9) (.c (.nilI)), (some 10), (some (8, false))⟩,
 ⟨.pick (.p 8) (.c (.bool true)) (.p 10), (some 11), none⟩]
@[simp] def eq118_3 := id q118_3.eq_1
def k118_0 : ACode :=
  .ops q118_0 .ret
def k118_1 : ACode :=
  .ops q118_1 k118_0
def k118_2 : ACode :=
  .ops q118_2 .ret
def k118_3 : ACode :=
  .cond (.p 11) k118_2 .skip
def k118_4 : ACode :=
  .seq k118_3 k118_1
def k118_5 : ACode :=
  .ops q118_3 k118_4
def k118_6 : ACode :=
  .ops [⟨.assign (.c (.bool false)), (some 4), none⟩] k118_5
def af118 : AFunc := ⟨22, k118_6, [.tmp 4], isX⟩

theorem ok118 : ∃ hs, pFunc Tryz.prog sg hs Tryz.f118 = some ⟨af118.n, af118.code, af118.res, fun _ _ => none⟩ := ⟨fun i => if i == 17 then 3 else 0, by kernel_rfl⟩
def q68_0 : List AOper :=
  [⟨.move .look (.p 0), (some 39), none⟩,
 ⟨.load .look false 1 (.c (.gl 4)), (some 40), none⟩,
 ⟨.call 118 [(.p 39, false), (.p 40, false)], (some 41), none⟩,
 ⟨.assign (.p 41), (some 38), none⟩]
@[simp] def eq68_0 := id q68_0.eq_1
def q68_1 : List AOper :=
  [⟨.move .look (.p 0), (some 35), none⟩,
 ⟨.load .look false 1 (.c (.gl 1)), (some 36), none⟩,
 ⟨.call 118 [(.p 35, false), (.p 36, false)], (some 37), none⟩,
 ⟨.assign (.p 37), (some 34), none⟩]
@[simp] def eq68_1 := id q68_1.eq_1
def q68_2 : List AOper :=
  [⟨.move .look (.p 0), (some 31), none⟩,
 ⟨.load .look false 1 (.c (.gl 2)), (some 32), none⟩,
 ⟨.call 118 [(.p 31, false), (.p 32, false)], (some 33), none⟩,
 ⟨.assign (.p 33), (some 27), none⟩]
@[simp] def eq68_2 := id q68_2.eq_1
def q68_3 : List AOper :=
  [⟨.move .look (.p 0), (some 28), none⟩,
 ⟨.load .look false 1 (.c (.gl 3)), (some 29), none⟩,
 ⟨.call 118 [(.p 28, false), (.p 29, false)], (some 30), none⟩,
 ⟨.assign (.p 30), (some 27), none⟩]
@[simp] def eq68_3 := id q68_3.eq_1
def q68_4 : List AOper :=
  [⟨.newbox 3 [.slice .nil 0 1 [], .slice .nil 0 1 []], (some 3), none⟩,
 ⟨.store 2 (.p 3) (.p 12), none, none⟩]
@[simp] def eq68_4 := id q68_4.eq_1
def q68_5 : List AOper :=
  [⟨.bin .eql 2 true (.p 16) (.c (.str [100, 111, 99, 117, 109, 101, 110, 116, 32, 111, 114, 32, 97, 114, 114, 97, 121, 32, 101, 110, 100, 32, 105, 115, 32, 109, 105, 115, 115, 105, 110, 103, 32, 110, 117, 108, 108, 32, 98, 121, 116, 101])), (some 20), none⟩,
 ⟨.assign (.p 20), (some 19), none⟩]
@[simp] def eq68_5 := id q68_5.eq_1
def q68_6 : List AOper :=
  [⟨.bin .eql 2 true (.p 16) (.c (.str [100, 111, 99, 117, 109, 101, 110, 116, 32, 111, 114, 32, 97, 114, 114, 97, 121, 32, 108, 101, 110, 103, 116, 104, 32, 105, 115, 32, 105, 110, 118, 97, 108, 105, 100])), (some 18), none⟩,
 ⟨.assign (.p 18), (some 17), none⟩]
@[simp] def eq68_6 := id q68_6.eq_1
def q68_7 : List AOper :=
  [⟨.newbox 6 [.str [], .int .u8 0], (some 6), none⟩,
 ⟨.store 2 (.p 6) (.p 26), none, none⟩]
@[simp] def eq68_7 := id q68_7.eq_1
def q68_8 : List AOper :=
  [⟨.px (.tassert 182 (.agg [.str [], .int .u8 0]) true) [.p 9], (some 24), none⟩,
 ⟨.extract 24 1, (some 25), none⟩,
 ⟨.extract 24 0, (some 26), none⟩]
@[simp] def eq68_8 := id q68_8.eq_1
def q68_9 : List AOper :=
  [⟨.px (.tassert 185 (.str []) true) [.p 9], (some 21), none⟩,
 ⟨.extract 21 1, (some 22), none⟩,
 ⟨.extract 21 0, (some 23), none⟩]
@[simp] def eq68_9 := id q68_9.eq_1
def q68_10 : List AOper :=
  [⟨.px (.tassert 184 (.str []) true) [.p 9], (some 13), none⟩,
 ⟨.extract 13 1, (some 14), none⟩,
 ⟨.extract 13 0, (some 15), none⟩]
@[simp] def eq68_10 := id q68_10.eq_1
def q68_11 : List AOper :=
  [⟨.px (.tassert 172 (.agg [.slice .nil 0 1 [], .slice .nil 0 1 []]) true) [.p 9], (some 10), none⟩,
 ⟨.extract 10 1, (some 11), none⟩,
 ⟨.extract 10 0, (some 12), none⟩]
@[simp] def eq68_11 := id q68_11.eq_1
def q68_12 : List AOper :=
  [⟨.move .head (.p 0), (some 7), none⟩,
 ⟨.bin .eql 5 true (.p 7) (.c (.nilI)), (some 8), none⟩]
@[simp] def eq68_12 := id q68_12.eq_1
def k68_0 : ACode :=
  .ops [⟨.assign (.c (.int .i64 9)), (some 2), none⟩] .ret
def k68_1 : ACode :=
  .ops [⟨.assign (.c (.int .i64 7)), (some 2), none⟩] .ret
def k68_2 : ACode :=
  .ops [⟨.assign (.c (.int .i64 8)), (some 2), none⟩] .ret
def k68_3 : ACode :=
  .ops [⟨.assign (.c (.int .i64 11)), (some 2), none⟩] .ret
def k68_4 : ACode :=
  .cond (.p 38) k68_3 .skip
def k68_5 : ACode :=
  .ops q68_0 k68_4
def k68_6 : ACode :=
  .cond (.p 34) k68_2 k68_5
def k68_7 : ACode :=
  .ops q68_1 k68_6
def k68_8 : ACode :=
  .cond (.p 27) k68_1 k68_7
def k68_9 : ACode :=
  .ops q68_2 .skip
def k68_10 : ACode :=
  .cond (.p 27) .skip k68_9
def k68_11 : ACode :=
  .seq k68_10 k68_8
def k68_12 : ACode :=
  .ops q68_3 k68_11
def k68_13 : ACode :=
  .block 2 k68_12
def k68_14 : ACode :=
  .seq k68_13 k68_0
def k68_15 : ACode :=
  .ops [⟨.assign (.c (.int .i64 1)), (some 2), none⟩] .ret
@[simp] def xk68_15 := @xOps _ _ _ k68_15.eq_1
def k68_16 : ACode :=
  .ops q68_4 k68_15
@[simp] def xk68_16 := @xOps _ _ _ k68_16.eq_1
def k68_17 : ACode :=
  .ops [⟨.assign (.c (.int .i64 4)), (some 2), none⟩] .ret
@[simp] def xk68_17 := @xOps _ _ _ k68_17.eq_1
def k68_18 : ACode :=
  .ops [⟨.assign (.c (.int .i64 2)), (some 2), none⟩] .ret
@[simp] def xk68_18 := @xOps _ _ _ k68_18.eq_1
def k68_19 : ACode :=
  .ops [⟨.assign (.c (.int .i64 3)), (some 2), none⟩] .ret
@[simp] def xk68_19 := @xOps _ _ _ k68_19.eq_1
def k68_20 : ACode :=
  .cond (.p 19) k68_19 .skip
@[simp] def xk68_20 := @xCond _ _ _ _ k68_20.eq_1
def k68_21 : ACode :=
  .ops q68_5 k68_20
@[simp] def xk68_21 := @xOps _ _ _ k68_21.eq_1
def k68_22 : ACode :=
  .cond (.p 17) k68_18 k68_21
@[simp] def xk68_22 := @xCond _ _ _ _ k68_22.eq_1
def k68_23 : ACode :=
  .ops q68_6 k68_22
@[simp] def xk68_23 := @xOps _ _ _ k68_23.eq_1
def k68_24 : ACode :=
  .block 1 k68_23
@[simp] def xk68_24 := @xBlock _ _ _ k68_24.eq_1
def k68_25 : ACode :=
  .seq k68_24 k68_17
@[simp] def xk68_25 := @xSeq _ _ _ k68_25.eq_1
def k68_26 : ACode :=
  .ops [⟨.move .head (.p 4), (some 16), none⟩] k68_25
@[simp] def xk68_26 := @xOps _ _ _ k68_26.eq_1
def k68_27 : ACode :=
  .ops [⟨.assign (.p 15), (some 4), none⟩] k68_26
@[simp] def xk68_27 := @xOps _ _ _ k68_27.eq_1
def k68_28 : ACode :=
  .ops [⟨.assign (.c (.int .i64 5)), (some 2), none⟩] .ret
def k68_29 : ACode :=
  .ops [⟨.assign (.p 23), (some 5), none⟩] k68_28
def k68_30 : ACode :=
  .ops [⟨.assign (.c (.int .i64 10)), (some 2), none⟩] .ret
def k68_31 : ACode :=
  .ops q68_7 k68_30
def k68_32 : ACode :=
  .cond (.p 25) k68_31 .skip
def k68_33 : ACode :=
  .ops q68_8 k68_32
def k68_34 : ACode :=
  .cond (.p 22) k68_29 k68_33
def k68_35 : ACode :=
  .ops q68_9 k68_34
def k68_36 : ACode :=
  .cond (.p 14) k68_27 k68_35
@[simp] def xk68_36 := @xCond _ _ _ _ k68_36.eq_1
def k68_37 : ACode :=
  .ops q68_10 k68_36
@[simp] def xk68_37 := @xOps _ _ _ k68_37.eq_1
def k68_38 : ACode :=
  .cond (.p 11) k68_16 k68_37
@[simp] def xk68_38 := @xCond _ _ _ _ k68_38.eq_1
def k68_39 : ACode :=
  .ops q68_11 k68_38
@[simp] def xk68_39 := @xOps _ _ _ k68_39.eq_1
def k68_40 : ACode :=
  .block 0 k68_39
@[simp] def xk68_40 := @xBlock _ _ _ k68_40.eq_1
def k68_41 : ACode :=
  .seq k68_40 k68_14
@[simp] def xk68_41 := @xSeq _ _ _ k68_41.eq_1
def k68_42 : ACode :=
  .ops [⟨.move .head (.p 0), (some 9), none⟩] k68_41
@[simp] def xk68_42 := @xOps _ _ _ k68_42.eq_1
def k68_43 : ACode :=
  .ops [⟨.assign (.c (.int .i64 0)), (some 2), none⟩] .ret
@[simp] def xk68_43 := @xOps _ _ _ k68_43.eq_1
def k68_44 : ACode :=
  .cond (.p 8) k68_43 .skip
@[simp] def xk68_44 := @xCond _ _ _ _ k68_44.eq_1
def k68_45 : ACode :=
  .seq k68_44 k68_42
@[simp] def xk68_45 := @xSeq _ _ _ k68_45.eq_1
def k68_46 : ACode :=
  .ops q68_12 k68_45
@[simp] def xk68_46 := @xOps _ _ _ k68_46.eq_1
def k68_47 : ACode :=
  .ops [⟨.assign (.c (.int .i64 0)), (some 2), none⟩] k68_46
@[simp] def xk68_47 := @xOps _ _ _ k68_47.eq_1
def af68 : AFunc := ⟨42, k68_47, [.tmp 2], fun _ _ => none⟩

theorem ok68 : ∃ hs, pFunc Tryz.prog sg hs Tryz.f68 = some af68 := ⟨fun i => 0, by kernel_rfl⟩
def q41_0 : List AOper :=
  [⟨.load .look true 2 (.p 6), (some 14), none⟩,
 ⟨.call 67 [(.p 14, false)], (some 15), none⟩,
 ⟨.move .look (.p 7), (some 16), none⟩,
 ⟨.call 68 [(.p 16, false)], (some 17), none⟩,
 ⟨.store 2 (.p 4) (.p 15), none, none⟩,
 ⟨.assign (.p 17), (some 5), none⟩]
@[simp] def eq41_0 := id q41_0.eq_1
def q41_1 : List AOper :=
  [⟨.move .look (.t 0), (some 9), none⟩,
 ⟨.move .look (.t 1), (some 10), none⟩,
 ⟨.call 66 [(.t 9, false), (.t 10, false)], (some 11), none⟩,
 ⟨.move .look (.t 11), (some 8), none⟩,
 ⟨.extract 8 0, (some 12), none⟩,
 ⟨.extract 8 1, (some 13), none⟩,
 ⟨.newbox 6 [.int .u8 0, .slice .nil 0 1 []], (some 6), none⟩,
 ⟨.store 2 (.p 6) (.p 12), none, none⟩,
 ⟨.assign (.p 13), (some 7), none⟩]
@[simp] def eq41_1 := id q41_1.eq_1
def q41_2 : List AOper :=
  [⟨.newbox 4 [.int .i64 0, .slice .nil 0 1 []], (some 4), none⟩,
 ⟨.assign (.c (.int .i64 0)), (some 5), none⟩]
@[simp] def eq41_2 := id q41_2.eq_1
def k41_0 : ACode :=
  .ops q41_0 .ret
@[simp] def xk41_0 := @xOps _ _ _ k41_0.eq_1
def k41_1 : ACode :=
  .ops q41_1 k41_0
@[simp] def xk41_1 := @xOps _ _ _ k41_1.eq_1
def k41_2 : ACode :=
  .ops q41_2 k41_1
@[simp] def xk41_2 := @xOps _ _ _ k41_2.eq_1
def af41 : AFunc := ⟨18, k41_2, [.cell 4 true 2, .tmp 5], fun _ _ => none⟩

theorem ok41 : ∃ hs, pFunc Tryz.prog sg hs Tryz.f41 = some af41 := ⟨fun i => 0, by kernel_rfl⟩
def q158_0 : List AOper :=
  [⟨.move .look (.p 0), (some 7), none⟩,
 ⟨.bin .add 2 true (.p 7) (.c (.str [32, 108, 101, 110, 103, 116, 104, 32, 101, 120, 99, 101, 101, 100, 115, 32, 97, 118, 97, 105, 108, 97, 98, 108, 101, 32, 98, 121, 116, 101, 115])), (some 8), none⟩,
 ⟨.mkIface 184 (.p 8), (some 9), none⟩,
 ⟨.assign (.p 9), (some 6), none⟩]
@[simp] def eq158_0 := id q158_0.eq_1
def k158_0 : ACode :=
  .ops q158_0 .ret
@[simp] def xk158_0 := @xOps _ _ _ k158_0.eq_1
def k158_1 : ACode :=
  .ops [⟨.assign (.c (.nilI)), (some 6), none⟩] k158_0
@[simp] def xk158_1 := @xOps _ _ _ k158_1.eq_1
def af158 : AFunc := ⟨10, k158_1, [.tmp 6], fun _ _ => none⟩

theorem ok158 : ∃ hs, pFunc Tryz.prog sg hs Tryz.f158 = some af158 := ⟨fun i => 0, by kernel_rfl⟩
def q119_0 : List AOper :=
  [⟨.move .look (.p 0), (some 5), none⟩,
 ⟨.move .look (.p 1), (some 6), none⟩,
 ⟨.call 158 [(.c (.str [100, 111, 99, 117, 109, 101, 110, 116]), false), (.p 5, false), (.p 6, false)], (some 7), none⟩,
 ⟨.assign (.p 7), (some 4), none⟩]
@[simp] def eq119_0 := id q119_0.eq_1
def k119_0 : ACode :=
  .ops q119_0 .ret
@[simp] def xk119_0 := @xOps _ _ _ k119_0.eq_1
def k119_1 : ACode :=
  .ops [⟨.assign (.c (.nilI)), (some 4), none⟩] k119_0
@[simp] def xk119_1 := @xOps _ _ _ k119_1.eq_1
def af119 : AFunc := ⟨8, k119_1, [.tmp 4], fun _ _ => none⟩

theorem ok119 : ∃ hs, pFunc Tryz.prog sg hs Tryz.f119 = some af119 := ⟨fun i => 0, by kernel_rfl⟩
def q159_0 : List AOper :=
  [⟨.fieldAddr 1 (.p 1), (some 17), none⟩,
 ⟨.load .look false 1 (.p 17), (some 18), none⟩,
 ⟨.fieldAddr 1 (.p 1), (some 19), none⟩,
 ⟨.load .look false 1 (.p 19), (some 20), none⟩,
 ⟨.call 110 [(.t 18, false), (.t 20, false)], (some 21), none⟩,
 ⟨.mkIface 172 (.p 21), (some 22), none⟩,
 ⟨.assign (.p 22), (some 2), none⟩]
@[simp] def eq159_0 := id q159_0.eq_1
def q159_1 : List AOper :=
  [⟨.move .look (.p 5), (some 15), none⟩,
 ⟨.un .not (.p 15), (some 16), none⟩]
@[simp] def eq159_1 := id q159_1.eq_1
def q159_2 : List AOper :=
  [⟨.fieldAddr 1 (.p 1), (some 7), none⟩,
 ⟨.load .look false 1 (.p 7), (some 8), none⟩,
 ⟨.fieldAddr 0 (.p 1), (some 9), none⟩,
 ⟨.load .look false 1 (.p 9), (some 10), none⟩,
 ⟨.call 109 [(.t 8, false), (.p 10, false)], (some 11), none⟩,
 ⟨.move .look (.t 11), (some 6), none⟩,
 ⟨.extract 6 0, (some 12), none⟩,
 ⟨.extract 6 1, (some 13), none⟩,
 ⟨.extract 6 2, (some 14), none⟩,
 ⟨.assign (.t 12), (some 3), none⟩,
 ⟨.assign (.t 13), (some 4), none⟩,
 ⟨.assign (.p 14), (some 5), none⟩]
@[simp] def eq159_2 := id q159_2.eq_1
def q159_3 : List AOper :=
  [⟨.box 1 (.p 0), (some 1), none⟩,
 ⟨.assign (.c (.nilI)), (some 2), none⟩]
@[simp] def eq159_3 := id q159_3.eq_1
def k159_0 : ACode :=
  .ops [⟨.assign (.c (.nilI)), (some 2), none⟩] .ret
@[simp] def xk159_0 := @xOps _ _ _ k159_0.eq_1
def k159_1 : ACode :=
  .ops q159_0 .ret
@[simp] def xk159_1 := @xOps _ _ _ k159_1.eq_1
def k159_2 : ACode :=
  .cond (.p 16) k159_1 .skip
@[simp] def xk159_2 := @xCond _ _ _ _ k159_2.eq_1
def k159_3 : ACode :=
  .seq k159_2 k159_0
@[simp] def xk159_3 := @xSeq _ _ _ k159_3.eq_1
def k159_4 : ACode :=
  .ops q159_1 k159_3
@[simp] def xk159_4 := @xOps _ _ _ k159_4.eq_1
def k159_5 : ACode :=
  .ops q159_2 k159_4
@[simp] def xk159_5 := @xOps _ _ _ k159_5.eq_1
def k159_6 : ACode :=
  .ops q159_3 k159_5
@[simp] def xk159_6 := @xOps _ _ _ k159_6.eq_1
def af159 : AFunc := ⟨23, k159_6, [.tmp 2], fun _ _ => none⟩

theorem ok159 : ∃ hs, pFunc Tryz.prog sg hs Tryz.f159 = some af159 := ⟨fun i => 0, by kernel_rfl⟩
def q120_0 : List AOper :=
  [⟨.move .look (.t 0), (some 14), none⟩,
 ⟨.indexAddr 1 (.t 14) (.c (.int .i64 0)), (some 15), none⟩,
 ⟨.load .look false 1 (.p 15), (some 16), none⟩,
 ⟨.move .look (.t 0), (some 17), none⟩,
 ⟨.move .look (.p 3), (some 18), none⟩,
 ⟨.bin .add 1 true (.p 18) (.c (.int .i64 2)), (some 19), none⟩,
 ⟨.sliceSl 1 (.t 17) (some (.p 19)) none, (some 20), none⟩,
 ⟨.build [.int .u8 0, .slice .nil 0 1 []] [(0, 1, .p 16), (1, 1, .t 20)], (some 21), none⟩,
 ⟨.call 159 [(.p 21, false)], (some 22), none⟩,
 ⟨.assign (.p 22), (some 2), none⟩]
@[simp] def eq120_0 := id q120_0.eq_1
def q120_1 : List AOper :=
  [⟨.mkIface 185 (.c (.str [101, 108, 101, 109, 101, 110, 116, 32, 105, 115, 32, 109, 105, 115, 115, 105, 110, 103, 32, 107, 101, 121])), (some 13), none⟩,
 ⟨.assign (.p 13), (some 2), none⟩]
@[simp] def eq120_1 := id q120_1.eq_1
def q120_2 : List AOper :=
  [⟨.move .head (.p 3), (some 11), none⟩,
 ⟨.bin .eql 1 true (.p 11) (.c (.int .i64 (-1))), (some 12), none⟩]
@[simp] def eq120_2 := id q120_2.eq_1
def q120_3 : List AOper :=
  [⟨.move .look (.t 0), (some 8), none⟩,
 ⟨.sliceSl 1 (.t 8) (some (.c (.int .i64 1))) none, (some 9), none⟩,
 ⟨.call 155 [(.t 9, false), (.c (.int .u8 0), false)], (some 10), none⟩,
 ⟨.assign (.p 10), (some 3), none⟩]
@[simp] def eq120_3 := id q120_3.eq_1
def q120_4 : List AOper :=
  [⟨.mkIface 185 (.c (.str [101, 108, 101, 109, 101, 110, 116, 32, 105, 115, 32, 109, 105, 115, 115, 105, 110, 103, 32, 116, 121, 112, 101])), (some 7), none⟩,
 ⟨.assign (.p 7), (some 2), none⟩]
@[simp] def eq120_4 := id q120_4.eq_1
def q120_5 : List AOper :=
  [⟨.move .head (.t 0), (some 4), none⟩,
 ⟨.len false (.p 4), (some 5), none⟩,
 ⟨.bin .lss 1 true (.p 5) (.c (.int .i64 1)), (some 6), none⟩]
@[simp] def eq120_5 := id q120_5.eq_1
def k120_0 : ACode :=
  .ops q120_0 .ret
@[simp] def xk120_0 := @xOps _ _ _ k120_0.eq_1
def k120_1 : ACode :=
  .ops q120_1 .ret
@[simp] def xk120_1 := @xOps _ _ _ k120_1.eq_1
def k120_2 : ACode :=
  .cond (.p 12) k120_1 .skip
@[simp] def xk120_2 := @xCond _ _ _ _ k120_2.eq_1
def k120_3 : ACode :=
  .seq k120_2 k120_0
@[simp] def xk120_3 := @xSeq _ _ _ k120_3.eq_1
def k120_4 : ACode :=
  .ops q120_2 k120_3
@[simp] def xk120_4 := @xOps _ _ _ k120_4.eq_1
def k120_5 : ACode :=
  .ops q120_3 k120_4
@[simp] def xk120_5 := @xOps _ _ _ k120_5.eq_1
def k120_6 : ACode :=
  .ops q120_4 .ret
@[simp] def xk120_6 := @xOps _ _ _ k120_6.eq_1
def k120_7 : ACode :=
  .cond (.p 6) k120_6 .skip
@[simp] def xk120_7 := @xCond _ _ _ _ k120_7.eq_1
def k120_8 : ACode :=
  .seq k120_7 k120_5
@[simp] def xk120_8 := @xSeq _ _ _ k120_8.eq_1
def k120_9 : ACode :=
  .ops q120_5 k120_8
@[simp] def xk120_9 := @xOps _ _ _ k120_9.eq_1
def k120_10 : ACode :=
  .ops [⟨.assign (.c (.nilI)), (some 2), none⟩] k120_9
@[simp] def xk120_10 := @xOps _ _ _ k120_10.eq_1
def af120 : AFunc := ⟨23, k120_10, [.tmp 2], fun _ _ => none⟩

theorem ok120 : ∃ hs, pFunc Tryz.prog sg hs Tryz.f120 = some af120 := ⟨fun i => 0, by kernel_rfl⟩
def q69_0 : List AOper :=
  [⟨.mkIface 184 (.c (.str [100, 111, 99, 117, 109, 101, 110, 116, 32, 111, 114, 32, 97, 114, 114, 97, 121, 32, 101, 110, 100, 32, 105, 115, 32, 109, 105, 115, 115, 105, 110, 103, 32, 110, 117, 108, 108, 32, 98, 121, 116, 101])), (some 75), none⟩,
 ⟨.assign (.p 75), (some 2), none⟩]
@[simp] def eq69_0 := id q69_0.eq_1
def q69_1 : List AOper :=
  [⟨.move .head (.t 4), (some 66), none⟩,
 ⟨.len false (.p 66), (some 67), none⟩,
 ⟨.bin .lss 1 true (.p 67) (.c (.int .i64 1)), (some 68), none⟩,
 ⟨.move .look (.p 68), (some 69), none⟩,
 ⟨.move .look (.t 4), (some 70), (some (69, false))⟩,
 ⟨.indexAddr 1 (.t 70) (.c (.int .i64 0)), (some 71), (some (69, false))⟩,
 ⟨.load .head false 1 (.p 71), (some 72), (some (69, false))⟩,
 ⟨.bin .neq 1 true (.p 72) (.c (.int .u8 0)), (some 73), (some (69, false))⟩,
 ⟨.pick (.p 69) (.c (.bool true)) (.p 73), (some 74), none⟩]
@[simp] def eq69_1 := id q69_1.eq_1
def q69_2 : List AOper :=
  [⟨.move .take (.p 7), (some 65), none⟩,
 ⟨.assign (.p 65), (some 2), none⟩]
@[simp] def eq69_2 := id q69_2.eq_1
def q69_3 : List AOper :=
  [⟨.move .head (.p 7), (some 63), none⟩,
 ⟨.bin .neq 5 true (.p 63) (.c (.nilI)), (some 64), none⟩]
@[simp] def eq69_3 := id q69_3.eq_1
def q69_4 : List AOper :=
  [⟨.move .look (.t 6), (some 61), none⟩,
 ⟨.call 120 [(.t 61, false)], (some 62), none⟩,
 ⟨.assign (.p 62), (some 7), none⟩]
@[simp] def eq69_4 := id q69_4.eq_1
def q69_5 : List AOper :=
  [⟨.move .look (.t 0), (some 57), none⟩,
 ⟨.move .look (.t 4), (some 58), none⟩,
 ⟨.call 110 [(.t 57, false), (.t 58, false)], (some 59), none⟩,
 ⟨.mkIface 172 (.p 59), (some 60), none⟩,
 ⟨.assign (.p 60), (some 2), none⟩]
@[simp] def eq69_5 := id q69_5.eq_1
def q69_6 : List AOper :=
  [⟨.move .look (.p 5), (some 55), none⟩,
 ⟨.un .not (.p 55), (some 56), none⟩]
@[simp] def eq69_6 := id q69_6.eq_1
def q69_7 : List AOper :=
  [⟨.move .look (.p 3), (some 50), none⟩,
 ⟨.move .head (.t 6), (some 51), none⟩,
 ⟨.len false (.p 51), (some 52), none⟩,
 ⟨.convInt .i32 (.p 52), (some 53), none⟩,
 ⟨.bin .sub 1 false (.p 50) (.p 53), (some 54), none⟩,
 ⟨.assign (.p 54), (some 3), none⟩]
@[simp] def eq69_7 := id q69_7.eq_1
def q69_8 : List AOper :=
  [⟨.move .look (.t 4), (some 45), none⟩,
 ⟨.call 111 [(.t 45, false)], (some 46), none⟩,
 ⟨.move .look (.t 46), (some 44), none⟩,
 ⟨.extract 44 0, (some 47), none⟩,
 ⟨.extract 44 1, (some 48), none⟩,
 ⟨.extract 44 2, (some 49), none⟩,
 ⟨.assign (.t 47), (some 6), none⟩,
 ⟨.assign (.t 48), (some 4), none⟩,
 ⟨.assign (.p 49), (some 5), none⟩]
@[simp] def eq69_8 := id q69_8.eq_1
def q69_9 : List AOper :=
  [⟨.move .look (.p 3), (some 42), none⟩,
 ⟨.bin .gtr 1 true (.p 42) (.c (.int .i32 1)), (some 43), none⟩]
@[simp] def eq69_9 := id q69_9.eq_1
def q69_10 : List AOper :=
  [⟨.move .look (.p 3), (some 40), none⟩,
 ⟨.bin .sub 1 true (.p 40) (.c (.int .i32 4)), (some 41), none⟩,
 ⟨.assign (.p 41), (some 3), none⟩]
@[simp] def eq69_10 := id q69_10.eq_1
def q69_11 : List AOper :=
  [⟨.mkIface 184 (.c (.str [100, 111, 99, 117, 109, 101, 110, 116, 32, 111, 114, 32, 97, 114, 114, 97, 121, 32, 101, 110, 100, 32, 105, 115, 32, 109, 105, 115, 115, 105, 110, 103, 32, 110, 117, 108, 108, 32, 98, 121, 116, 101])), (some 39), none⟩,
 ⟨.assign (.p 39), (some 2), none⟩]
@[simp] def eq69_11 := id q69_11.eq_1
def q69_12 : List AOper :=
  [⟨.move .look (.t 0), (some 33), none⟩,
 ⟨.move .look (.p 3), (some 34), none⟩,
 ⟨.bin .sub 1 true (.p 34) (.c (.int .i32 1)), (some 35), none⟩,
 ⟨.indexAddr 1 (.t 33) (.p 35), (some 36), none⟩,
 ⟨.load .head false 1 (.p 36), (some 37), none⟩,
 ⟨.bin .neq 1 true (.p 37) (.c (.int .u8 0)), (some 38), none⟩]
@[simp] def eq69_12 := id q69_12.eq_1
def q69_13 : List AOper :=
  [⟨.mkIface 184 (.c (.str [100, 111, 99, 117, 109, 101, 110, 116, 32, 111, 114, 32, 97, 114, 114, 97, 121, 32, 108, 101, 110, 103, 116, 104, 32, 105, 115, 32, 105, 110, 118, 97, 108, 105, 100])), (some 32), none⟩,
 ⟨.assign (.p 32), (some 2), none⟩]
@[simp] def eq69_13 := id q69_13.eq_1
def q69_14 : List AOper :=
  [⟨.move .look (.p 3), (some 30), none⟩,
 ⟨.bin .lss 1 true (.p 30) (.c (.int .i32 5)), (some 31), none⟩]
@[simp] def eq69_14 := id q69_14.eq_1
def q69_15 : List AOper :=
  [⟨.move .look (.p 3), (some 25), none⟩,
 ⟨.convInt .i64 (.p 25), (some 26), none⟩,
 ⟨.move .head (.t 0), (some 27), none⟩,
 ⟨.len false (.p 27), (some 28), none⟩,
 ⟨.call 119 [(.p 26, false), (.p 28, false)], (some 29), none⟩,
 ⟨.assign (.p 29), (some 2), none⟩]
@[simp] def eq69_15 := id q69_15.eq_1
def q69_16 : List AOper :=
  [⟨.move .look (.p 3), (some 20), none⟩,
 ⟨.convInt .i64 (.p 20), (some 21), none⟩,
 ⟨.move .head (.t 0), (some 22), none⟩,
 ⟨.len false (.p 22), (some 23), none⟩,
 ⟨.bin .gtr 1 false (.p 21) (.p 23), (some 24), none⟩]
@[simp] def eq69_16 := id q69_16.eq_1
def q69_17 : List AOper :=
  [⟨.move .look (.t 0), (some 16), none⟩,
 ⟨.move .look (.t 4), (some 17), none⟩,
 ⟨.call 110 [(.t 16, false), (.t 17, false)], (some 18), none⟩,
 ⟨.mkIface 172 (.p 18), (some 19), none⟩,
 ⟨.assign (.p 19), (some 2), none⟩]
@[simp] def eq69_17 := id q69_17.eq_1
def q69_18 : List AOper :=
  [⟨.move .look (.p 5), (some 14), none⟩,
 ⟨.un .not (.p 14), (some 15), none⟩]
@[simp] def eq69_18 := id q69_18.eq_1
def q69_19 : List AOper :=
  [⟨.move .look (.t 0), (some 9), none⟩,
 ⟨.call 77 [(.t 9, false)], (some 10), none⟩,
 ⟨.move .look (.t 10), (some 8), none⟩,
 ⟨.extract 8 0, (some 11), none⟩,
 ⟨.extract 8 1, (some 12), none⟩,
 ⟨.extract 8 2, (some 13), none⟩,
 ⟨.assign (.p 11), (some 3), none⟩,
 ⟨.assign (.t 12), (some 4), none⟩,
 ⟨.assign (.p 13), (some 5), none⟩]
@[simp] def eq69_19 := id q69_19.eq_1
def k69_0 : ACode :=
  .ops [⟨.assign (.c (.nilI)), (some 2), none⟩] .ret
@[simp] def xk69_0 := @xOps _ _ _ k69_0.eq_1
def k69_1 : ACode :=
  .ops q69_0 .ret
@[simp] def xk69_1 := @xOps _ _ _ k69_1.eq_1
def k69_2 : ACode :=
  .cond (.p 74) k69_1 .skip
@[simp] def xk69_2 := @xCond _ _ _ _ k69_2.eq_1
def k69_3 : ACode :=
  .seq k69_2 k69_0
@[simp] def xk69_3 := @xSeq _ _ _ k69_3.eq_1
def k69_4 : ACode :=
  .ops q69_1 k69_3
@[simp] def xk69_4 := @xOps _ _ _ k69_4.eq_1
def k69_5 : ACode :=
  .ops q69_2 .ret
@[simp] def xk69_5 := @xOps _ _ _ k69_5.eq_1
def k69_6 : ACode :=
  .cond (.p 64) k69_5 .skip
@[simp] def xk69_6 := @xCond _ _ _ _ k69_6.eq_1
def k69_7 : ACode :=
  .ops q69_3 k69_6
@[simp] def xk69_7 := @xOps _ _ _ k69_7.eq_1
def k69_8 : ACode :=
  .ops q69_4 k69_7
@[simp] def xk69_8 := @xOps _ _ _ k69_8.eq_1
def k69_9 : ACode :=
  .ops q69_5 .ret
@[simp] def xk69_9 := @xOps _ _ _ k69_9.eq_1
def k69_10 : ACode :=
  .cond (.p 56) k69_9 .skip
@[simp] def xk69_10 := @xCond _ _ _ _ k69_10.eq_1
def k69_11 : ACode :=
  .seq k69_10 k69_8
@[simp] def xk69_11 := @xSeq _ _ _ k69_11.eq_1
def k69_12 : ACode :=
  .ops q69_6 k69_11
@[simp] def xk69_12 := @xOps _ _ _ k69_12.eq_1
def k69_13 : ACode :=
  .ops q69_7 k69_12
@[simp] def xk69_13 := @xOps _ _ _ k69_13.eq_1
def k69_14 : ACode :=
  .ops q69_8 k69_13
@[simp] def xk69_14 := @xOps _ _ _ k69_14.eq_1
def k69_15 : ACode :=
  .block 1 k69_14
@[simp] def xk69_15 := @xBlock _ _ _ k69_15.eq_1
def k69_16 : ACode :=
  .cond (.p 43) .skip (.exit 0)
@[simp] def xk69_16 := @xCond _ _ _ _ k69_16.eq_1
def k69_17 : ACode :=
  .seq k69_16 k69_15
@[simp] def xk69_17 := @xSeq _ _ _ k69_17.eq_1
def k69_18 : ACode :=
  .ops q69_9 k69_17
@[simp] def xk69_18 := @xOps _ _ _ k69_18.eq_1
def lc69_0 : ACode :=
  k69_18
@[simp] def xlc69_0 := @xSame _ _ lc69_0.eq_1
def k69_20 : ACode :=
  .loop lc69_0
@[simp] def xk69_20 := @xLoop _ _ k69_20.eq_1
def k69_21 : ACode :=
  .block 0 k69_20
@[simp] def xk69_21 := @xBlock _ _ _ k69_21.eq_1
def k69_22 : ACode :=
  .seq k69_21 k69_4
@[simp] def xk69_22 := @xSeq _ _ _ k69_22.eq_1
def k69_23 : ACode :=
  .ops [⟨.assign (.c (.slice .nil 0 1 [])), (some 6), none⟩] k69_22
@[simp] def xk69_23 := @xOps _ _ _ k69_23.eq_1
def k69_24 : ACode :=
  .ops q69_10 k69_23
@[simp] def xk69_24 := @xOps _ _ _ k69_24.eq_1
def k69_25 : ACode :=
  .ops q69_11 .ret
@[simp] def xk69_25 := @xOps _ _ _ k69_25.eq_1
def k69_26 : ACode :=
  .cond (.p 38) k69_25 .skip
@[simp] def xk69_26 := @xCond _ _ _ _ k69_26.eq_1
def k69_27 : ACode :=
  .seq k69_26 k69_24
@[simp] def xk69_27 := @xSeq _ _ _ k69_27.eq_1
def k69_28 : ACode :=
  .ops q69_12 k69_27
@[simp] def xk69_28 := @xOps _ _ _ k69_28.eq_1
def k69_29 : ACode :=
  .ops q69_13 .ret
@[simp] def xk69_29 := @xOps _ _ _ k69_29.eq_1
def k69_30 : ACode :=
  .cond (.p 31) k69_29 .skip
@[simp] def xk69_30 := @xCond _ _ _ _ k69_30.eq_1
def k69_31 : ACode :=
  .seq k69_30 k69_28
@[simp] def xk69_31 := @xSeq _ _ _ k69_31.eq_1
def k69_32 : ACode :=
  .ops q69_14 k69_31
@[simp] def xk69_32 := @xOps _ _ _ k69_32.eq_1
def k69_33 : ACode :=
  .ops q69_15 .ret
@[simp] def xk69_33 := @xOps _ _ _ k69_33.eq_1
def k69_34 : ACode :=
  .cond (.p 24) k69_33 .skip
@[simp] def xk69_34 := @xCond _ _ _ _ k69_34.eq_1
def k69_35 : ACode :=
  .seq k69_34 k69_32
@[simp] def xk69_35 := @xSeq _ _ _ k69_35.eq_1
def k69_36 : ACode :=
  .ops q69_16 k69_35
@[simp] def xk69_36 := @xOps _ _ _ k69_36.eq_1
def k69_37 : ACode :=
  .ops q69_17 .ret
@[simp] def xk69_37 := @xOps _ _ _ k69_37.eq_1
def k69_38 : ACode :=
  .cond (.p 15) k69_37 .skip
@[simp] def xk69_38 := @xCond _ _ _ _ k69_38.eq_1
def k69_39 : ACode :=
  .seq k69_38 k69_36
@[simp] def xk69_39 := @xSeq _ _ _ k69_39.eq_1
def k69_40 : ACode :=
  .ops q69_18 k69_39
@[simp] def xk69_40 := @xOps _ _ _ k69_40.eq_1
def k69_41 : ACode :=
  .ops q69_19 k69_40
@[simp] def xk69_41 := @xOps _ _ _ k69_41.eq_1
def k69_42 : ACode :=
  .ops [⟨.assign (.c (.nilI)), (some 2), none⟩] k69_41
@[simp] def xk69_42 := @xOps _ _ _ k69_42.eq_1
def af69 : AFunc := ⟨76, k69_42, [.tmp 2], fun _ _ => none⟩

theorem ok69 : ∃ hs, pFunc Tryz.prog sg hs Tryz.f69 = some af69 := ⟨fun i => 0, by kernel_rfl⟩
def q42_0 : List AOper :=
  [⟨.move .look (.t 0), (some 3), none⟩,
 ⟨.call 69 [(.t 3, false)], (some 4), none⟩,
 ⟨.call 68 [(.p 4, false)], (some 5), none⟩,
 ⟨.assign (.p 5), (some 2), none⟩]
@[simp] def eq42_0 := id q42_0.eq_1
def k42_0 : ACode :=
  .ops q42_0 .ret
@[simp] def xk42_0 := @xOps _ _ _ k42_0.eq_1
def k42_1 : ACode :=
  .ops [⟨.assign (.c (.int .i64 0)), (some 2), none⟩] k42_0
@[simp] def xk42_1 := @xOps _ _ _ k42_1.eq_1
def af42 : AFunc := ⟨6, k42_1, [.tmp 2], fun _ _ => none⟩

theorem ok42 : ∃ hs, pFunc Tryz.prog sg hs Tryz.f42 = some af42 := ⟨fun i => 0, by kernel_rfl⟩
def q12_0 : List AOper :=
  [⟨.move .look (.t 1), (some 23), none⟩,
 ⟨.convBS (.t 23), (some 24), none⟩,
 ⟨.bin .eql 2 true (.p 24) (.c (.str [12, 0, 0, 0, 16, 97, 0, 7, 0, 0, 0, 0])), (some 25), none⟩,
 ⟨.move .look (.p 25), (some 26), none⟩,
 ⟨.move .look (.p 4), (some 27), (some (26, true))⟩,
 ⟨.pick (.p 26) (.p 27) (.c (.bool false)), (some 28), none⟩,
 ⟨.move .look (.p 28), (some 29), none⟩,
 ⟨.fieldAddr 3 (.p 2), (some 30), (some (29, true))⟩,
 ⟨.load .head false 1 (.p 30), (some 31), (some (29, true))⟩,
 ⟨.bin .eql 1 true (.p 31) (.c (.int .i64 7)), (some 32), (some (29, true))⟩,
 ⟨.pick (.p 29) (.p 32) (.c (.bool false)), (some 33), none⟩,
 ⟨.move .look (.p 33), (some 34), none⟩,
 ⟨.move .head (.t 3), (some 35), (some (34, true))⟩,
 ⟨.len false (.p 35), (some 36), (some (34, true))⟩,
 ⟨.bin .eql 1 true (.p 36) (.c (.int .i64 1)), (some 37), (some (34, true))⟩,
 ⟨.pick (.p 34) (.p 37) (.c (.bool false)), (some 38), none⟩,
 ⟨.move .look (.p 38), (some 39), none⟩,
 ⟨.move .head (.p 6), (some 40), (some (39, true))⟩,
 ⟨.bin .eql 1 true (.p 40) (.c (.int .i64 0)), (some 41), (some (39, true))⟩,
 ⟨.pick (.p 39) (.p 41) (.c (.bool false)), (some 42), none⟩,
 ⟨.move .look (.p 42), (some 43), none⟩,
 ⟨.fieldAddr 0 (.p 5), (some 44), (some (43, true))⟩,
 ⟨.load .head false 1 (.p 44), (some 45), (some (43, true))⟩,
 ⟨.bin .eql 1 true (.p 45) (.c (.int .i64 16)), (some 46), (some (43, true))⟩,
 ⟨.pick (.p 43) (.p 46) (.c (.bool false)), (some 47), none⟩,
 ⟨.move .look (.p 47), (some 48), none⟩,
 ⟨.fieldAddr 1 (.p 5), (some 49), (some (48, true))⟩,
 ⟨.load .head false 1 (.p 49), (some 50), (some (48, true))⟩,
 ⟨.len false (.p 50), (some 51), (some (48, true))⟩,
 ⟨.bin .eql 1 true (.p 51) (.c (.int .i64 4)), (some 52), (some (48, true))⟩,
 ⟨.pick (.p 48) (.p 52) (.c (.bool false)), (some 53), none⟩,
 ⟨.move .look (.p 53), (some 54), none⟩,
 ⟨.move .look (.t 1), (some 55), (some (54, true))⟩,
 ⟨.sliceSl 1 (.t 55) none (some (.c (.int .i64 11))), (some 56), (some (54, true))⟩,
 ⟨.call 42 [(.t 56, false)], (some 57), (some (54, true))⟩,
 ⟨.bin .neq 1 true (.p 57) (.c (.int .i64 0)), (some 58), (some (54, true))⟩,
 ⟨.pick (.p 54) (.p 58) (.c (.bool false)), (some 59), none⟩,
 ⟨.assign (.p 59), (some 0), none⟩]
@[simp] def eq12_0 := id q12_0.eq_1
def q12_1 : List AOper :=
  [⟨.move .look (.t 1), (some 18), none⟩,
 ⟨.buildSl 9 1 [.str []] [(0, 1, .c (.str [97]))], (some 19), none⟩,
 ⟨.call 41 [(.t 18, false), (.t 19, false)], (some 20), none⟩,
 ⟨.move .look (.t 20), (some 17), none⟩,
 ⟨.extract 17 0, (some 21), none⟩,
 ⟨.extract 17 1, (some 22), none⟩,
 ⟨.newbox 5 [.int .i64 0, .slice .nil 0 1 []], (some 5), none⟩,
 ⟨.store 2 (.p 5) (.p 21), none, none⟩,
 ⟨.assign (.p 22), (some 6), none⟩]
@[simp] def eq12_1 := id q12_1.eq_1
def q12_2 : List AOper :=
  [⟨.buildSl 5 1 [.int .u8 0, .int .u8 0, .int .u8 0, .int .u8 0, .int .u8 0] [(0, 1, .c (.int .u8 7)), (1, 1, .c (.int .u8 0)), (2, 1, .c (.int .u8 0)), (3, 1, .c (.int .u8 0)), (4, 1, .c (.int .u8 9))], (some 12), none⟩,
 ⟨.call 40 [(.c (.int .i64 16), false), (.t 12, false)], (some 13), none⟩,
 ⟨.move .look (.t 13), (some 11), none⟩,
 ⟨.extract 11 0, (some 14), none⟩,
 ⟨.extract 11 1, (some 15), none⟩,
 ⟨.extract 11 2, (some 16), none⟩,
 ⟨.newbox 2 [.int .i64 0, .str [], .str [], .int .i64 0, .int .u64 0, .int .u64 0, .slice .nil 0 1 [], .slice .nil 0 1 []], (some 2), none⟩,
 ⟨.store 8 (.p 2) (.p 14), none, none⟩,
 ⟨.assign (.t 15), (some 3), none⟩,
 ⟨.assign (.p 16), (some 4), none⟩]
@[simp] def eq12_2 := id q12_2.eq_1
def q12_3 : List AOper :=
  [⟨.build [.int .i64 0, .str [], .str [], .int .i64 0, .int .u64 0, .int .u64 0, .slice .nil 0 1 [], .slice .nil 0 1 []] [(0, 1, .c (.int .i64 16)), (3, 1, .c (.int .i64 7))], (some 7), none⟩,
 ⟨.build [.str [], .int .i64 0, .str [], .str [], .int .i64 0, .int .u64 0, .int .u64 0, .slice .nil 0 1 [], .slice .nil 0 1 []] [(0, 1, .c (.str [97])), (1, 8, .p 7)], (some 8), none⟩,
 ⟨.buildSl 86 9 [.str [], .int .i64 0, .str [], .str [], .int .i64 0, .int .u64 0, .int .u64 0, .slice .nil 0 1 [], .slice .nil 0 1 []] [(0, 9, .p 8)], (some 9), none⟩,
 ⟨.call 39 [(.t 9, false)], (some 10), none⟩,
 ⟨.assign (.t 10), (some 1), none⟩]
@[simp] def eq12_3 := id q12_3.eq_1
def k12_0 : ACode :=
  .ops q12_0 .ret
@[simp] def xk12_0 := @xOps _ _ _ k12_0.eq_1
def k12_1 : ACode :=
  .ops q12_1 k12_0
@[simp] def xk12_1 := @xOps _ _ _ k12_1.eq_1
def k12_2 : ACode :=
  .ops q12_2 k12_1
@[simp] def xk12_2 := @xOps _ _ _ k12_2.eq_1
def k12_3 : ACode :=
  .ops q12_3 k12_2
@[simp] def xk12_3 := @xOps _ _ _ k12_3.eq_1
def k12_4 : ACode :=
  .ops [⟨.assign (.c (.bool false)), (some 0), none⟩] k12_3
@[simp] def xk12_4 := @xOps _ _ _ k12_4.eq_1
def af12 : AFunc := ⟨60, k12_4, [.tmp 0], fun _ _ => none⟩

theorem ok12 : ∃ hs, pFunc Tryz.prog sg hs Tryz.f12 = some af12 := ⟨fun i => 0, by kernel_rfl⟩
def q13_0 : List AOper :=
  [⟨.move .look (.p 5), (some 69), none⟩,
 ⟨.bin .add 1 true (.p 69) (.c (.int .i64 1)), (some 70), none⟩,
 ⟨.assign (.p 70), (some 5), none⟩]
@[simp] def eq13_0 := id q13_0.eq_1
def q13_1 : List AOper :=
  [⟨.fieldAddr 7 (.p 2), (some 71), none⟩,
 ⟨.load .look false 1 (.p 71), (some 72), none⟩,
 ⟨.move .look (.p 5), (some 73), none⟩,
 ⟨.indexAddr 9 (.t 72) (.p 73), (some 74), none⟩,
 ⟨.fieldAddr 0 (.p 74), (some 75), none⟩,
 ⟨.load .head false 1 (.p 75), (some 76), none⟩,
 ⟨.fieldAddr 7 (.p 3), (some 77), none⟩,
 ⟨.load .look false 1 (.p 77), (some 78), none⟩,
 ⟨.move .look (.p 5), (some 79), none⟩,
 ⟨.indexAddr 9 (.t 78) (.p 79), (some 80), none⟩,
 ⟨.fieldAddr 0 (.p 80), (some 81), none⟩,
 ⟨.load .head false 1 (.p 81), (some 82), none⟩,
 ⟨.bin .neq 2 false (.p 76) (.p 82), (some 83), none⟩,
 ⟨.move .look (.p 83), (some 84), none⟩,
 ⟨.fieldAddr 7 (.p 2), (some 85), (some (84, false))⟩,
 ⟨.load .look false 1 (.p 85), (some 86), (some (84, false))⟩,
 ⟨.move .look (.p 5), (some 87), (some (84, false))⟩,
 ⟨.indexAddr 9 (.t 86) (.p 87), (some 88), (some (84, false))⟩,
 ⟨.fieldAddr 1 (.p 88), (some 89), (some (84, false))⟩,
 ⟨.load .look true 8 (.p 89), (some 90), (some (84, false))⟩,
 ⟨.fieldAddr 7 (.p 3), (some 91), (some (84, false))⟩,
 ⟨.load .look false 1 (.p 91), (some 92), (some (84, false))⟩,
 ⟨.move .look (.p 5), (some 93), (some (84, false))⟩,
 ⟨.indexAddr 9 (.t 92) (.p 93), (some 94), (some (84, false))⟩,
 ⟨.fieldAddr 1 (.p 94), (some 95), (some (84, false))⟩,
 ⟨.load .look true 8 (.p 95), (some 96), (some (84, false))⟩,
 ⟨.call 13 [(.p 90, false), (.p 96, false)], (some 97), (some (84, false))⟩,
 ⟨.un .not (.p 97), (some 98), (some (84, false))⟩,
 ⟨.pick (.p 84) (.c (.bool true)) (.p 98), (some 99), none⟩]
@[simp] def eq13_1 := id q13_1.eq_1
def q13_2 : List AOper :=
  [⟨.move .look (.p 5), (some 64), none⟩,
 ⟨.fieldAddr 7 (.p 2), (some 65), none⟩,
 ⟨.load .head false 1 (.p 65), (some 66), none⟩,
 ⟨.len false (.p 66), (some 67), none⟩,
 ⟨.bin .lss 1 false (.p 64) (.p 67), (some 68), none⟩]
@[simp] def eq13_2 := id q13_2.eq_1
def q13_3 : List AOper :=
  [⟨.fieldAddr 0 (.p 2), (some 6), none⟩,
 ⟨.load .head false 1 (.p 6), (some 7), none⟩,
 ⟨.fieldAddr 0 (.p 3), (some 8), none⟩,
 ⟨.load .head false 1 (.p 8), (some 9), none⟩,
 ⟨.bin .neq 1 false (.p 7) (.p 9), (some 10), none⟩,
 ⟨.move .look (.p 10), (some 11), none⟩,
 ⟨.fieldAddr 1 (.p 2), (some 12), (some (11, false))⟩,
 ⟨.load .head false 1 (.p 12), (some 13), (some (11, false))⟩,
 ⟨.fieldAddr 1 (.p 3), (some 14), (some (11, false))⟩,
 ⟨.load .head false 1 (.p 14), (some 15), (some (11, false))⟩,
 ⟨.bin .neq 2 false (.p 13) (.p 15), (some 16), (some (11, false))⟩,
 ⟨.pick (.p 11) (.c (.bool true)) (.p 16), (some 17), none⟩,
 ⟨.move .look (.p 17), (some 18), none⟩,
 ⟨.fieldAddr 2 (.p 2), (some 19), (some (18, false))⟩,
 ⟨.load .head false 1 (.p 19), (some 20), (some (18, false))⟩,
 ⟨.fieldAddr 2 (.p 3), (some 21), (some (18, false))⟩,
 ⟨.load .head false 1 (.p 21), (some 22), (some (18, false))⟩,
 ⟨.bin .neq 2 false (.p 20) (.p 22), (some 23), (some (18, false))⟩,
 ⟨.pick (.p 18) (.c (.bool true)) (.p 23), (some 24), none⟩,
 ⟨.move .look (.p 24), (some 25), none⟩,
 ⟨.fieldAddr 3 (.p 2), (some 26), (some (25, false))⟩,
 ⟨.load .head false 1 (.p 26), (some 27), (some (25, false))⟩,
 ⟨.fieldAddr 3 (.p 3), (some 28), (some (25, false))⟩,
 ⟨.load .head false 1 (.p 28), (some 29), (some (25, false))⟩,
 ⟨.bin .neq 1 false (.p 27) (.p 29), (some 30), (some (25, false))⟩,
 ⟨.pick (.p 25) (.c (.bool true)) (.p 30), (some 31), none⟩,
 ⟨.move .look (.p 31), (some 32), none⟩,
 ⟨.fieldAddr 4 (.p 2), (some 33), (some (32, false))⟩,
 ⟨.load .head false 1 (.p 33), (some 34), (some (32, false))⟩,
 ⟨.fieldAddr 4 (.p 3), (some 35), (some (32, false))⟩,
 ⟨.load .head false 1 (.p 35), (some 36), (some (32, false))⟩,
 ⟨.bin .neq 1 false (.p 34) (.p 36), (some 37), (some (32, false))⟩,
 ⟨.pick (.p 32) (.c (.bool true)) (.p 37), (some 38), none⟩,
 ⟨.move .look (.p 38), (some 39), none⟩,
 ⟨.fieldAddr 5 (.p 2), (some 40), (some (39, false))⟩,
 ⟨.load .head false 1 (.p 40), (some 41), (some (39, false))⟩,
 ⟨.fieldAddr 5 (.p 3), (some 42), (some (39, false))⟩,
 ⟨.load .head false 1 (.p 42), (some 43), (some (39, false))⟩,
 ⟨.bin .neq 1 false (.p 41) (.p 43), (some 44), (some (39, false))⟩,
 ⟨.pick (.p 39) (.c (.bool true)) (.p 44), (some 45), none⟩,
 ⟨.move .look (.p 45), (some 46), none⟩,
 ⟨.fieldAddr 6 (.p 2), (some 47), (some (46, false))⟩,
 ⟨.load .look false 1 (.p 47), (some 48), (some (46, false))⟩,
 ⟨.convBS (.t 48), (some 49), (some (46, false))⟩,
 ⟨.fieldAddr 6 (.p 3), (some 50), (some (46, false))⟩,
 ⟨.load .look false 1 (.p 50), (some 51), (some (46, false))⟩,
 ⟨.convBS (.t 51), (some 52), (some (46, false))⟩,
 ⟨.bin .neq 2 false (.p 49) (.p 52), (some 53), (some (46, false))⟩,
 ⟨.pick (.p 46) (.c (.bool true)) (.p 53), (some 54), none⟩,
 ⟨.move .look (.p 54), (some 55), none⟩,
 ⟨.fieldAddr 7 (.p 2), (some 56), (some (55, false))⟩,
 ⟨.load .head false 1 (.p 56), (some 57), (some (55, false))⟩,
 ⟨.len false (.p 57), (some 58), (some (55, false))⟩,
 ⟨.fieldAddr 7 (.p 3), (some 59), (some (55, false))⟩,
 ⟨.load .head false 1 (.p 59), (some 60), (some (55, false))⟩,
 ⟨.len false (.p 60), (some 61), (some (55, false))⟩,
 ⟨.bin .neq 1 false (.p 58) (.p 61), (some 62), (some (55, false))⟩,
 ⟨.pick (.p 55) (.c (.bool true)) (.p 62), (some 63), none⟩]
@[simp] def eq13_3 := id q13_3.eq_1
def q13_4 : List AOper :=
  [⟨.box 2 (.p 0), (some 2), none⟩,
 ⟨.box 3 (.p 1), (some 3), none⟩,
 ⟨.assign (.c (.bool false)), (some 4), none⟩]
@[simp] def eq13_4 := id q13_4.eq_1
def k13_0 : ACode :=
  .ops [⟨.assign (.c (.bool true)), (some 4), none⟩] .ret
@[simp] def xk13_0 := @xOps _ _ _ k13_0.eq_1
def k13_1 : ACode :=
  .ops q13_0 .skip
def k13_2 : ACode :=
  .ops [⟨.assign (.c (.bool false)), (some 4), none⟩] .ret
def k13_3 : ACode :=
  .cond (.p 99) k13_2 .skip
def k13_4 : ACode :=
  .ops q13_1 k13_3
def k13_5 : ACode :=
  .block 1 k13_4
def k13_6 : ACode :=
  .seq k13_5 k13_1
def k13_7 : ACode :=
  .cond (.p 68) .skip (.exit 0)
@[simp] def xk13_7 := @xCond _ _ _ _ k13_7.eq_1
def k13_8 : ACode :=
  .seq k13_7 k13_6
@[simp] def xk13_8 := @xSeq _ _ _ k13_8.eq_1
def k13_9 : ACode :=
  .ops q13_2 k13_8
@[simp] def xk13_9 := @xOps _ _ _ k13_9.eq_1
def lc13_0 : ACode :=
  k13_9
@[simp] def xlc13_0 := @xSame _ _ lc13_0.eq_1
def k13_11 : ACode :=
  .loop lc13_0
@[simp] def xk13_11 := @xLoop _ _ k13_11.eq_1
def k13_12 : ACode :=
  .block 0 k13_11
@[simp] def xk13_12 := @xBlock _ _ _ k13_12.eq_1
def k13_13 : ACode :=
  .seq k13_12 k13_0
@[simp] def xk13_13 := @xSeq _ _ _ k13_13.eq_1
def k13_14 : ACode :=
  .ops [⟨.assign (.c (.int .i64 0)), (some 5), none⟩] k13_13
@[simp] def xk13_14 := @xOps _ _ _ k13_14.eq_1
def k13_15 : ACode :=
  .ops [⟨.assign (.c (.bool false)), (some 4), none⟩] .ret
def k13_16 : ACode :=
  .cond (.p 63) k13_15 .skip
@[simp] def xk13_16 := @xCond _ _ _ _ k13_16.eq_1
def k13_17 : ACode :=
  .seq k13_16 k13_14
@[simp] def xk13_17 := @xSeq _ _ _ k13_17.eq_1
def k13_18 : ACode :=
  .ops q13_3 k13_17
@[simp] def xk13_18 := @xOps _ _ _ k13_18.eq_1
def k13_19 : ACode :=
  .ops q13_4 k13_18
@[simp] def xk13_19 := @xOps _ _ _ k13_19.eq_1
def af13 : AFunc := ⟨100, k13_19, [.tmp 4], fun _ _ => none⟩

theorem ok13 : ∃ hs, pFunc Tryz.prog sg hs Tryz.f13 = some af13 := ⟨fun i => 0, by kernel_rfl⟩
def q3_0 : List AOper :=
  [⟨.call 12 [], (some 65), none⟩,
 ⟨.move .look (.p 65), (some 66), none⟩,
 ⟨.move .head (.p 9), (some 67), (some (66, true))⟩,
 ⟨.move .head (.p 7), (some 68), (some (66, true))⟩,
 ⟨.bin .eql 0 false (.p 67) (.p 68), (some 69), (some (66, true))⟩,
 ⟨.pick (.p 66) (.p 69) (.c (.bool false)), (some 70), none⟩,
 ⟨.move .look (.p 70), (some 71), none⟩,
 ⟨.move .look (.p 7), (some 72), (some (71, true))⟩,
 ⟨.un .not (.p 72), (some 73), (some (71, true))⟩,
 ⟨.move .look (.p 73), (some 74), (some (71, true))⟩,
 ⟨.load .look true 8 (.p 8), (some 75), (some (74, false))⟩,
 ⟨.load .look true 8 (.p 5), (some 76), (some (74, false))⟩,
 ⟨.call 13 [(.p 75, false), (.p 76, false)], (some 77), (some (74, false))⟩,
 ⟨.pick (.p 74) (.c (.bool true)) (.p 77), (some 78), (some (71, true))⟩,
 ⟨.pick (.p 71) (.p 78) (.c (.bool false)), (some 79), none⟩,
 ⟨.assign (.p 79), (some 4), none⟩]
@[simp] def eq3_0 := id q3_0.eq_1
def q3_1 : List AOper :=
  [⟨.fieldAddr 0 (.p 2), (some 54), none⟩,
 ⟨.load .look false 1 (.p 54), (some 55), none⟩,
 ⟨.fieldAddr 1 (.p 2), (some 56), none⟩,
 ⟨.load .look false 1 (.p 56), (some 57), none⟩,
 ⟨.move .look (.p 1), (some 60), none⟩,
 ⟨.convInt .i64 (.p 60), (some 61), none⟩,
 ⟨.call 11 [(.t 57, false)], (some 58), none⟩,
 ⟨.build [.int .i64 0, .slice .nil 0 1 []] [(0, 1, .p 55), (1, 1, .t 58)], (some 59), none⟩,
 ⟨.call 10 [(.p 59, false), (.p 61, false)], (some 62), none⟩,
 ⟨.move .look (.t 62), (some 53), none⟩,
 ⟨.extract 53 0, (some 63), none⟩,
 ⟨.extract 53 1, (some 64), none⟩,
 ⟨.newbox1 8 [.int .i64 0, .str [], .str [], .int .i64 0, .int .u64 0, .int .u64 0, .slice .nil 0 1 [], .slice .nil 0 1 []], (some 8), none⟩,
 ⟨.store 8 (.p 8) (.p 63), none, none⟩,
 ⟨.assign (.p 64), (some 9), none⟩]
@[simp] def eq3_1 := id q3_1.eq_1
def q3_2 : List AOper :=
  [⟨.move .look (.p 7), (some 40), none⟩,
 ⟨.move .look (.p 40), (some 41), none⟩,
 ⟨.fieldAddr 0 (.p 2), (some 42), (some (41, true))⟩,
 ⟨.load .head false 1 (.p 42), (some 43), (some (41, true))⟩,
 ⟨.move .look (.p 1), (some 44), (some (41, true))⟩,
 ⟨.convInt .i64 (.p 44), (some 45), (some (41, true))⟩,
 ⟨.bin .eql 1 false (.p 43) (.p 45), (some 46), (some (41, true))⟩,
 ⟨.pick (.p 41) (.p 46) (.c (.bool false)), (some 47), none⟩,
 ⟨.move .look (.p 47), (some 48), none⟩,
 ⟨.move .look (.p 1), (some 49), (some (48, true))⟩,
 ⟨.convInt .i64 (.p 49), (some 50), (some (48, true))⟩,
 ⟨.call 9 [(.p 50, false)], (some 51), (some (48, true))⟩,
 ⟨.pick (.p 48) (.p 51) (.c (.bool false)), (some 52), none⟩,
 ⟨.assign (.p 52), (some 7), none⟩]
@[simp] def eq3_2 := id q3_2.eq_1
def q3_3 : List AOper :=
  [⟨.move .look (.p 1), (some 32), none⟩,
 ⟨.convInt .i64 (.p 32), (some 33), none⟩,
 ⟨.fieldAddr 1 (.p 2), (some 34), none⟩,
 ⟨.load .look false 1 (.p 34), (some 35), none⟩,
 ⟨.call 8 [(.p 33, false), (.t 35, false)], (some 36), none⟩,
 ⟨.move .look (.t 36), (some 31), none⟩,
 ⟨.extract 31 0, (some 37), none⟩,
 ⟨.extract 31 1, (some 38), none⟩,
 ⟨.extract 31 2, (some 39), none⟩,
 ⟨.newbox 5 [.int .i64 0, .str [], .str [], .int .i64 0, .int .u64 0, .int .u64 0, .slice .nil 0 1 [], .slice .nil 0 1 []], (some 5), none⟩,
 ⟨.store 8 (.p 5) (.p 37), none, none⟩,
 ⟨.assign (.p 38), (some 6), none⟩,
 ⟨.assign (.p 39), (some 7), none⟩]
@[simp] def eq3_3 := id q3_3.eq_1
def q3_4 : List AOper :=
  [⟨.fieldAddr 0 (.p 2), (some 13), none⟩,
 ⟨.load .look false 1 (.p 13), (some 14), none⟩,
 ⟨.call 5 [(.p 14, false)], (some 15), none⟩,
 ⟨.un .not (.p 15), (some 16), none⟩,
 ⟨.move .look (.p 16), (some 17), none⟩,
 ⟨.fieldAddr 1 (.p 2), (some 18), (some (17, false))⟩,
 ⟨.load .look false 1 (.p 18), (some 19), (some (17, false))⟩,
 ⟨.call 6 [(.t 19, false)], (some 20), (some (17, false))⟩,
 ⟨.un .not (.p 20), (some 21), (some (17, false))⟩,
 ⟨.pick (.p 17) (.c (.bool true)) (.p 21), (some 22), none⟩,
 ⟨.move .look (.p 22), (some 23), none⟩,
 ⟨.move .look (.p 1), (some 24), (some (23, false))⟩,
 ⟨.convInt .i64 (.p 24), (some 25), (some (23, false))⟩,
 ⟨.fieldAddr 1 (.p 2), (some 26), (some (23, false))⟩,
 ⟨.load .look false 1 (.p 26), (some 27), (some (23, false))⟩,
 ⟨.call 7 [(.p 25, false), (.t 27, false)], (some 28), (some (23, false))⟩,
 ⟨.un .not (.p 28), (some 29), (some (23, false))⟩,
 ⟨.pick (.p 23) (.c (.bool true)) (.p 29), (some 30), none⟩]
@[simp] def eq3_4 := id q3_4.eq_1
def q3_5 : List AOper :=
  [⟨.load .look true 2 (.p 2), (some 10), none⟩,
 ⟨.call 4 [(.p 10, false)], (some 11), none⟩,
 ⟨.un .not (.p 11), (some 12), none⟩]
@[simp] def eq3_5 := id q3_5.eq_1
def q3_6 : List AOper :=
  [⟨.box 2 (.p 0), (some 2), none⟩,
 ⟨.assign (.c (.bool false)), (some 4), none⟩]
@[simp] def eq3_6 := id q3_6.eq_1
def k3_0 : ACode :=
  .ops q3_0 .ret
@[simp] def xk3_0 := @xOps _ _ _ k3_0.eq_1
def k3_1 : ACode :=
  .ops q3_1 k3_0
@[simp] def xk3_1 := @xOps _ _ _ k3_1.eq_1
def k3_2 : ACode :=
  .ops q3_2 k3_1
@[simp] def xk3_2 := @xOps _ _ _ k3_2.eq_1
def k3_3 : ACode :=
  .ops q3_3 k3_2
@[simp] def xk3_3 := @xOps _ _ _ k3_3.eq_1
def k3_4 : ACode :=
  .ops [⟨.assign (.c (.bool true)), (some 4), none⟩] .ret
@[simp] def xk3_4 := @xOps _ _ _ k3_4.eq_1
def k3_5 : ACode :=
  .cond (.p 30) k3_4 .skip
@[simp] def xk3_5 := @xCond _ _ _ _ k3_5.eq_1
def k3_6 : ACode :=
  .seq k3_5 k3_3
@[simp] def xk3_6 := @xSeq _ _ _ k3_6.eq_1
def k3_7 : ACode :=
  .ops q3_4 k3_6
@[simp] def xk3_7 := @xOps _ _ _ k3_7.eq_1
def k3_8 : ACode :=
  .ops [⟨.assign (.c (.bool true)), (some 4), none⟩] .ret
@[simp] def xk3_8 := @xOps _ _ _ k3_8.eq_1
def k3_9 : ACode :=
  .cond (.p 12) k3_8 .skip
@[simp] def xk3_9 := @xCond _ _ _ _ k3_9.eq_1
def k3_10 : ACode :=
  .seq k3_9 k3_7
@[simp] def xk3_10 := @xSeq _ _ _ k3_10.eq_1
def k3_11 : ACode :=
  .ops q3_5 k3_10
@[simp] def xk3_11 := @xOps _ _ _ k3_11.eq_1
def k3_12 : ACode :=
  .ops q3_6 k3_11
@[simp] def xk3_12 := @xOps _ _ _ k3_12.eq_1
def af3 : AFunc := ⟨80, k3_12, [.tmp 4], fun _ _ => none⟩

theorem ok3 : ∃ hs, pFunc Tryz.prog sg hs Tryz.f3 = some af3 := ⟨fun i => if i == 8 then 4 else 0, by kernel_rfl⟩
end
end Go.Proofs.YticoldgiebmmgaaGreatDoor.Abs
