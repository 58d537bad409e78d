/- The functions that the law reaches, made ready for the interpreter (printed by a program of this session; the kernel compares each with the given program). -/
import Derived.Test.YtcodfehgnjplcaaFFnDocAppendElementP1
namespace Go.Proofs.Ytcodfehgnjplcaa.Abs
set_option linter.all false
set_option maxRecDepth 100000
section
variable {fns : FuncId → Option AFunc} {Q : Ex × St → Prop} {s : List Fr} {c : ACode} {st : St}
/-- No. 11 -/
def q11_0 : List AOper :=
  [⟨.move .look (.t 0), (some 7), none⟩,
    ⟨.move .look (.p 1), (some 9), none⟩,
    ⟨.load .look true 2 (.p 5), (some 10), none⟩,
    ⟨.call 19 [(.t 7, false)], (some 8), none⟩,
    ⟨.call 22 [(.p 10, false)], (some 11), none⟩,
    ⟨.call 21 [(.t 8, true), (.p 9, false), (.p 11, false)], (some 12), none⟩,
    ⟨.assign (.t 12), (some 6), none⟩]
@[simp] def eq11_0 := id q11_0.eq_1
def q11_1 : List AOper :=
  [⟨.box 5 (.p 2), (some 5), none⟩,
    ⟨.assign (.c (.slice .nil 0 1 [])), (some 6), none⟩]
@[simp] def eq11_1 := id q11_1.eq_1
def k11_0 : ACode :=
  .ops q11_0 .ret
@[simp] theorem xk11_0 : GoC fns Q s k11_0 st ↔ GoO fns Q s q11_0 .ret st := goC_ops
def k11_1 : ACode :=
  .ops q11_1 k11_0
@[simp] theorem xk11_1 : GoC fns Q s k11_1 st ↔ GoO fns Q s q11_1 k11_0 st := goC_ops
def af11 : AFunc := ⟨13, k11_1, [.tmp 6]⟩

theorem ok11 : ∃ hs, pFunc Try.prog sg hs Try.f11 = some af11 := ⟨fun i => 0, by kernel_rfl⟩
/-- No. 3 -/
def q3_0 : List AOper :=
  [⟨.move .look (.t 0), (some 57), none⟩,
    ⟨.move .look (.p 1), (some 59), none⟩,
    ⟨.load .look true 8 (.p 5), (some 60), none⟩,
    ⟨.move .head (.p 7), (some 63), none⟩,
    ⟨.call 9 [(.t 57, false)], (some 58), none⟩,
    ⟨.call 10 [(.t 58, false), (.p 59, false), (.p 60, false)], (some 61), none⟩,
    ⟨.convBS (.t 61), (some 62), none⟩,
    ⟨.bin .eql 2 false (.p 62) (.p 63), (some 64), none⟩,
    ⟨.move .look (.p 64), (some 65), none⟩,
    ⟨.move .look (.p 9), (some 66), (some (65, true))⟩,
    ⟨.pick (.p 65) (.p 66) (.c (.bool false)), (some 67), none⟩,
    ⟨.move .look (.p 67), (some 68), none⟩,
    ⟨.move .look (.t 8), (some 69), (some (68, true))⟩,
    ⟨.convBS (.t 69), (some 70), (some (68, true))⟩,
    ⟨.move .head (.p 7), (some 71), (some (68, true))⟩,
    ⟨.bin .eql 2 false (.p 70) (.p 71), (some 72), (some (68, true))⟩,
    ⟨.pick (.p 68) (.p 72) (.c (.bool false)), (some 73), none⟩,
    ⟨.move .look (.p 73), (some 74), none⟩,
    ⟨.move .look (.t 0), (some 75), (some (74, true))⟩,
    ⟨.move .look (.p 1), (some 77), (some (74, true))⟩,
    ⟨.load .look true 8 (.p 5), (some 78), (some (74, true))⟩,
    ⟨.move .head (.p 7), (some 82), (some (74, true))⟩,
    ⟨.call 9 [(.t 75, false)], (some 76), (some (74, true))⟩,
    ⟨.call 12 [(.p 78, false)], (some 79), (some (74, true))⟩,
    ⟨.call 11 [(.t 76, false), (.p 77, false), (.p 79, false)], (some 80), (some (74, true))⟩,
    ⟨.convBS (.t 80), (some 81), (some (74, true))⟩,
    ⟨.bin .eql 2 false (.p 81) (.p 82), (some 83), (some (74, true))⟩,
    ⟨.pick (.p 74) (.p 83) (.c (.bool false)), (some 84), none⟩,
    ⟨.assign (.p 84), (some 6), none⟩]
@[simp] def eq3_0 := id q3_0.eq_1
def q3_1 : List AOper :=
  [⟨.move .look (.t 0), (some 50), none⟩,
    ⟨.move .look (.p 1), (some 52), none⟩,
    ⟨.load .look true 8 (.p 5), (some 53), none⟩,
    ⟨.call 9 [(.t 50, false)], (some 51), none⟩,
    ⟨.call 8 [(.t 51, false), (.p 52, false), (.p 53, false)], (some 54), none⟩,
    ⟨.move .look (.t 54), (some 49), none⟩,
    ⟨.extract 49 0, (some 55), none⟩,
    ⟨.extract 49 1, (some 56), none⟩,
    ⟨.assign (.t 55), (some 8), none⟩,
    ⟨.assign (.p 56), (some 9), none⟩]
@[simp] def eq3_1 := id q3_1.eq_1
def q3_2 : List AOper :=
  [⟨.move .look (.t 0), (some 41), none⟩,
    ⟨.convBS (.t 41), (some 42), none⟩,
    ⟨.move .look (.p 1), (some 43), none⟩,
    ⟨.load .look true 8 (.p 5), (some 44), none⟩,
    ⟨.build [.str [], .int .i64 0, .str [], .str [], .int .i64 0, .int .u64 0, .int .u64 0, .slice .nil 0 1 [], .slice .nil 0 1 []] [(0, 1, .p 43), (1, 8, .p 44)], (some 45), none⟩,
    ⟨.call 7 [(.p 45, false)], (some 46), none⟩,
    ⟨.convBS (.t 46), (some 47), none⟩,
    ⟨.bin .add 2 false (.p 42) (.p 47), (some 48), none⟩,
    ⟨.assign (.p 48), (some 7), none⟩]
@[simp] def eq3_2 := id q3_2.eq_1
def q3_3 : List AOper :=
  [⟨.move .head (.t 0), (some 23), none⟩,
    ⟨.len false (.p 23), (some 24), none⟩,
    ⟨.bin .gtr 1 true (.p 24) (.c (.int .i64 1000)), (some 25), none⟩,
    ⟨.move .look (.p 25), (some 26), none⟩,
    ⟨.move .head (.p 1), (some 27), (some (26, false))⟩,
    ⟨.len true (.p 27), (some 28), (some (26, false))⟩,
    ⟨.bin .gtr 1 true (.p 28) (.c (.int .i64 200)), (some 29), (some (26, false))⟩,
    ⟨.pick (.p 26) (.c (.bool true)) (.p 29), (some 30), none⟩,
    ⟨.move .look (.p 30), (some 31), none⟩,
    ⟨.move .look (.p 1), (some 32), (some (31, false))⟩,
    ⟨.call 5 [(.p 32, false)], (some 33), (some (31, false))⟩,
    ⟨.un .not (.p 33), (some 34), (some (31, false))⟩,
    ⟨.pick (.p 31) (.c (.bool true)) (.p 34), (some 35), none⟩,
    ⟨.move .look (.p 35), (some 36), none⟩,
    ⟨.load .look true 8 (.p 5), (some 37), (some (36, false))⟩,
    ⟨.call 6 [(.p 37, false)], (some 38), (some (36, false))⟩,
    ⟨.un .not (.p 38), (some 39), (some (36, false))⟩,
    ⟨.pick (.p 36) (.c (.bool true)) (.p 39), (some 40), none⟩]
@[simp] def eq3_3 := id q3_3.eq_1
def q3_4 : List AOper :=
  [⟨.move .head (.t 0), (some 10), none⟩,
    ⟨.len false (.p 10), (some 11), none⟩,
    ⟨.bin .gtr 1 true (.p 11) (.c (.int .i64 2147483647)), (some 12), none⟩,
    ⟨.move .look (.p 12), (some 13), none⟩,
    ⟨.move .head (.p 1), (some 14), (some (13, false))⟩,
    ⟨.len true (.p 14), (some 15), (some (13, false))⟩,
    ⟨.bin .gtr 1 true (.p 15) (.c (.int .i64 2147483647)), (some 16), (some (13, false))⟩,
    ⟨.pick (.p 13) (.c (.bool true)) (.p 16), (some 17), none⟩,
    ⟨.move .look (.p 17), (some 18), none⟩,
    ⟨.load .look true 8 (.p 5), (some 19), (some (18, false))⟩,
    ⟨.call 4 [(.p 19, false)], (some 20), (some (18, false))⟩,
    ⟨.un .not (.p 20), (some 21), (some (18, false))⟩,
    ⟨.pick (.p 18) (.c (.bool true)) (.p 21), (some 22), none⟩]
@[simp] def eq3_4 := id q3_4.eq_1
def q3_5 : List AOper :=
  [⟨.box 5 (.p 2), (some 5), none⟩,
    ⟨.assign (.c (.bool false)), (some 6), none⟩]
@[simp] def eq3_5 := id q3_5.eq_1
def k3_0 : ACode :=
  .ops q3_0 .ret
@[simp] theorem xk3_0 : GoC fns Q s k3_0 st ↔ GoO fns Q s q3_0 .ret st := goC_ops
def k3_1 : ACode :=
  .ops q3_1 k3_0
@[simp] theorem xk3_1 : GoC fns Q s k3_1 st ↔ GoO fns Q s q3_1 k3_0 st := goC_ops
def k3_2 : ACode :=
  .ops q3_2 k3_1
@[simp] theorem xk3_2 : GoC fns Q s k3_2 st ↔ GoO fns Q s q3_2 k3_1 st := goC_ops
def k3_3 : ACode :=
  .ops [⟨.assign (.c (.bool true)), (some 6), none⟩] .ret
@[simp] theorem xk3_3 : GoC fns Q s k3_3 st ↔ GoO fns Q s [⟨.assign (.c (.bool true)), (some 6), none⟩] .ret st := goC_ops
def k3_4 : ACode :=
  .cond (.p 40) k3_3 .skip
@[simp] theorem xk3_4 : GoC fns Q s k3_4 st ↔ GB fns Q s (peek st (.p 40)) k3_3 .skip st := goC_cond
def k3_5 : ACode :=
  .seq k3_4 k3_2
@[simp] theorem xk3_5 : GoC fns Q s k3_5 st ↔ GoC fns Q (.sq k3_2 :: s) k3_4 st := goC_seq
def k3_6 : ACode :=
  .ops q3_3 k3_5
@[simp] theorem xk3_6 : GoC fns Q s k3_6 st ↔ GoO fns Q s q3_3 k3_5 st := goC_ops
def k3_7 : ACode :=
  .ops [⟨.assign (.c (.bool true)), (some 6), none⟩] .ret
@[simp] theorem xk3_7 : GoC fns Q s k3_7 st ↔ GoO fns Q s [⟨.assign (.c (.bool true)), (some 6), none⟩] .ret st := goC_ops
def k3_8 : ACode :=
  .cond (.p 22) k3_7 .skip
@[simp] theorem xk3_8 : GoC fns Q s k3_8 st ↔ GB fns Q s (peek st (.p 22)) k3_7 .skip st := goC_cond
def k3_9 : ACode :=
  .seq k3_8 k3_6
@[simp] theorem xk3_9 : GoC fns Q s k3_9 st ↔ GoC fns Q (.sq k3_6 :: s) k3_8 st := goC_seq
def k3_10 : ACode :=
  .ops q3_4 k3_9
@[simp] theorem xk3_10 : GoC fns Q s k3_10 st ↔ GoO fns Q s q3_4 k3_9 st := goC_ops
def k3_11 : ACode :=
  .ops q3_5 k3_10
@[simp] theorem xk3_11 : GoC fns Q s k3_11 st ↔ GoO fns Q s q3_5 k3_10 st := goC_ops
def af3 : AFunc := ⟨85, k3_11, [.tmp 6]⟩

theorem ok3 : ∃ hs, pFunc Try.prog sg hs Try.f3 = some af3 := ⟨fun i => 0, by kernel_rfl⟩
end
end Go.Proofs.Ytcodfehgnjplcaa.Abs
