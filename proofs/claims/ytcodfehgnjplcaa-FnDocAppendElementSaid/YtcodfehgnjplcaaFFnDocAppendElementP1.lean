/- The functions that the law reaches, made ready for the interpreter (printed by a program of this session; the kernel compares each with the given program). -/
import Derived.Test.YtcodfehgnjplcaaA27
import Derived.Test.YtcodfehgnjplcaaProg
import Derived.KernelRfl
namespace Go.Proofs.Ytcodfehgnjplcaa.Abs
set_option linter.all false
set_option maxRecDepth 100000
open Go.Proofs
def sg : FuncId → Nat → Nat := fun f i =>
  if f == 18 then (if i == 0 then 1 else 0) else
  if f == 20 then (if i == 0 then 1 else 0) else
  if f == 21 then (if i == 0 then 1 else 0) else
  if f == 24 then (if i == 0 then 1 else 0) else
  if f == 25 then (if i == 0 then 1 else 0) else
  if f == 27 then (if i == 0 then 1 else 0) else
  if f == 28 then (if i == 0 then 1 else 0) else
  if f == 29 then (if i == 0 then 1 else 0) else
  if f == 30 then (if i == 0 then 1 else if i == 99 then 1 else 0) else
  if f == 31 then (if i == 0 then 1 else if i == 99 then 1 else 0) else
  if f == 32 then (if i == 0 then 1 else 0) else
  if f == 34 then (if i == 0 then 1 else 0) else
  if f == 35 then (if i == 0 then 1 else 0) else
  if f == 36 then (if i == 0 then 1 else 0) else
  if f == 37 then (if i == 0 then 1 else 0) else
  if f == 38 then (if i == 0 then 1 else 0) else
  if f == 39 then (if i == 0 then 1 else 0) else
  if f == 40 then (if i == 0 then 1 else 0) else
  if f == 42 then (if i == 0 then 1 else 0) else
  if f == 43 then (if i == 0 then 1 else 0) else
  if f == 44 then (if i == 0 then 1 else 0) else
  if f == 45 then (if i == 0 then 1 else 0) else
  if f == 46 then (if i == 0 then 1 else 0) else
  if f == 47 then (if i == 0 then 1 else 0) else
  if f == 48 then (if i == 0 then 1 else 0) else
  if f == 49 then (if i == 0 then 1 else 0) else
  if f == 51 then (if i == 0 then 1 else 0) else
  if f == 52 then (if i == 0 then 1 else 0) else
  if f == 53 then (if i == 0 then 1 else 0) else
  if f == 54 then (if i == 0 then 1 else 0) else
  if f == 55 then (if i == 0 then 1 else 0) else
  if f == 56 then (if i == 0 then 1 else 0) else
  if f == 57 then (if i == 0 then 1 else 0) else
  if f == 61 then (if i == 0 then 1 else 0) else
  if f == 62 then (if i == 0 then 1 else 0) else
  if f == 63 then (if i == 99 then 1 else 0) else
  if f == 64 then (if i == 0 then 1 else 0) else
  if f == 65 then (if i == 0 then 1 else 0) else
  if f == 66 then (if i == 0 then 1 else 0) else
  if f == 67 then (if i == 0 then 1 else 0) else
  if f == 68 then (if i == 0 then 1 else 0) else
  if f == 69 then (if i == 0 then 1 else 0) else
  if f == 70 then (if i == 0 then 1 else 0) else
  if f == 71 then (if i == 0 then 1 else 0) else
  if f == 72 then (if i == 0 then 1 else 0) else
  if f == 73 then (if i == 0 then 1 else 0) else
  if f == 74 then (if i == 0 then 1 else 0) else
  if f == 75 then (if i == 0 then 1 else 0) else
  if f == 76 then (if i == 0 then 1 else 0) else
  if f == 77 then (if i == 0 then 1 else 0) else
  if f == 78 then (if i == 0 then 1 else 0) else
  if f == 79 then (if i == 0 then 1 else 0) else
  if f == 80 then (if i == 0 then 1 else 0) else
  if f == 81 then (if i == 0 then 1 else 0) else
  if f == 83 then (if i == 0 then 1 else 0) else
  if f == 84 then (if i == 0 then 1 else 0) else
  if f == 85 then (if i == 1 then 2 else if i == 99 then 1 else 0) else
  if f == 86 then (if i == 0 then 1 else 0) else
  if f == 88 then (if i == 0 then 1 else 0) else
  if f == 89 then (if i == 0 then 1 else 0) else
  if f == 90 then (if i == 0 then 1 else 0) else
  if f == 91 then (if i == 0 then 1 else 0) else
  if f == 92 then (if i == 0 then 1 else 0) else
  if f == 93 then (if i == 0 then 1 else 0) else
  0
section
variable {fns : FuncId → Option AFunc} {Q : Ex × St → Prop} {s : List Fr} {c : ACode} {st : St}
/-- No. 4 -/
def q4_0 : List AOper :=
  [⟨.fieldAddr 7 (.p 1), (some 15), none⟩,
    ⟨.load .head false 1 (.p 15), (some 16), none⟩,
    ⟨.len false (.p 16), (some 17), none⟩,
    ⟨.bin .gtr 1 true (.p 17) (.c (.int .i64 2147483647)), (some 18), none⟩]
@[simp] def eq4_0 := id q4_0.eq_1
def q4_1 : List AOper :=
  [⟨.fieldAddr 6 (.p 1), (some 11), none⟩,
    ⟨.load .head false 1 (.p 11), (some 12), none⟩,
    ⟨.len false (.p 12), (some 13), none⟩,
    ⟨.bin .gtr 1 true (.p 13) (.c (.int .i64 2147483647)), (some 14), none⟩]
@[simp] def eq4_1 := id q4_1.eq_1
def q4_2 : List AOper :=
  [⟨.fieldAddr 2 (.p 1), (some 7), none⟩,
    ⟨.load .head false 1 (.p 7), (some 8), none⟩,
    ⟨.len true (.p 8), (some 9), none⟩,
    ⟨.bin .gtr 1 true (.p 9) (.c (.int .i64 2147483647)), (some 10), none⟩]
@[simp] def eq4_2 := id q4_2.eq_1
def q4_3 : List AOper :=
  [⟨.fieldAddr 1 (.p 1), (some 3), none⟩,
    ⟨.load .head false 1 (.p 3), (some 4), none⟩,
    ⟨.len true (.p 4), (some 5), none⟩,
    ⟨.bin .gtr 1 true (.p 5) (.c (.int .i64 2147483647)), (some 6), none⟩]
@[simp] def eq4_3 := id q4_3.eq_1
def q4_4 : List AOper :=
  [⟨.box 1 (.p 0), (some 1), none⟩,
    ⟨.assign (.c (.bool false)), (some 2), none⟩]
@[simp] def eq4_4 := id q4_4.eq_1
def k4_0 : ACode :=
  .ops [⟨.assign (.c (.bool true)), (some 2), none⟩] .ret
@[simp] theorem xk4_0 : GoC fns Q s k4_0 st ↔ GoO fns Q s [⟨.assign (.c (.bool true)), (some 2), none⟩] .ret st := goC_ops
def k4_1 : ACode :=
  .ops [⟨.assign (.c (.bool false)), (some 2), none⟩] .ret
@[simp] theorem xk4_1 : GoC fns Q s k4_1 st ↔ GoO fns Q s [⟨.assign (.c (.bool false)), (some 2), none⟩] .ret st := goC_ops
def k4_2 : ACode :=
  .cond (.p 18) k4_1 .skip
@[simp] theorem xk4_2 : GoC fns Q s k4_2 st ↔ GB fns Q s (peek st (.p 18)) k4_1 .skip st := goC_cond
def k4_3 : ACode :=
  .seq k4_2 k4_0
@[simp] theorem xk4_3 : GoC fns Q s k4_3 st ↔ GoC fns Q (.sq k4_0 :: s) k4_2 st := goC_seq
def k4_4 : ACode :=
  .ops q4_0 k4_3
@[simp] theorem xk4_4 : GoC fns Q s k4_4 st ↔ GoO fns Q s q4_0 k4_3 st := goC_ops
def k4_5 : ACode :=
  .ops [⟨.assign (.c (.bool false)), (some 2), none⟩] .ret
@[simp] theorem xk4_5 : GoC fns Q s k4_5 st ↔ GoO fns Q s [⟨.assign (.c (.bool false)), (some 2), none⟩] .ret st := goC_ops
def k4_6 : ACode :=
  .cond (.p 14) k4_5 .skip
@[simp] theorem xk4_6 : GoC fns Q s k4_6 st ↔ GB fns Q s (peek st (.p 14)) k4_5 .skip st := goC_cond
def k4_7 : ACode :=
  .seq k4_6 k4_4
@[simp] theorem xk4_7 : GoC fns Q s k4_7 st ↔ GoC fns Q (.sq k4_4 :: s) k4_6 st := goC_seq
def k4_8 : ACode :=
  .ops q4_1 k4_7
@[simp] theorem xk4_8 : GoC fns Q s k4_8 st ↔ GoO fns Q s q4_1 k4_7 st := goC_ops
def k4_9 : ACode :=
  .ops [⟨.assign (.c (.bool false)), (some 2), none⟩] .ret
@[simp] theorem xk4_9 : GoC fns Q s k4_9 st ↔ GoO fns Q s [⟨.assign (.c (.bool false)), (some 2), none⟩] .ret st := goC_ops
def k4_10 : ACode :=
  .cond (.p 10) k4_9 .skip
@[simp] theorem xk4_10 : GoC fns Q s k4_10 st ↔ GB fns Q s (peek st (.p 10)) k4_9 .skip st := goC_cond
def k4_11 : ACode :=
  .seq k4_10 k4_8
@[simp] theorem xk4_11 : GoC fns Q s k4_11 st ↔ GoC fns Q (.sq k4_8 :: s) k4_10 st := goC_seq
def k4_12 : ACode :=
  .ops q4_2 k4_11
@[simp] theorem xk4_12 : GoC fns Q s k4_12 st ↔ GoO fns Q s q4_2 k4_11 st := goC_ops
def k4_13 : ACode :=
  .ops [⟨.assign (.c (.bool false)), (some 2), none⟩] .ret
@[simp] theorem xk4_13 : GoC fns Q s k4_13 st ↔ GoO fns Q s [⟨.assign (.c (.bool false)), (some 2), none⟩] .ret st := goC_ops
def k4_14 : ACode :=
  .cond (.p 6) k4_13 .skip
@[simp] theorem xk4_14 : GoC fns Q s k4_14 st ↔ GB fns Q s (peek st (.p 6)) k4_13 .skip st := goC_cond
def k4_15 : ACode :=
  .seq k4_14 k4_12
@[simp] theorem xk4_15 : GoC fns Q s k4_15 st ↔ GoC fns Q (.sq k4_12 :: s) k4_14 st := goC_seq
def k4_16 : ACode :=
  .ops q4_3 k4_15
@[simp] theorem xk4_16 : GoC fns Q s k4_16 st ↔ GoO fns Q s q4_3 k4_15 st := goC_ops
def k4_17 : ACode :=
  .ops q4_4 k4_16
@[simp] theorem xk4_17 : GoC fns Q s k4_17 st ↔ GoO fns Q s q4_4 k4_16 st := goC_ops
def af4 : AFunc := ⟨19, k4_17, [.tmp 2]⟩

theorem ok4 : ∃ hs, pFunc Try.prog sg hs Try.f4 = some af4 := ⟨fun i => 0, by kernel_rfl⟩
/-- No. 5 -/
def q5_0 : List AOper :=
  [⟨.move .look (.p 3), (some 8), none⟩,
    ⟨.bin .add 1 true (.p 8) (.c (.int .i64 1)), (some 9), none⟩,
    ⟨.assign (.p 9), (some 3), none⟩]
@[simp] def eq5_0 := id q5_0.eq_1
def q5_1 : List AOper :=
  [⟨.move .look (.p 0), (some 10), none⟩,
    ⟨.move .look (.p 3), (some 11), none⟩,
    ⟨.indexStr (.p 10) (.p 11), (some 12), none⟩,
    ⟨.bin .eql 1 true (.p 12) (.c (.int .u8 0)), (some 13), none⟩]
@[simp] def eq5_1 := id q5_1.eq_1
def q5_2 : List AOper :=
  [⟨.move .look (.p 3), (some 4), none⟩,
    ⟨.move .head (.p 0), (some 5), none⟩,
    ⟨.len true (.p 5), (some 6), none⟩,
    ⟨.bin .lss 1 false (.p 4) (.p 6), (some 7), none⟩]
@[simp] def eq5_2 := id q5_2.eq_1
def k5_0 : ACode :=
  .ops [⟨.assign (.c (.bool true)), (some 2), none⟩] .ret
@[simp] theorem xk5_0 : GoC fns Q s k5_0 st ↔ GoO fns Q s [⟨.assign (.c (.bool true)), (some 2), none⟩] .ret st := goC_ops
def k5_1 : ACode :=
  .ops q5_0 .skip
@[simp] theorem xk5_1 : GoC fns Q s k5_1 st ↔ GoO fns Q s q5_0 .skip st := goC_ops
def k5_2 : ACode :=
  .ops [⟨.assign (.c (.bool false)), (some 2), none⟩] .ret
@[simp] theorem xk5_2 : GoC fns Q s k5_2 st ↔ GoO fns Q s [⟨.assign (.c (.bool false)), (some 2), none⟩] .ret st := goC_ops
def k5_3 : ACode :=
  .cond (.p 13) k5_2 .skip
@[simp] theorem xk5_3 : GoC fns Q s k5_3 st ↔ GB fns Q s (peek st (.p 13)) k5_2 .skip st := goC_cond
def k5_4 : ACode :=
  .ops q5_1 k5_3
@[simp] theorem xk5_4 : GoC fns Q s k5_4 st ↔ GoO fns Q s q5_1 k5_3 st := goC_ops
def k5_5 : ACode :=
  .block 1 k5_4
@[simp] theorem xk5_5 : GoC fns Q s k5_5 st ↔ GoC fns Q (.bl 1 :: s) k5_4 st := goC_block
def k5_6 : ACode :=
  .seq k5_5 k5_1
@[simp] theorem xk5_6 : GoC fns Q s k5_6 st ↔ GoC fns Q (.sq k5_1 :: s) k5_5 st := goC_seq
def k5_7 : ACode :=
  .cond (.p 7) .skip (.exit 0)
@[simp] theorem xk5_7 : GoC fns Q s k5_7 st ↔ GB fns Q s (peek st (.p 7)) .skip (.exit 0) st := goC_cond
def k5_8 : ACode :=
  .seq k5_7 k5_6
@[simp] theorem xk5_8 : GoC fns Q s k5_8 st ↔ GoC fns Q (.sq k5_6 :: s) k5_7 st := goC_seq
def k5_9 : ACode :=
  .ops q5_2 k5_8
@[simp] theorem xk5_9 : GoC fns Q s k5_9 st ↔ GoO fns Q s q5_2 k5_8 st := goC_ops
def lc5_0 : ACode :=
  k5_9
@[simp] theorem xlc5_0 : GoC fns Q s lc5_0 st ↔ GoC fns Q s k5_9 st := Iff.rfl
def k5_11 : ACode :=
  .loop lc5_0
@[simp] theorem xk5_11 : GoC fns Q s k5_11 st ↔ (LoopR fns lc5_0 st fun r => GoE fns Q s r.1 r.2) := goC_loop
def k5_12 : ACode :=
  .block 0 k5_11
@[simp] theorem xk5_12 : GoC fns Q s k5_12 st ↔ GoC fns Q (.bl 0 :: s) k5_11 st := goC_block
def k5_13 : ACode :=
  .seq k5_12 k5_0
@[simp] theorem xk5_13 : GoC fns Q s k5_13 st ↔ GoC fns Q (.sq k5_0 :: s) k5_12 st := goC_seq
def k5_14 : ACode :=
  .ops [⟨.assign (.c (.int .i64 0)), (some 3), none⟩] k5_13
@[simp] theorem xk5_14 : GoC fns Q s k5_14 st ↔ GoO fns Q s [⟨.assign (.c (.int .i64 0)), (some 3), none⟩] k5_13 st := goC_ops
def k5_15 : ACode :=
  .ops [⟨.assign (.c (.bool false)), (some 2), none⟩] k5_14
@[simp] theorem xk5_15 : GoC fns Q s k5_15 st ↔ GoO fns Q s [⟨.assign (.c (.bool false)), (some 2), none⟩] k5_14 st := goC_ops
def af5 : AFunc := ⟨14, k5_15, [.tmp 2]⟩

theorem ok5 : ∃ hs, pFunc Try.prog sg hs Try.f5 = some af5 := ⟨fun i => 0, by kernel_rfl⟩
/-- No. 13 -/
def q13_0 : List AOper :=
  [⟨.move .take (.p 5), (some 31), none⟩,
    ⟨.assign (.p 31), (some 4), none⟩]
@[simp] def eq13_0 := id q13_0.eq_1
def q13_1 : List AOper :=
  [⟨.move .look (.p 6), (some 17), none⟩,
    ⟨.bin .add 1 true (.p 17) (.c (.int .i64 1)), (some 18), none⟩,
    ⟨.assign (.p 18), (some 6), none⟩]
@[simp] def eq13_1 := id q13_1.eq_1
def q13_2 : List AOper :=
  [⟨.move .look (.p 5), (some 19), none⟩,
    ⟨.fieldAddr 7 (.p 2), (some 20), none⟩,
    ⟨.load .look false 1 (.p 20), (some 21), none⟩,
    ⟨.move .look (.p 6), (some 22), none⟩,
    ⟨.indexAddr 9 (.t 21) (.p 22), (some 23), none⟩,
    ⟨.fieldAddr 1 (.p 23), (some 24), none⟩,
    ⟨.load .look true 8 (.p 24), (some 25), none⟩,
    ⟨.move .look (.p 1), (some 26), none⟩,
    ⟨.move .look (.p 5), (some 27), none⟩,
    ⟨.bin .sub 1 false (.p 26) (.p 27), (some 28), none⟩,
    ⟨.call 13 [(.p 25, false), (.p 28, false)], (some 29), none⟩,
    ⟨.bin .add 1 false (.p 19) (.p 29), (some 30), none⟩,
    ⟨.assign (.p 30), (some 5), none⟩]
@[simp] def eq13_2 := id q13_2.eq_1
def q13_3 : List AOper :=
  [⟨.move .look (.p 6), (some 7), none⟩,
    ⟨.fieldAddr 7 (.p 2), (some 8), none⟩,
    ⟨.load .head false 1 (.p 8), (some 9), none⟩,
    ⟨.len false (.p 9), (some 10), none⟩,
    ⟨.bin .lss 1 false (.p 7) (.p 10), (some 11), none⟩,
    ⟨.move .look (.p 11), (some 12), none⟩,
    ⟨.move .look (.p 5), (some 13), (some (12, true))⟩,
    ⟨.move .look (.p 1), (some 14), (some (12, true))⟩,
    ⟨.bin .leq 1 false (.p 13) (.p 14), (some 15), (some (12, true))⟩,
    ⟨.pick (.p 12) (.p 15) (.c (.bool false)), (some 16), none⟩]
@[simp] def eq13_3 := id q13_3.eq_1
def q13_4 : List AOper :=
  [⟨.box 2 (.p 0), (some 2), none⟩,
    ⟨.assign (.c (.int .i64 0)), (some 4), none⟩]
@[simp] def eq13_4 := id q13_4.eq_1
def k13_0 : ACode :=
  .ops q13_0 .ret
@[simp] theorem xk13_0 : GoC fns Q s k13_0 st ↔ GoO fns Q s q13_0 .ret st := goC_ops
def k13_1 : ACode :=
  .ops q13_1 .skip
@[simp] theorem xk13_1 : GoC fns Q s k13_1 st ↔ GoO fns Q s q13_1 .skip st := goC_ops
def k13_2 : ACode :=
  .ops q13_2 .skip
@[simp] theorem xk13_2 : GoC fns Q s k13_2 st ↔ GoO fns Q s q13_2 .skip st := goC_ops
def k13_3 : ACode :=
  .block 1 k13_2
@[simp] theorem xk13_3 : GoC fns Q s k13_3 st ↔ GoC fns Q (.bl 1 :: s) k13_2 st := goC_block
def k13_4 : ACode :=
  .seq k13_3 k13_1
@[simp] theorem xk13_4 : GoC fns Q s k13_4 st ↔ GoC fns Q (.sq k13_1 :: s) k13_3 st := goC_seq
def k13_5 : ACode :=
  .cond (.p 16) .skip (.exit 0)
@[simp] theorem xk13_5 : GoC fns Q s k13_5 st ↔ GB fns Q s (peek st (.p 16)) .skip (.exit 0) st := goC_cond
def k13_6 : ACode :=
  .seq k13_5 k13_4
@[simp] theorem xk13_6 : GoC fns Q s k13_6 st ↔ GoC fns Q (.sq k13_4 :: s) k13_5 st := goC_seq
def k13_7 : ACode :=
  .ops q13_3 k13_6
@[simp] theorem xk13_7 : GoC fns Q s k13_7 st ↔ GoO fns Q s q13_3 k13_6 st := goC_ops
def lc13_0 : ACode :=
  k13_7
@[simp] theorem xlc13_0 : GoC fns Q s lc13_0 st ↔ GoC fns Q s k13_7 st := Iff.rfl
def k13_9 : ACode :=
  .loop lc13_0
@[simp] theorem xk13_9 : GoC fns Q s k13_9 st ↔ (LoopR fns lc13_0 st fun r => GoE fns Q s r.1 r.2) := goC_loop
def k13_10 : ACode :=
  .block 0 k13_9
@[simp] theorem xk13_10 : GoC fns Q s k13_10 st ↔ GoC fns Q (.bl 0 :: s) k13_9 st := goC_block
def k13_11 : ACode :=
  .seq k13_10 k13_0
@[simp] theorem xk13_11 : GoC fns Q s k13_11 st ↔ GoC fns Q (.sq k13_0 :: s) k13_10 st := goC_seq
def k13_12 : ACode :=
  .ops [⟨.assign (.c (.int .i64 0)), (some 6), none⟩] k13_11
@[simp] theorem xk13_12 : GoC fns Q s k13_12 st ↔ GoO fns Q s [⟨.assign (.c (.int .i64 0)), (some 6), none⟩] k13_11 st := goC_ops
def k13_13 : ACode :=
  .ops [⟨.assign (.c (.int .i64 1)), (some 5), none⟩] k13_12
@[simp] theorem xk13_13 : GoC fns Q s k13_13 st ↔ GoO fns Q s [⟨.assign (.c (.int .i64 1)), (some 5), none⟩] k13_12 st := goC_ops
def k13_14 : ACode :=
  .ops q13_4 k13_13
@[simp] theorem xk13_14 : GoC fns Q s k13_14 st ↔ GoO fns Q s q13_4 k13_13 st := goC_ops
def af13 : AFunc := ⟨32, k13_14, [.tmp 4]⟩

theorem ok13 : ∃ hs, pFunc Try.prog sg hs Try.f13 = some af13 := ⟨fun i => 0, by kernel_rfl⟩
/-- No. 58 -/
def q58_0 : List AOper :=
  [⟨.move .look (.p 0), (some 3), none⟩,
    ⟨.bin .geq 1 true (.p 3) (.c (.int .i64 1)), (some 4), none⟩,
    ⟨.move .look (.p 4), (some 5), none⟩,
    ⟨.move .look (.p 0), (some 6), (some (5, true))⟩,
    ⟨.bin .leq 1 true (.p 6) (.c (.int .i64 19)), (some 7), (some (5, true))⟩,
    ⟨.pick (.p 5) (.p 7) (.c (.bool false)), (some 8), none⟩,
    ⟨.move .look (.p 8), (some 9), none⟩,
    ⟨.move .head (.p 0), (some 10), (some (9, false))⟩,
    ⟨.bin .eql 1 true (.p 10) (.c (.int .i64 255)), (some 11), (some (9, false))⟩,
    ⟨.pick (.p 9) (.c (.bool true)) (.p 11), (some 12), none⟩,
    ⟨.move .look (.p 12), (some 13), none⟩,
    ⟨.move .head (.p 0), (some 14), (some (13, false))⟩,
    ⟨.bin .eql 1 true (.p 14) (.c (.int .i64 127)), (some 15), (some (13, false))⟩,
    ⟨.pick (.p 13) (.c (.bool true)) (.p 15), (some 16), none⟩,
    ⟨.assign (.p 16), (some 2), none⟩]
@[simp] def eq58_0 := id q58_0.eq_1
def k58_0 : ACode :=
  .ops q58_0 .ret
@[simp] theorem xk58_0 : GoC fns Q s k58_0 st ↔ GoO fns Q s q58_0 .ret st := goC_ops
def k58_1 : ACode :=
  .ops [⟨.assign (.c (.bool false)), (some 2), none⟩] k58_0
@[simp] theorem xk58_1 : GoC fns Q s k58_1 st ↔ GoO fns Q s [⟨.assign (.c (.bool false)), (some 2), none⟩] k58_0 st := goC_ops
def af58 : AFunc := ⟨17, k58_1, [.tmp 2]⟩

theorem ok58 : ∃ hs, pFunc Try.prog sg hs Try.f58 = some af58 := ⟨fun i => 0, by kernel_rfl⟩
/-- No. 59 -/
def q59_0 : List AOper :=
  [⟨.load .take true 8 (.p 1), (some 47), none⟩,
    ⟨.store 8 (.p 2) (.p 47), none, none⟩]
@[simp] def eq59_0 := id q59_0.eq_1
def q59_1 : List AOper :=
  [⟨.fieldAddr 4 (.p 1), (some 8), none⟩,
    ⟨.store 1 (.p 8) (.c (.int .u64 0)), none, none⟩]
@[simp] def eq59_1 := id q59_1.eq_1
def q59_2 : List AOper :=
  [⟨.fieldAddr 1 (.p 1), (some 13), none⟩,
    ⟨.store 1 (.p 13) (.c (.str [])), none, none⟩]
@[simp] def eq59_2 := id q59_2.eq_1
def q59_3 : List AOper :=
  [⟨.fieldAddr 7 (.p 1), (some 17), none⟩,
    ⟨.store 1 (.p 17) (.c (.slice .nil 0 1 [])), none, none⟩]
@[simp] def eq59_3 := id q59_3.eq_1
def q59_4 : List AOper :=
  [⟨.fieldAddr 3 (.p 1), (some 20), none⟩,
    ⟨.store 1 (.p 20) (.c (.int .i64 0)), none, none⟩,
    ⟨.fieldAddr 6 (.p 1), (some 21), none⟩,
    ⟨.store 1 (.p 21) (.c (.slice .nil 0 1 [])), none, none⟩]
@[simp] def eq59_4 := id q59_4.eq_1
def q59_5 : List AOper :=
  [⟨.fieldAddr 6 (.p 1), (some 24), none⟩,
    ⟨.store 1 (.p 24) (.c (.slice .nil 0 1 [])), none, none⟩]
@[simp] def eq59_5 := id q59_5.eq_1
def q59_6 : List AOper :=
  [⟨.fieldAddr 3 (.p 1), (some 30), none⟩,
    ⟨.store 1 (.p 30) (.c (.int .i64 0)), none, none⟩]
@[simp] def eq59_6 := id q59_6.eq_1
def q59_7 : List AOper :=
  [⟨.fieldAddr 1 (.p 1), (some 33), none⟩,
    ⟨.store 1 (.p 33) (.c (.str [])), none, none⟩,
    ⟨.fieldAddr 2 (.p 1), (some 34), none⟩,
    ⟨.store 1 (.p 34) (.c (.str [])), none, none⟩]
@[simp] def eq59_7 := id q59_7.eq_1
def q59_8 : List AOper :=
  [⟨.fieldAddr 1 (.p 1), (some 37), none⟩,
    ⟨.store 1 (.p 37) (.c (.str [])), none, none⟩,
    ⟨.fieldAddr 6 (.p 1), (some 38), none⟩,
    ⟨.store 1 (.p 38) (.c (.slice .nil 0 1 [])), none, none⟩]
@[simp] def eq59_8 := id q59_8.eq_1
def q59_9 : List AOper :=
  [⟨.fieldAddr 1 (.p 1), (some 41), none⟩,
    ⟨.store 1 (.p 41) (.c (.str [])), none, none⟩,
    ⟨.fieldAddr 7 (.p 1), (some 42), none⟩,
    ⟨.store 1 (.p 42) (.c (.slice .nil 0 1 [])), none, none⟩]
@[simp] def eq59_9 := id q59_9.eq_1
def q59_10 : List AOper :=
  [⟨.fieldAddr 4 (.p 1), (some 45), none⟩,
    ⟨.store 1 (.p 45) (.c (.int .u64 0)), none, none⟩,
    ⟨.fieldAddr 5 (.p 1), (some 46), none⟩,
    ⟨.store 1 (.p 46) (.c (.int .u64 0)), none, none⟩]
@[simp] def eq59_10 := id q59_10.eq_1
def q59_11 : List AOper :=
  [⟨.bin .eql 1 true (.p 4) (.c (.int .i64 19)), (some 44), none⟩,
    ⟨.assign (.p 44), (some 43), none⟩]
@[simp] def eq59_11 := id q59_11.eq_1
def q59_12 : List AOper :=
  [⟨.bin .eql 1 true (.p 4) (.c (.int .i64 15)), (some 40), none⟩,
    ⟨.assign (.p 40), (some 39), none⟩]
@[simp] def eq59_12 := id q59_12.eq_1
def q59_13 : List AOper :=
  [⟨.bin .eql 1 true (.p 4) (.c (.int .i64 12)), (some 36), none⟩,
    ⟨.assign (.p 36), (some 35), none⟩]
@[simp] def eq59_13 := id q59_13.eq_1
def q59_14 : List AOper :=
  [⟨.bin .eql 1 true (.p 4) (.c (.int .i64 11)), (some 32), none⟩,
    ⟨.assign (.p 32), (some 31), none⟩]
@[simp] def eq59_14 := id q59_14.eq_1
def q59_15 : List AOper :=
  [⟨.bin .eql 1 true (.p 4) (.c (.int .i64 18)), (some 29), none⟩,
    ⟨.assign (.p 29), (some 25), none⟩]
@[simp] def eq59_15 := id q59_15.eq_1
def q59_16 : List AOper :=
  [⟨.bin .eql 1 true (.p 4) (.c (.int .i64 16)), (some 28), none⟩,
    ⟨.assign (.p 28), (some 25), none⟩]
@[simp] def eq59_16 := id q59_16.eq_1
def q59_17 : List AOper :=
  [⟨.bin .eql 1 true (.p 4) (.c (.int .i64 9)), (some 27), none⟩,
    ⟨.assign (.p 27), (some 25), none⟩]
@[simp] def eq59_17 := id q59_17.eq_1
def q59_18 : List AOper :=
  [⟨.bin .eql 1 true (.p 4) (.c (.int .i64 8)), (some 26), none⟩,
    ⟨.assign (.p 26), (some 25), none⟩]
@[simp] def eq59_18 := id q59_18.eq_1
def q59_19 : List AOper :=
  [⟨.bin .eql 1 true (.p 4) (.c (.int .i64 7)), (some 23), none⟩,
    ⟨.assign (.p 23), (some 22), none⟩]
@[simp] def eq59_19 := id q59_19.eq_1
def q59_20 : List AOper :=
  [⟨.bin .eql 1 true (.p 4) (.c (.int .i64 5)), (some 19), none⟩,
    ⟨.assign (.p 19), (some 18), none⟩]
@[simp] def eq59_20 := id q59_20.eq_1
def q59_21 : List AOper :=
  [⟨.bin .eql 1 true (.p 4) (.c (.int .i64 4)), (some 16), none⟩,
    ⟨.assign (.p 16), (some 14), none⟩]
@[simp] def eq59_21 := id q59_21.eq_1
def q59_22 : List AOper :=
  [⟨.bin .eql 1 true (.p 4) (.c (.int .i64 3)), (some 15), none⟩,
    ⟨.assign (.p 15), (some 14), none⟩]
@[simp] def eq59_22 := id q59_22.eq_1
def q59_23 : List AOper :=
  [⟨.bin .eql 1 true (.p 4) (.c (.int .i64 14)), (some 12), none⟩,
    ⟨.assign (.p 12), (some 9), none⟩]
@[simp] def eq59_23 := id q59_23.eq_1
def q59_24 : List AOper :=
  [⟨.bin .eql 1 true (.p 4) (.c (.int .i64 13)), (some 11), none⟩,
    ⟨.assign (.p 11), (some 9), none⟩]
@[simp] def eq59_24 := id q59_24.eq_1
def q59_25 : List AOper :=
  [⟨.bin .eql 1 true (.p 4) (.c (.int .i64 2)), (some 10), none⟩,
    ⟨.assign (.p 10), (some 9), none⟩]
@[simp] def eq59_25 := id q59_25.eq_1
def q59_26 : List AOper :=
  [⟨.bin .eql 1 true (.p 4) (.c (.int .i64 17)), (some 7), none⟩,
    ⟨.assign (.p 7), (some 5), none⟩]
@[simp] def eq59_26 := id q59_26.eq_1
def q59_27 : List AOper :=
  [⟨.bin .eql 1 true (.p 4) (.c (.int .i64 1)), (some 6), none⟩,
    ⟨.assign (.p 6), (some 5), none⟩]
@[simp] def eq59_27 := id q59_27.eq_1
def q59_28 : List AOper :=
  [⟨.fieldAddr 0 (.p 1), (some 3), none⟩,
    ⟨.load .head false 1 (.p 3), (some 4), none⟩]
@[simp] def eq59_28 := id q59_28.eq_1
def q59_29 : List AOper :=
  [⟨.box 1 (.p 0), (some 1), none⟩,
    ⟨.newbox 2 [.int .i64 0, .str [], .str [], .int .i64 0, .int .u64 0, .int .u64 0, .slice .nil 0 1 [], .slice .nil 0 1 []], (some 2), none⟩]
@[simp] def eq59_29 := id q59_29.eq_1
def k59_0 : ACode :=
  .ops q59_0 .ret
@[simp] theorem xk59_0 : GoC fns Q s k59_0 st ↔ GoO fns Q s q59_0 .ret st := goC_ops
def k59_1 : ACode :=
  .ops q59_1 .skip
@[simp] theorem xk59_1 : GoC fns Q s k59_1 st ↔ GoO fns Q s q59_1 .skip st := goC_ops
def k59_2 : ACode :=
  .ops q59_2 .skip
@[simp] theorem xk59_2 : GoC fns Q s k59_2 st ↔ GoO fns Q s q59_2 .skip st := goC_ops
def k59_3 : ACode :=
  .ops q59_3 .skip
@[simp] theorem xk59_3 : GoC fns Q s k59_3 st ↔ GoO fns Q s q59_3 .skip st := goC_ops
def k59_4 : ACode :=
  .ops q59_4 .skip
@[simp] theorem xk59_4 : GoC fns Q s k59_4 st ↔ GoO fns Q s q59_4 .skip st := goC_ops
def k59_5 : ACode :=
  .ops q59_5 .skip
@[simp] theorem xk59_5 : GoC fns Q s k59_5 st ↔ GoO fns Q s q59_5 .skip st := goC_ops
def k59_6 : ACode :=
  .ops q59_6 .skip
@[simp] theorem xk59_6 : GoC fns Q s k59_6 st ↔ GoO fns Q s q59_6 .skip st := goC_ops
def k59_7 : ACode :=
  .ops q59_7 .skip
@[simp] theorem xk59_7 : GoC fns Q s k59_7 st ↔ GoO fns Q s q59_7 .skip st := goC_ops
def k59_8 : ACode :=
  .ops q59_8 .skip
@[simp] theorem xk59_8 : GoC fns Q s k59_8 st ↔ GoO fns Q s q59_8 .skip st := goC_ops
def k59_9 : ACode :=
  .ops q59_9 .skip
@[simp] theorem xk59_9 : GoC fns Q s k59_9 st ↔ GoO fns Q s q59_9 .skip st := goC_ops
def k59_10 : ACode :=
  .ops q59_10 .skip
@[simp] theorem xk59_10 : GoC fns Q s k59_10 st ↔ GoO fns Q s q59_10 .skip st := goC_ops
def k59_11 : ACode :=
  .cond (.p 43) k59_10 .skip
@[simp] theorem xk59_11 : GoC fns Q s k59_11 st ↔ GB fns Q s (peek st (.p 43)) k59_10 .skip st := goC_cond
def k59_12 : ACode :=
  .ops q59_11 k59_11
@[simp] theorem xk59_12 : GoC fns Q s k59_12 st ↔ GoO fns Q s q59_11 k59_11 st := goC_ops
def k59_13 : ACode :=
  .cond (.p 39) k59_9 k59_12
@[simp] theorem xk59_13 : GoC fns Q s k59_13 st ↔ GB fns Q s (peek st (.p 39)) k59_9 k59_12 st := goC_cond
def k59_14 : ACode :=
  .ops q59_12 k59_13
@[simp] theorem xk59_14 : GoC fns Q s k59_14 st ↔ GoO fns Q s q59_12 k59_13 st := goC_ops
def k59_15 : ACode :=
  .cond (.p 35) k59_8 k59_14
@[simp] theorem xk59_15 : GoC fns Q s k59_15 st ↔ GB fns Q s (peek st (.p 35)) k59_8 k59_14 st := goC_cond
def k59_16 : ACode :=
  .ops q59_13 k59_15
@[simp] theorem xk59_16 : GoC fns Q s k59_16 st ↔ GoO fns Q s q59_13 k59_15 st := goC_ops
def k59_17 : ACode :=
  .cond (.p 31) k59_7 k59_16
@[simp] theorem xk59_17 : GoC fns Q s k59_17 st ↔ GB fns Q s (peek st (.p 31)) k59_7 k59_16 st := goC_cond
def k59_18 : ACode :=
  .ops q59_14 k59_17
@[simp] theorem xk59_18 : GoC fns Q s k59_18 st ↔ GoO fns Q s q59_14 k59_17 st := goC_ops
def k59_19 : ACode :=
  .cond (.p 25) k59_6 k59_18
@[simp] theorem xk59_19 : GoC fns Q s k59_19 st ↔ GB fns Q s (peek st (.p 25)) k59_6 k59_18 st := goC_cond
def k59_20 : ACode :=
  .ops q59_15 .skip
@[simp] theorem xk59_20 : GoC fns Q s k59_20 st ↔ GoO fns Q s q59_15 .skip st := goC_ops
def k59_21 : ACode :=
  .cond (.p 25) .skip k59_20
@[simp] theorem xk59_21 : GoC fns Q s k59_21 st ↔ GB fns Q s (peek st (.p 25)) .skip k59_20 st := goC_cond
def k59_22 : ACode :=
  .ops q59_16 k59_21
@[simp] theorem xk59_22 : GoC fns Q s k59_22 st ↔ GoO fns Q s q59_16 k59_21 st := goC_ops
def k59_23 : ACode :=
  .cond (.p 25) .skip k59_22
@[simp] theorem xk59_23 : GoC fns Q s k59_23 st ↔ GB fns Q s (peek st (.p 25)) .skip k59_22 st := goC_cond
def k59_24 : ACode :=
  .ops q59_17 k59_23
@[simp] theorem xk59_24 : GoC fns Q s k59_24 st ↔ GoO fns Q s q59_17 k59_23 st := goC_ops
def k59_25 : ACode :=
  .cond (.p 25) .skip k59_24
@[simp] theorem xk59_25 : GoC fns Q s k59_25 st ↔ GB fns Q s (peek st (.p 25)) .skip k59_24 st := goC_cond
def k59_26 : ACode :=
  .seq k59_25 k59_19
@[simp] theorem xk59_26 : GoC fns Q s k59_26 st ↔ GoC fns Q (.sq k59_19 :: s) k59_25 st := goC_seq
def k59_27 : ACode :=
  .ops q59_18 k59_26
@[simp] theorem xk59_27 : GoC fns Q s k59_27 st ↔ GoO fns Q s q59_18 k59_26 st := goC_ops
def k59_28 : ACode :=
  .cond (.p 22) k59_5 k59_27
@[simp] theorem xk59_28 : GoC fns Q s k59_28 st ↔ GB fns Q s (peek st (.p 22)) k59_5 k59_27 st := goC_cond
def k59_29 : ACode :=
  .ops q59_19 k59_28
@[simp] theorem xk59_29 : GoC fns Q s k59_29 st ↔ GoO fns Q s q59_19 k59_28 st := goC_ops
def k59_30 : ACode :=
  .cond (.p 18) k59_4 k59_29
@[simp] theorem xk59_30 : GoC fns Q s k59_30 st ↔ GB fns Q s (peek st (.p 18)) k59_4 k59_29 st := goC_cond
def k59_31 : ACode :=
  .ops q59_20 k59_30
@[simp] theorem xk59_31 : GoC fns Q s k59_31 st ↔ GoO fns Q s q59_20 k59_30 st := goC_ops
def k59_32 : ACode :=
  .cond (.p 14) k59_3 k59_31
@[simp] theorem xk59_32 : GoC fns Q s k59_32 st ↔ GB fns Q s (peek st (.p 14)) k59_3 k59_31 st := goC_cond
def k59_33 : ACode :=
  .ops q59_21 .skip
@[simp] theorem xk59_33 : GoC fns Q s k59_33 st ↔ GoO fns Q s q59_21 .skip st := goC_ops
def k59_34 : ACode :=
  .cond (.p 14) .skip k59_33
@[simp] theorem xk59_34 : GoC fns Q s k59_34 st ↔ GB fns Q s (peek st (.p 14)) .skip k59_33 st := goC_cond
def k59_35 : ACode :=
  .seq k59_34 k59_32
@[simp] theorem xk59_35 : GoC fns Q s k59_35 st ↔ GoC fns Q (.sq k59_32 :: s) k59_34 st := goC_seq
def k59_36 : ACode :=
  .ops q59_22 k59_35
@[simp] theorem xk59_36 : GoC fns Q s k59_36 st ↔ GoO fns Q s q59_22 k59_35 st := goC_ops
def k59_37 : ACode :=
  .cond (.p 9) k59_2 k59_36
@[simp] theorem xk59_37 : GoC fns Q s k59_37 st ↔ GB fns Q s (peek st (.p 9)) k59_2 k59_36 st := goC_cond
def k59_38 : ACode :=
  .ops q59_23 .skip
@[simp] theorem xk59_38 : GoC fns Q s k59_38 st ↔ GoO fns Q s q59_23 .skip st := goC_ops
def k59_39 : ACode :=
  .cond (.p 9) .skip k59_38
@[simp] theorem xk59_39 : GoC fns Q s k59_39 st ↔ GB fns Q s (peek st (.p 9)) .skip k59_38 st := goC_cond
def k59_40 : ACode :=
  .ops q59_24 k59_39
@[simp] theorem xk59_40 : GoC fns Q s k59_40 st ↔ GoO fns Q s q59_24 k59_39 st := goC_ops
def k59_41 : ACode :=
  .cond (.p 9) .skip k59_40
@[simp] theorem xk59_41 : GoC fns Q s k59_41 st ↔ GB fns Q s (peek st (.p 9)) .skip k59_40 st := goC_cond
def k59_42 : ACode :=
  .seq k59_41 k59_37
@[simp] theorem xk59_42 : GoC fns Q s k59_42 st ↔ GoC fns Q (.sq k59_37 :: s) k59_41 st := goC_seq
def k59_43 : ACode :=
  .ops q59_25 k59_42
@[simp] theorem xk59_43 : GoC fns Q s k59_43 st ↔ GoO fns Q s q59_25 k59_42 st := goC_ops
def k59_44 : ACode :=
  .cond (.p 5) k59_1 k59_43
@[simp] theorem xk59_44 : GoC fns Q s k59_44 st ↔ GB fns Q s (peek st (.p 5)) k59_1 k59_43 st := goC_cond
def k59_45 : ACode :=
  .ops q59_26 .skip
@[simp] theorem xk59_45 : GoC fns Q s k59_45 st ↔ GoO fns Q s q59_26 .skip st := goC_ops
def k59_46 : ACode :=
  .cond (.p 5) .skip k59_45
@[simp] theorem xk59_46 : GoC fns Q s k59_46 st ↔ GB fns Q s (peek st (.p 5)) .skip k59_45 st := goC_cond
def k59_47 : ACode :=
  .seq k59_46 k59_44
@[simp] theorem xk59_47 : GoC fns Q s k59_47 st ↔ GoC fns Q (.sq k59_44 :: s) k59_46 st := goC_seq
def k59_48 : ACode :=
  .ops q59_27 k59_47
@[simp] theorem xk59_48 : GoC fns Q s k59_48 st ↔ GoO fns Q s q59_27 k59_47 st := goC_ops
def k59_49 : ACode :=
  .block 0 k59_48
@[simp] theorem xk59_49 : GoC fns Q s k59_49 st ↔ GoC fns Q (.bl 0 :: s) k59_48 st := goC_block
def k59_50 : ACode :=
  .seq k59_49 k59_0
@[simp] theorem xk59_50 : GoC fns Q s k59_50 st ↔ GoC fns Q (.sq k59_0 :: s) k59_49 st := goC_seq
def k59_51 : ACode :=
  .ops q59_28 k59_50
@[simp] theorem xk59_51 : GoC fns Q s k59_51 st ↔ GoO fns Q s q59_28 k59_50 st := goC_ops
def k59_52 : ACode :=
  .ops q59_29 k59_51
@[simp] theorem xk59_52 : GoC fns Q s k59_52 st ↔ GoO fns Q s q59_29 k59_51 st := goC_ops
def af59 : AFunc := ⟨48, k59_52, [.cell 2 true 8]⟩

theorem ok59 : ∃ hs, pFunc Try.prog sg hs Try.f59 = some af59 := ⟨fun i => 0, by kernel_rfl⟩
/-- No. 60 -/
def q60_0 : List AOper :=
  [⟨.move .look (.p 0), (some 10), none⟩,
    ⟨.bin .quo 1 true (.p 10) (.c (.int .i64 10)), (some 11), none⟩,
    ⟨.move .look (.p 0), (some 13), none⟩,
    ⟨.bin .rem 1 true (.p 13) (.c (.int .i64 10)), (some 14), none⟩,
    ⟨.bin .add 1 true (.c (.int .i64 48)) (.p 14), (some 15), none⟩,
    ⟨.convInt .u8 (.p 15), (some 16), none⟩,
    ⟨.buildSl 5 1 [.int .u8 0] [(0, 1, .p 16)], (some 17), none⟩,
    ⟨.convBS (.t 17), (some 18), none⟩,
    ⟨.call 60 [(.p 11, false)], (some 12), none⟩,
    ⟨.bin .add 2 false (.p 12) (.p 18), (some 19), none⟩,
    ⟨.assign (.p 19), (some 2), none⟩]
@[simp] def eq60_0 := id q60_0.eq_1
def q60_1 : List AOper :=
  [⟨.move .look (.p 0), (some 5), none⟩,
    ⟨.bin .add 1 true (.c (.int .i64 48)) (.p 5), (some 6), none⟩,
    ⟨.convInt .u8 (.p 6), (some 7), none⟩,
    ⟨.buildSl 5 1 [.int .u8 0] [(0, 1, .p 7)], (some 8), none⟩,
    ⟨.convBS (.t 8), (some 9), none⟩,
    ⟨.assign (.p 9), (some 2), none⟩]
@[simp] def eq60_1 := id q60_1.eq_1
def q60_2 : List AOper :=
  [⟨.move .look (.p 0), (some 3), none⟩,
    ⟨.bin .lss 1 true (.p 3) (.c (.int .i64 10)), (some 4), none⟩]
@[simp] def eq60_2 := id q60_2.eq_1
def k60_0 : ACode :=
  .ops q60_0 .ret
@[simp] theorem xk60_0 : GoC fns Q s k60_0 st ↔ GoO fns Q s q60_0 .ret st := goC_ops
def k60_1 : ACode :=
  .ops q60_1 .ret
@[simp] theorem xk60_1 : GoC fns Q s k60_1 st ↔ GoO fns Q s q60_1 .ret st := goC_ops
def k60_2 : ACode :=
  .cond (.p 4) k60_1 .skip
@[simp] theorem xk60_2 : GoC fns Q s k60_2 st ↔ GB fns Q s (peek st (.p 4)) k60_1 .skip st := goC_cond
def k60_3 : ACode :=
  .seq k60_2 k60_0
@[simp] theorem xk60_3 : GoC fns Q s k60_3 st ↔ GoC fns Q (.sq k60_0 :: s) k60_2 st := goC_seq
def k60_4 : ACode :=
  .ops q60_2 k60_3
@[simp] theorem xk60_4 : GoC fns Q s k60_4 st ↔ GoO fns Q s q60_2 k60_3 st := goC_ops
def k60_5 : ACode :=
  .ops [⟨.assign (.c (.str [])), (some 2), none⟩] k60_4
@[simp] theorem xk60_5 : GoC fns Q s k60_5 st ↔ GoO fns Q s [⟨.assign (.c (.str [])), (some 2), none⟩] k60_4 st := goC_ops
def af60 : AFunc := ⟨20, k60_5, [.tmp 2]⟩

theorem ok60 : ∃ hs, pFunc Try.prog sg hs Try.f60 = some af60 := ⟨fun i => 0, by kernel_rfl⟩
/-- No. 23 -/
def rg23_4 : List AOper :=
  [⟨.fieldAddr 1 (.p 5), (some 18), none⟩,
    ⟨.load .head false 1 (.p 18), (some 19), none⟩,
    ⟨.bin .neq 2 true (.p 19) (.c (.str [])), (some 20), none⟩,
    ⟨.move .look (.p 20), (some 21), none⟩,
    ⟨.fieldAddr 2 (.p 5), (some 22), (some (21, false))⟩,
    ⟨.load .head false 1 (.p 22), (some 23), (some (21, false))⟩,
    ⟨.bin .neq 2 true (.p 23) (.c (.str [])), (some 24), (some (21, false))⟩,
    ⟨.pick (.p 21) (.c (.bool true)) (.p 24), (some 25), none⟩,
    ⟨.move .look (.p 25), (some 26), none⟩,
    ⟨.fieldAddr 3 (.p 5), (some 27), (some (26, false))⟩,
    ⟨.load .head false 1 (.p 27), (some 28), (some (26, false))⟩,
    ⟨.bin .neq 1 true (.p 28) (.c (.int .i64 0)), (some 29), (some (26, false))⟩,
    ⟨.pick (.p 26) (.c (.bool true)) (.p 29), (some 30), none⟩,
    ⟨.move .look (.p 30), (some 31), none⟩,
    ⟨.fieldAddr 4 (.p 5), (some 32), (some (31, false))⟩,
    ⟨.load .head false 1 (.p 32), (some 33), (some (31, false))⟩,
    ⟨.bin .neq 1 true (.p 33) (.c (.int .u64 0)), (some 34), (some (31, false))⟩,
    ⟨.pick (.p 31) (.c (.bool true)) (.p 34), (some 35), none⟩,
    ⟨.move .look (.p 35), (some 36), none⟩,
    ⟨.fieldAddr 5 (.p 5), (some 37), (some (36, false))⟩,
    ⟨.load .head false 1 (.p 37), (some 38), (some (36, false))⟩,
    ⟨.bin .neq 1 true (.p 38) (.c (.int .u64 0)), (some 39), (some (36, false))⟩,
    ⟨.pick (.p 36) (.c (.bool true)) (.p 39), (some 40), none⟩,
    ⟨.move .look (.p 40), (some 41), none⟩,
    ⟨.fieldAddr 6 (.p 5), (some 42), (some (41, false))⟩,
    ⟨.load .head false 1 (.p 42), (some 43), (some (41, false))⟩,
    ⟨.len false (.p 43), (some 44), (some (41, false))⟩,
    ⟨.bin .neq 1 true (.p 44) (.c (.int .i64 0)), (some 45), (some (41, false))⟩,
    ⟨.pick (.p 41) (.c (.bool true)) (.p 45), (some 46), none⟩,
    ⟨.move .look (.p 46), (some 47), none⟩,
    ⟨.fieldAddr 7 (.p 5), (some 48), (some (47, false))⟩,
    ⟨.load .head false 1 (.p 48), (some 49), (some (47, false))⟩,
    ⟨.len false (.p 49), (some 50), (some (47, false))⟩,
    ⟨.bin .neq 1 true (.p 50) (.c (.int .i64 0)), (some 51), (some (47, false))⟩,
    ⟨.pick (.p 47) (.c (.bool true)) (.p 51), (some 52), none⟩]
theorem org23_4 : GoO fns Q s rg23_4 c st ↔ GoO fns Q s [⟨.fieldAddr 1 (.p 5), (some 18), none⟩,
    ⟨.load .head false 1 (.p 18), (some 19), none⟩,
    ⟨.bin .neq 2 true (.p 19) (.c (.str [])), (some 20), none⟩,
    ⟨.move .look (.p 20), (some 21), none⟩,
    ⟨.fieldAddr 2 (.p 5), (some 22), (some (21, false))⟩,
    ⟨.load .head false 1 (.p 22), (some 23), (some (21, false))⟩,
    ⟨.bin .neq 2 true (.p 23) (.c (.str [])), (some 24), (some (21, false))⟩,
    ⟨.pick (.p 21) (.c (.bool true)) (.p 24), (some 25), none⟩,
    ⟨.move .look (.p 25), (some 26), none⟩,
    ⟨.fieldAddr 3 (.p 5), (some 27), (some (26, false))⟩,
    ⟨.load .head false 1 (.p 27), (some 28), (some (26, false))⟩,
    ⟨.bin .neq 1 true (.p 28) (.c (.int .i64 0)), (some 29), (some (26, false))⟩,
    ⟨.pick (.p 26) (.c (.bool true)) (.p 29), (some 30), none⟩,
    ⟨.move .look (.p 30), (some 31), none⟩,
    ⟨.fieldAddr 4 (.p 5), (some 32), (some (31, false))⟩,
    ⟨.load .head false 1 (.p 32), (some 33), (some (31, false))⟩,
    ⟨.bin .neq 1 true (.p 33) (.c (.int .u64 0)), (some 34), (some (31, false))⟩,
    ⟨.pick (.p 31) (.c (.bool true)) (.p 34), (some 35), none⟩,
    ⟨.move .look (.p 35), (some 36), none⟩,
    ⟨.fieldAddr 5 (.p 5), (some 37), (some (36, false))⟩,
    ⟨.load .head false 1 (.p 37), (some 38), (some (36, false))⟩,
    ⟨.bin .neq 1 true (.p 38) (.c (.int .u64 0)), (some 39), (some (36, false))⟩,
    ⟨.pick (.p 36) (.c (.bool true)) (.p 39), (some 40), none⟩,
    ⟨.move .look (.p 40), (some 41), none⟩,
    ⟨.fieldAddr 6 (.p 5), (some 42), (some (41, false))⟩,
    ⟨.load .head false 1 (.p 42), (some 43), (some (41, false))⟩,
    ⟨.len false (.p 43), (some 44), (some (41, false))⟩,
    ⟨.bin .neq 1 true (.p 44) (.c (.int .i64 0)), (some 45), (some (41, false))⟩,
    ⟨.pick (.p 41) (.c (.bool true)) (.p 45), (some 46), none⟩,
    ⟨.move .look (.p 46), (some 47), none⟩,
    ⟨.fieldAddr 7 (.p 5), (some 48), (some (47, false))⟩,
    ⟨.load .head false 1 (.p 48), (some 49), (some (47, false))⟩,
    ⟨.len false (.p 49), (some 50), (some (47, false))⟩,
    ⟨.bin .neq 1 true (.p 50) (.c (.int .i64 0)), (some 51), (some (47, false))⟩,
    ⟨.pick (.p 47) (.c (.bool true)) (.p 51), (some 52), none⟩] c st := Iff.rfl
def q23_0 : List AOper :=
  [⟨.move .look (.p 6), (some 107), none⟩,
    ⟨.bin .add 1 true (.p 107) (.c (.int .i64 1)), (some 108), none⟩,
    ⟨.assign (.p 108), (some 6), none⟩]
@[simp] def eq23_0 := id q23_0.eq_1
def q23_1 : List AOper :=
  [⟨.fieldAddr 0 (.p 7), (some 114), none⟩,
    ⟨.load .look false 1 (.p 114), (some 115), none⟩,
    ⟨.call 5 [(.p 115, false)], (some 116), none⟩,
    ⟨.un .not (.p 116), (some 117), none⟩,
    ⟨.move .look (.p 117), (some 118), none⟩,
    ⟨.fieldAddr 0 (.p 2), (some 119), (some (118, false))⟩,
    ⟨.load .head false 1 (.p 119), (some 120), (some (118, false))⟩,
    ⟨.bin .eql 1 true (.p 120) (.c (.int .i64 4)), (some 121), (some (118, false))⟩,
    ⟨.move .look (.p 121), (some 122), (some (118, false))⟩,
    ⟨.fieldAddr 0 (.p 7), (some 123), (some (122, true))⟩,
    ⟨.load .head false 1 (.p 123), (some 124), (some (122, true))⟩,
    ⟨.move .look (.p 6), (some 125), (some (122, true))⟩,
    ⟨.call 60 [(.p 125, false)], (some 126), (some (122, true))⟩,
    ⟨.bin .neq 2 false (.p 124) (.p 126), (some 127), (some (122, true))⟩,
    ⟨.pick (.p 122) (.p 127) (.c (.bool false)), (some 128), (some (118, false))⟩,
    ⟨.pick (.p 118) (.c (.bool true)) (.p 128), (some 129), none⟩,
    ⟨.move .look (.p 129), (some 130), none⟩,
    ⟨.fieldAddr 1 (.p 7), (some 131), (some (130, false))⟩,
    ⟨.load .look true 8 (.p 131), (some 132), (some (130, false))⟩,
    ⟨.move .look (.p 1), (some 133), (some (130, false))⟩,
    ⟨.bin .sub 1 true (.p 133) (.c (.int .i64 1)), (some 134), (some (130, false))⟩,
    ⟨.call 23 [(.p 132, false), (.p 134, false)], (some 135), (some (130, false))⟩,
    ⟨.un .not (.p 135), (some 136), (some (130, false))⟩,
    ⟨.pick (.p 130) (.c (.bool true)) (.p 136), (some 137), none⟩]
@[simp] def eq23_1 := id q23_1.eq_1
def q23_2 : List AOper :=
  [⟨.fieldAddr 7 (.p 2), (some 109), none⟩,
    ⟨.load .look false 1 (.p 109), (some 110), none⟩,
    ⟨.move .look (.p 6), (some 111), none⟩,
    ⟨.indexAddr 9 (.t 110) (.p 111), (some 112), none⟩,
    ⟨.load .take true 9 (.p 112), (some 113), none⟩,
    ⟨.newbox 7 [.str [], .int .i64 0, .str [], .str [], .int .i64 0, .int .u64 0, .int .u64 0, .slice .nil 0 1 [], .slice .nil 0 1 []], (some 7), none⟩,
    ⟨.store 9 (.p 7) (.p 113), none, none⟩]
@[simp] def eq23_2 := id q23_2.eq_1
def q23_3 : List AOper :=
  [⟨.move .look (.p 6), (some 102), none⟩,
    ⟨.fieldAddr 7 (.p 2), (some 103), none⟩,
    ⟨.load .head false 1 (.p 103), (some 104), none⟩,
    ⟨.len false (.p 104), (some 105), none⟩,
    ⟨.bin .lss 1 false (.p 102) (.p 105), (some 106), none⟩]
@[simp] def eq23_3 := id q23_3.eq_1
def q23_4 : List AOper :=
  [⟨.fieldAddr 3 (.p 2), (some 57), none⟩,
    ⟨.load .look false 1 (.p 57), (some 58), none⟩,
    ⟨.bin .geq 1 true (.p 58) (.c (.int .i64 0)), (some 59), none⟩,
    ⟨.move .look (.p 59), (some 60), none⟩,
    ⟨.fieldAddr 3 (.p 2), (some 61), (some (60, true))⟩,
    ⟨.load .look false 1 (.p 61), (some 62), (some (60, true))⟩,
    ⟨.bin .leq 1 true (.p 62) (.c (.int .i64 255)), (some 63), (some (60, true))⟩,
    ⟨.pick (.p 60) (.p 63) (.c (.bool false)), (some 64), none⟩,
    ⟨.assign (.p 64), (some 4), none⟩]
@[simp] def eq23_4 := id q23_4.eq_1
def q23_5 : List AOper :=
  [⟨.fieldAddr 6 (.p 2), (some 68), none⟩,
    ⟨.load .head false 1 (.p 68), (some 69), none⟩,
    ⟨.len false (.p 69), (some 70), none⟩,
    ⟨.bin .eql 1 true (.p 70) (.c (.int .i64 12)), (some 71), none⟩,
    ⟨.assign (.p 71), (some 4), none⟩]
@[simp] def eq23_5 := id q23_5.eq_1
def q23_6 : List AOper :=
  [⟨.fieldAddr 3 (.p 2), (some 74), none⟩,
    ⟨.load .head false 1 (.p 74), (some 75), none⟩,
    ⟨.bin .eql 1 true (.p 75) (.c (.int .i64 0)), (some 76), none⟩,
    ⟨.move .look (.p 76), (some 77), none⟩,
    ⟨.fieldAddr 3 (.p 2), (some 78), (some (77, false))⟩,
    ⟨.load .head false 1 (.p 78), (some 79), (some (77, false))⟩,
    ⟨.bin .eql 1 true (.p 79) (.c (.int .i64 1)), (some 80), (some (77, false))⟩,
    ⟨.pick (.p 77) (.c (.bool true)) (.p 80), (some 81), none⟩,
    ⟨.assign (.p 81), (some 4), none⟩]
@[simp] def eq23_6 := id q23_6.eq_1
def q23_7 : List AOper :=
  [⟨.fieldAddr 3 (.p 2), (some 84), none⟩,
    ⟨.load .look false 1 (.p 84), (some 85), none⟩,
    ⟨.bin .geq 1 true (.p 85) (.c (.int .i64 (-2147483648))), (some 86), none⟩,
    ⟨.move .look (.p 86), (some 87), none⟩,
    ⟨.fieldAddr 3 (.p 2), (some 88), (some (87, true))⟩,
    ⟨.load .look false 1 (.p 88), (some 89), (some (87, true))⟩,
    ⟨.bin .lss 1 true (.p 89) (.c (.int .i64 2147483648)), (some 90), (some (87, true))⟩,
    ⟨.pick (.p 87) (.p 90) (.c (.bool false)), (some 91), none⟩,
    ⟨.assign (.p 91), (some 4), none⟩]
@[simp] def eq23_7 := id q23_7.eq_1
def q23_8 : List AOper :=
  [⟨.fieldAddr 1 (.p 2), (some 94), none⟩,
    ⟨.load .look false 1 (.p 94), (some 95), none⟩,
    ⟨.call 5 [(.p 95, false)], (some 96), none⟩,
    ⟨.move .look (.p 96), (some 97), none⟩,
    ⟨.fieldAddr 2 (.p 2), (some 98), (some (97, true))⟩,
    ⟨.load .look false 1 (.p 98), (some 99), (some (97, true))⟩,
    ⟨.call 5 [(.p 99, false)], (some 100), (some (97, true))⟩,
    ⟨.pick (.p 97) (.p 100) (.c (.bool false)), (some 101), none⟩,
    ⟨.assign (.p 101), (some 4), none⟩]
@[simp] def eq23_8 := id q23_8.eq_1
def q23_9 : List AOper :=
  [⟨.bin .eql 1 true (.p 54) (.c (.int .i64 11)), (some 93), none⟩,
    ⟨.assign (.p 93), (some 92), none⟩]
@[simp] def eq23_9 := id q23_9.eq_1
def q23_10 : List AOper :=
  [⟨.bin .eql 1 true (.p 54) (.c (.int .i64 16)), (some 83), none⟩,
    ⟨.assign (.p 83), (some 82), none⟩]
@[simp] def eq23_10 := id q23_10.eq_1
def q23_11 : List AOper :=
  [⟨.bin .eql 1 true (.p 54) (.c (.int .i64 8)), (some 73), none⟩,
    ⟨.assign (.p 73), (some 72), none⟩]
@[simp] def eq23_11 := id q23_11.eq_1
def q23_12 : List AOper :=
  [⟨.bin .eql 1 true (.p 54) (.c (.int .i64 12)), (some 67), none⟩,
    ⟨.assign (.p 67), (some 65), none⟩]
@[simp] def eq23_12 := id q23_12.eq_1
def q23_13 : List AOper :=
  [⟨.bin .eql 1 true (.p 54) (.c (.int .i64 7)), (some 66), none⟩,
    ⟨.assign (.p 66), (some 65), none⟩]
@[simp] def eq23_13 := id q23_13.eq_1
def q23_14 : List AOper :=
  [⟨.bin .eql 1 true (.p 54) (.c (.int .i64 5)), (some 56), none⟩,
    ⟨.assign (.p 56), (some 55), none⟩]
@[simp] def eq23_14 := id q23_14.eq_1
def q23_15 : List AOper :=
  [⟨.fieldAddr 0 (.p 2), (some 53), none⟩,
    ⟨.load .head false 1 (.p 53), (some 54), none⟩]
@[simp] def eq23_15 := id q23_15.eq_1
def q23_16 : List AOper :=
  [⟨.load .look true 8 (.p 2), (some 16), none⟩,
    ⟨.call 59 [(.p 16, false)], (some 17), none⟩,
    ⟨.newbox 5 [.int .i64 0, .str [], .str [], .int .i64 0, .int .u64 0, .int .u64 0, .slice .nil 0 1 [], .slice .nil 0 1 []], (some 5), none⟩,
    ⟨.store 8 (.p 5) (.p 17), none, none⟩]
@[simp] def eq23_16 := id q23_16.eq_1
def q23_17 : List AOper :=
  [⟨.fieldAddr 0 (.p 2), (some 8), none⟩,
    ⟨.load .look false 1 (.p 8), (some 9), none⟩,
    ⟨.call 58 [(.p 9, false)], (some 10), none⟩,
    ⟨.un .not (.p 10), (some 11), none⟩,
    ⟨.move .look (.p 11), (some 12), none⟩,
    ⟨.move .head (.p 1), (some 13), (some (12, false))⟩,
    ⟨.bin .eql 1 true (.p 13) (.c (.int .i64 0)), (some 14), (some (12, false))⟩,
    ⟨.pick (.p 12) (.c (.bool true)) (.p 14), (some 15), none⟩]
@[simp] def eq23_17 := id q23_17.eq_1
def q23_18 : List AOper :=
  [⟨.box 2 (.p 0), (some 2), none⟩,
    ⟨.assign (.c (.bool false)), (some 4), none⟩]
@[simp] def eq23_18 := id q23_18.eq_1
def k23_0 : ACode :=
  .ops [⟨.assign (.c (.bool true)), (some 4), none⟩] .ret
@[simp] theorem xk23_0 : GoC fns Q s k23_0 st ↔ GoO fns Q s [⟨.assign (.c (.bool true)), (some 4), none⟩] .ret st := goC_ops
def k23_1 : ACode :=
  .ops q23_0 .skip
@[simp] theorem xk23_1 : GoC fns Q s k23_1 st ↔ GoO fns Q s q23_0 .skip st := goC_ops
def k23_2 : ACode :=
  .ops [⟨.assign (.c (.bool false)), (some 4), none⟩] .ret
@[simp] theorem xk23_2 : GoC fns Q s k23_2 st ↔ GoO fns Q s [⟨.assign (.c (.bool false)), (some 4), none⟩] .ret st := goC_ops
def k23_3 : ACode :=
  .cond (.p 137) k23_2 .skip
@[simp] theorem xk23_3 : GoC fns Q s k23_3 st ↔ GB fns Q s (peek st (.p 137)) k23_2 .skip st := goC_cond
def k23_4 : ACode :=
  .ops q23_1 k23_3
@[simp] theorem xk23_4 : GoC fns Q s k23_4 st ↔ GoO fns Q s q23_1 k23_3 st := goC_ops
def k23_5 : ACode :=
  .ops q23_2 k23_4
@[simp] theorem xk23_5 : GoC fns Q s k23_5 st ↔ GoO fns Q s q23_2 k23_4 st := goC_ops
def k23_6 : ACode :=
  .block 2 k23_5
@[simp] theorem xk23_6 : GoC fns Q s k23_6 st ↔ GoC fns Q (.bl 2 :: s) k23_5 st := goC_block
def k23_7 : ACode :=
  .seq k23_6 k23_1
@[simp] theorem xk23_7 : GoC fns Q s k23_7 st ↔ GoC fns Q (.sq k23_1 :: s) k23_6 st := goC_seq
def k23_8 : ACode :=
  .cond (.p 106) .skip (.exit 1)
@[simp] theorem xk23_8 : GoC fns Q s k23_8 st ↔ GB fns Q s (peek st (.p 106)) .skip (.exit 1) st := goC_cond
def k23_9 : ACode :=
  .seq k23_8 k23_7
@[simp] theorem xk23_9 : GoC fns Q s k23_9 st ↔ GoC fns Q (.sq k23_7 :: s) k23_8 st := goC_seq
def k23_10 : ACode :=
  .ops q23_3 k23_9
@[simp] theorem xk23_10 : GoC fns Q s k23_10 st ↔ GoO fns Q s q23_3 k23_9 st := goC_ops
def lc23_0 : ACode :=
  k23_10
@[simp] theorem xlc23_0 : GoC fns Q s lc23_0 st ↔ GoC fns Q s k23_10 st := Iff.rfl
def k23_12 : ACode :=
  .loop lc23_0
@[simp] theorem xk23_12 : GoC fns Q s k23_12 st ↔ (LoopR fns lc23_0 st fun r => GoE fns Q s r.1 r.2) := goC_loop
def k23_13 : ACode :=
  .block 1 k23_12
@[simp] theorem xk23_13 : GoC fns Q s k23_13 st ↔ GoC fns Q (.bl 1 :: s) k23_12 st := goC_block
def k23_14 : ACode :=
  .seq k23_13 k23_0
@[simp] theorem xk23_14 : GoC fns Q s k23_14 st ↔ GoC fns Q (.sq k23_0 :: s) k23_13 st := goC_seq
def k23_15 : ACode :=
  .ops [⟨.assign (.c (.int .i64 0)), (some 6), none⟩] k23_14
@[simp] theorem xk23_15 : GoC fns Q s k23_15 st ↔ GoO fns Q s [⟨.assign (.c (.int .i64 0)), (some 6), none⟩] k23_14 st := goC_ops
def k23_16 : ACode :=
  .ops q23_4 .ret
@[simp] theorem xk23_16 : GoC fns Q s k23_16 st ↔ GoO fns Q s q23_4 .ret st := goC_ops
def k23_17 : ACode :=
  .ops q23_5 .ret
@[simp] theorem xk23_17 : GoC fns Q s k23_17 st ↔ GoO fns Q s q23_5 .ret st := goC_ops
def k23_18 : ACode :=
  .ops q23_6 .ret
@[simp] theorem xk23_18 : GoC fns Q s k23_18 st ↔ GoO fns Q s q23_6 .ret st := goC_ops
def k23_19 : ACode :=
  .ops q23_7 .ret
@[simp] theorem xk23_19 : GoC fns Q s k23_19 st ↔ GoO fns Q s q23_7 .ret st := goC_ops
def k23_20 : ACode :=
  .ops q23_8 .ret
@[simp] theorem xk23_20 : GoC fns Q s k23_20 st ↔ GoO fns Q s q23_8 .ret st := goC_ops
def k23_21 : ACode :=
  .cond (.p 92) k23_20 .skip
@[simp] theorem xk23_21 : GoC fns Q s k23_21 st ↔ GB fns Q s (peek st (.p 92)) k23_20 .skip st := goC_cond
def k23_22 : ACode :=
  .ops q23_9 k23_21
@[simp] theorem xk23_22 : GoC fns Q s k23_22 st ↔ GoO fns Q s q23_9 k23_21 st := goC_ops
def k23_23 : ACode :=
  .cond (.p 82) k23_19 k23_22
@[simp] theorem xk23_23 : GoC fns Q s k23_23 st ↔ GB fns Q s (peek st (.p 82)) k23_19 k23_22 st := goC_cond
def k23_24 : ACode :=
  .ops q23_10 k23_23
@[simp] theorem xk23_24 : GoC fns Q s k23_24 st ↔ GoO fns Q s q23_10 k23_23 st := goC_ops
def k23_25 : ACode :=
  .cond (.p 72) k23_18 k23_24
@[simp] theorem xk23_25 : GoC fns Q s k23_25 st ↔ GB fns Q s (peek st (.p 72)) k23_18 k23_24 st := goC_cond
def k23_26 : ACode :=
  .ops q23_11 k23_25
@[simp] theorem xk23_26 : GoC fns Q s k23_26 st ↔ GoO fns Q s q23_11 k23_25 st := goC_ops
def k23_27 : ACode :=
  .cond (.p 65) k23_17 k23_26
@[simp] theorem xk23_27 : GoC fns Q s k23_27 st ↔ GB fns Q s (peek st (.p 65)) k23_17 k23_26 st := goC_cond
def k23_28 : ACode :=
  .ops q23_12 .skip
@[simp] theorem xk23_28 : GoC fns Q s k23_28 st ↔ GoO fns Q s q23_12 .skip st := goC_ops
def k23_29 : ACode :=
  .cond (.p 65) .skip k23_28
@[simp] theorem xk23_29 : GoC fns Q s k23_29 st ↔ GB fns Q s (peek st (.p 65)) .skip k23_28 st := goC_cond
def k23_30 : ACode :=
  .seq k23_29 k23_27
@[simp] theorem xk23_30 : GoC fns Q s k23_30 st ↔ GoC fns Q (.sq k23_27 :: s) k23_29 st := goC_seq
def k23_31 : ACode :=
  .ops q23_13 k23_30
@[simp] theorem xk23_31 : GoC fns Q s k23_31 st ↔ GoO fns Q s q23_13 k23_30 st := goC_ops
def k23_32 : ACode :=
  .cond (.p 55) k23_16 k23_31
@[simp] theorem xk23_32 : GoC fns Q s k23_32 st ↔ GB fns Q s (peek st (.p 55)) k23_16 k23_31 st := goC_cond
def k23_33 : ACode :=
  .ops q23_14 k23_32
@[simp] theorem xk23_33 : GoC fns Q s k23_33 st ↔ GoO fns Q s q23_14 k23_32 st := goC_ops
def k23_34 : ACode :=
  .block 0 k23_33
@[simp] theorem xk23_34 : GoC fns Q s k23_34 st ↔ GoC fns Q (.bl 0 :: s) k23_33 st := goC_block
def k23_35 : ACode :=
  .seq k23_34 k23_15
@[simp] theorem xk23_35 : GoC fns Q s k23_35 st ↔ GoC fns Q (.sq k23_15 :: s) k23_34 st := goC_seq
def k23_36 : ACode :=
  .ops q23_15 k23_35
@[simp] theorem xk23_36 : GoC fns Q s k23_36 st ↔ GoO fns Q s q23_15 k23_35 st := goC_ops
def k23_37 : ACode :=
  .ops [⟨.assign (.c (.bool false)), (some 4), none⟩] .ret
@[simp] theorem xk23_37 : GoC fns Q s k23_37 st ↔ GoO fns Q s [⟨.assign (.c (.bool false)), (some 4), none⟩] .ret st := goC_ops
def k23_38 : ACode :=
  .cond (.p 52) k23_37 .skip
@[simp] theorem xk23_38 : GoC fns Q s k23_38 st ↔ GB fns Q s (peek st (.p 52)) k23_37 .skip st := goC_cond
def k23_39 : ACode :=
  .seq k23_38 k23_36
@[simp] theorem xk23_39 : GoC fns Q s k23_39 st ↔ GoC fns Q (.sq k23_36 :: s) k23_38 st := goC_seq
def k23_40 : ACode :=
  .ops rg23_4 k23_39
@[simp] theorem xk23_40 : GoC fns Q s k23_40 st ↔ GoO fns Q s rg23_4 k23_39 st := goC_ops
def k23_41 : ACode :=
  .ops q23_16 k23_40
@[simp] theorem xk23_41 : GoC fns Q s k23_41 st ↔ GoO fns Q s q23_16 k23_40 st := goC_ops
def k23_42 : ACode :=
  .ops [⟨.assign (.c (.bool false)), (some 4), none⟩] .ret
@[simp] theorem xk23_42 : GoC fns Q s k23_42 st ↔ GoO fns Q s [⟨.assign (.c (.bool false)), (some 4), none⟩] .ret st := goC_ops
def k23_43 : ACode :=
  .cond (.p 15) k23_42 .skip
@[simp] theorem xk23_43 : GoC fns Q s k23_43 st ↔ GB fns Q s (peek st (.p 15)) k23_42 .skip st := goC_cond
def k23_44 : ACode :=
  .seq k23_43 k23_41
@[simp] theorem xk23_44 : GoC fns Q s k23_44 st ↔ GoC fns Q (.sq k23_41 :: s) k23_43 st := goC_seq
def k23_45 : ACode :=
  .ops q23_17 k23_44
@[simp] theorem xk23_45 : GoC fns Q s k23_45 st ↔ GoO fns Q s q23_17 k23_44 st := goC_ops
def k23_46 : ACode :=
  .ops q23_18 k23_45
@[simp] theorem xk23_46 : GoC fns Q s k23_46 st ↔ GoO fns Q s q23_18 k23_45 st := goC_ops
def af23 : AFunc := ⟨138, k23_46, [.tmp 4]⟩

theorem ok23 : ∃ hs, pFunc Try.prog sg hs Try.f23 = some af23 := ⟨fun i => 0, by kernel_rfl⟩
/-- No. 14 -/
def q14_0 : List AOper :=
  [⟨.load .look true 8 (.p 1), (some 3), none⟩,
    ⟨.call 23 [(.p 3, false), (.c (.int .i64 200), false)], (some 4), none⟩,
    ⟨.assign (.p 4), (some 2), none⟩]
@[simp] def eq14_0 := id q14_0.eq_1
def q14_1 : List AOper :=
  [⟨.box 1 (.p 0), (some 1), none⟩,
    ⟨.assign (.c (.bool false)), (some 2), none⟩]
@[simp] def eq14_1 := id q14_1.eq_1
def k14_0 : ACode :=
  .ops q14_0 .ret
@[simp] theorem xk14_0 : GoC fns Q s k14_0 st ↔ GoO fns Q s q14_0 .ret st := goC_ops
def k14_1 : ACode :=
  .ops q14_1 k14_0
@[simp] theorem xk14_1 : GoC fns Q s k14_1 st ↔ GoO fns Q s q14_1 k14_0 st := goC_ops
def af14 : AFunc := ⟨5, k14_1, [.tmp 2]⟩

theorem ok14 : ∃ hs, pFunc Try.prog sg hs Try.f14 = some af14 := ⟨fun i => 0, by kernel_rfl⟩
/-- No. 15 -/
def q15_0 : List AOper :=
  [⟨.move .take (.p 3), (some 40), none⟩,
    ⟨.assign (.p 40), (some 2), none⟩]
@[simp] def eq15_0 := id q15_0.eq_1
def q15_1 : List AOper :=
  [⟨.move .look (.p 4), (some 21), none⟩,
    ⟨.bin .add 1 true (.p 21) (.c (.int .i64 1)), (some 22), none⟩,
    ⟨.assign (.p 22), (some 4), none⟩]
@[simp] def eq15_1 := id q15_1.eq_1
def q15_2 : List AOper :=
  [⟨.move .look (.p 3), (some 23), none⟩,
    ⟨.fieldAddr 7 (.p 1), (some 24), none⟩,
    ⟨.load .look false 1 (.p 24), (some 25), none⟩,
    ⟨.move .look (.p 4), (some 26), none⟩,
    ⟨.indexAddr 9 (.t 25) (.p 26), (some 27), none⟩,
    ⟨.fieldAddr 0 (.p 27), (some 28), none⟩,
    ⟨.load .head false 1 (.p 28), (some 29), none⟩,
    ⟨.len true (.p 29), (some 30), none⟩,
    ⟨.bin .add 1 false (.p 23) (.p 30), (some 31), none⟩,
    ⟨.fieldAddr 7 (.p 1), (some 32), none⟩,
    ⟨.load .look false 1 (.p 32), (some 33), none⟩,
    ⟨.move .look (.p 4), (some 34), none⟩,
    ⟨.indexAddr 9 (.t 33) (.p 34), (some 35), none⟩,
    ⟨.fieldAddr 1 (.p 35), (some 36), none⟩,
    ⟨.load .look true 8 (.p 36), (some 37), none⟩,
    ⟨.call 15 [(.p 37, false)], (some 38), none⟩,
    ⟨.bin .add 1 false (.p 31) (.p 38), (some 39), none⟩,
    ⟨.assign (.p 39), (some 3), none⟩]
@[simp] def eq15_2 := id q15_2.eq_1
def q15_3 : List AOper :=
  [⟨.move .look (.p 4), (some 16), none⟩,
    ⟨.fieldAddr 7 (.p 1), (some 17), none⟩,
    ⟨.load .head false 1 (.p 17), (some 18), none⟩,
    ⟨.len false (.p 18), (some 19), none⟩,
    ⟨.bin .lss 1 false (.p 16) (.p 19), (some 20), none⟩]
@[simp] def eq15_3 := id q15_3.eq_1
def q15_4 : List AOper :=
  [⟨.fieldAddr 1 (.p 1), (some 5), none⟩,
    ⟨.load .head false 1 (.p 5), (some 6), none⟩,
    ⟨.len true (.p 6), (some 7), none⟩,
    ⟨.fieldAddr 2 (.p 1), (some 8), none⟩,
    ⟨.load .head false 1 (.p 8), (some 9), none⟩,
    ⟨.len true (.p 9), (some 10), none⟩,
    ⟨.bin .add 1 false (.p 7) (.p 10), (some 11), none⟩,
    ⟨.fieldAddr 6 (.p 1), (some 12), none⟩,
    ⟨.load .head false 1 (.p 12), (some 13), none⟩,
    ⟨.len false (.p 13), (some 14), none⟩,
    ⟨.bin .add 1 false (.p 11) (.p 14), (some 15), none⟩,
    ⟨.assign (.p 15), (some 3), none⟩]
@[simp] def eq15_4 := id q15_4.eq_1
def q15_5 : List AOper :=
  [⟨.box 1 (.p 0), (some 1), none⟩,
    ⟨.assign (.c (.int .i64 0)), (some 2), none⟩]
@[simp] def eq15_5 := id q15_5.eq_1
def k15_0 : ACode :=
  .ops q15_0 .ret
@[simp] theorem xk15_0 : GoC fns Q s k15_0 st ↔ GoO fns Q s q15_0 .ret st := goC_ops
def k15_1 : ACode :=
  .ops q15_1 .skip
@[simp] theorem xk15_1 : GoC fns Q s k15_1 st ↔ GoO fns Q s q15_1 .skip st := goC_ops
def k15_2 : ACode :=
  .ops q15_2 .skip
@[simp] theorem xk15_2 : GoC fns Q s k15_2 st ↔ GoO fns Q s q15_2 .skip st := goC_ops
def k15_3 : ACode :=
  .block 1 k15_2
@[simp] theorem xk15_3 : GoC fns Q s k15_3 st ↔ GoC fns Q (.bl 1 :: s) k15_2 st := goC_block
def k15_4 : ACode :=
  .seq k15_3 k15_1
@[simp] theorem xk15_4 : GoC fns Q s k15_4 st ↔ GoC fns Q (.sq k15_1 :: s) k15_3 st := goC_seq
def k15_5 : ACode :=
  .cond (.p 20) .skip (.exit 0)
@[simp] theorem xk15_5 : GoC fns Q s k15_5 st ↔ GB fns Q s (peek st (.p 20)) .skip (.exit 0) st := goC_cond
def k15_6 : ACode :=
  .seq k15_5 k15_4
@[simp] theorem xk15_6 : GoC fns Q s k15_6 st ↔ GoC fns Q (.sq k15_4 :: s) k15_5 st := goC_seq
def k15_7 : ACode :=
  .ops q15_3 k15_6
@[simp] theorem xk15_7 : GoC fns Q s k15_7 st ↔ GoO fns Q s q15_3 k15_6 st := goC_ops
def lc15_0 : ACode :=
  k15_7
@[simp] theorem xlc15_0 : GoC fns Q s lc15_0 st ↔ GoC fns Q s k15_7 st := Iff.rfl
def k15_9 : ACode :=
  .loop lc15_0
@[simp] theorem xk15_9 : GoC fns Q s k15_9 st ↔ (LoopR fns lc15_0 st fun r => GoE fns Q s r.1 r.2) := goC_loop
def k15_10 : ACode :=
  .block 0 k15_9
@[simp] theorem xk15_10 : GoC fns Q s k15_10 st ↔ GoC fns Q (.bl 0 :: s) k15_9 st := goC_block
def k15_11 : ACode :=
  .seq k15_10 k15_0
@[simp] theorem xk15_11 : GoC fns Q s k15_11 st ↔ GoC fns Q (.sq k15_0 :: s) k15_10 st := goC_seq
def k15_12 : ACode :=
  .ops [⟨.assign (.c (.int .i64 0)), (some 4), none⟩] k15_11
@[simp] theorem xk15_12 : GoC fns Q s k15_12 st ↔ GoO fns Q s [⟨.assign (.c (.int .i64 0)), (some 4), none⟩] k15_11 st := goC_ops
def k15_13 : ACode :=
  .ops q15_4 k15_12
@[simp] theorem xk15_13 : GoC fns Q s k15_13 st ↔ GoO fns Q s q15_4 k15_12 st := goC_ops
def k15_14 : ACode :=
  .ops q15_5 k15_13
@[simp] theorem xk15_14 : GoC fns Q s k15_14 st ↔ GoO fns Q s q15_5 k15_13 st := goC_ops
def af15 : AFunc := ⟨41, k15_14, [.tmp 2]⟩

theorem ok15 : ∃ hs, pFunc Try.prog sg hs Try.f15 = some af15 := ⟨fun i => 0, by kernel_rfl⟩
/-- No. 6 -/
def q6_0 : List AOper :=
  [⟨.load .look true 8 (.p 1), (some 3), none⟩,
    ⟨.call 13 [(.p 3, false), (.c (.int .i64 300), false)], (some 4), none⟩,
    ⟨.bin .leq 1 true (.p 4) (.c (.int .i64 300)), (some 5), none⟩,
    ⟨.move .look (.p 5), (some 6), none⟩,
    ⟨.load .look true 8 (.p 1), (some 7), (some (6, true))⟩,
    ⟨.call 14 [(.p 7, false)], (some 8), (some (6, true))⟩,
    ⟨.pick (.p 6) (.p 8) (.c (.bool false)), (some 9), none⟩,
    ⟨.move .look (.p 9), (some 10), none⟩,
    ⟨.load .look true 8 (.p 1), (some 11), (some (10, true))⟩,
    ⟨.call 15 [(.p 11, false)], (some 12), (some (10, true))⟩,
    ⟨.bin .leq 1 true (.p 12) (.c (.int .i64 5000)), (some 13), (some (10, true))⟩,
    ⟨.pick (.p 10) (.p 13) (.c (.bool false)), (some 14), none⟩,
    ⟨.assign (.p 14), (some 2), none⟩]
@[simp] def eq6_0 := id q6_0.eq_1
def q6_1 : List AOper :=
  [⟨.box 1 (.p 0), (some 1), none⟩,
    ⟨.assign (.c (.bool false)), (some 2), none⟩]
@[simp] def eq6_1 := id q6_1.eq_1
def k6_0 : ACode :=
  .ops q6_0 .ret
@[simp] theorem xk6_0 : GoC fns Q s k6_0 st ↔ GoO fns Q s q6_0 .ret st := goC_ops
def k6_1 : ACode :=
  .ops q6_1 k6_0
@[simp] theorem xk6_1 : GoC fns Q s k6_1 st ↔ GoO fns Q s q6_1 k6_0 st := goC_ops
def af6 : AFunc := ⟨15, k6_1, [.tmp 2]⟩

theorem ok6 : ∃ hs, pFunc Try.prog sg hs Try.f6 = some af6 := ⟨fun i => 0, by kernel_rfl⟩
/-- No. 16 -/
def q16_0 : List AOper :=
  [⟨.move .take (.t 5), (some 11), none⟩,
    ⟨.buildSl 5 1 [.int .u8 0] [(0, 1, .c (.int .u8 0))], (some 12), none⟩,
    ⟨.append 5 1 1 false (.t 11) (.p 12), (some 13), none⟩,
    ⟨.assign (.t 13), (some 4), none⟩]
@[simp] def eq16_0 := id q16_0.eq_1
def q16_1 : List AOper :=
  [⟨.move .look (.p 0), (some 6), none⟩,
    ⟨.convInt .u8 (.p 6), (some 7), none⟩,
    ⟨.buildSl 5 1 [.int .u8 0] [(0, 1, .p 7)], (some 8), none⟩,
    ⟨.move .look (.p 1), (some 9), none⟩,
    ⟨.append 5 1 1 true (.t 8) (.p 9), (some 10), none⟩,
    ⟨.assign (.t 10), (some 5), none⟩]
@[simp] def eq16_1 := id q16_1.eq_1
def k16_0 : ACode :=
  .ops q16_0 .ret
@[simp] theorem xk16_0 : GoC fns Q s k16_0 st ↔ GoO fns Q s q16_0 .ret st := goC_ops
def k16_1 : ACode :=
  .ops q16_1 k16_0
@[simp] theorem xk16_1 : GoC fns Q s k16_1 st ↔ GoO fns Q s q16_1 k16_0 st := goC_ops
def k16_2 : ACode :=
  .ops [⟨.assign (.c (.slice .nil 0 1 [])), (some 4), none⟩] k16_1
@[simp] theorem xk16_2 : GoC fns Q s k16_2 st ↔ GoO fns Q s [⟨.assign (.c (.slice .nil 0 1 [])), (some 4), none⟩] k16_1 st := goC_ops
def af16 : AFunc := ⟨14, k16_2, [.tmp 4]⟩

theorem ok16 : ∃ hs, pFunc Try.prog sg hs Try.f16 = some af16 := ⟨fun i => 0, by kernel_rfl⟩
/-- No. 24 -/
def q24_0 : List AOper :=
  [⟨.move .take (.t 0), (some 17), none⟩,
    ⟨.assign (.t 17), (some 4), none⟩]
@[simp] def eq24_0 := id q24_0.eq_1
def q24_1 : List AOper :=
  [⟨.move .look (.p 5), (some 8), none⟩,
    ⟨.bin .add 1 true (.p 8) (.c (.int .i64 8)), (some 9), none⟩,
    ⟨.assign (.p 9), (some 5), none⟩]
@[simp] def eq24_1 := id q24_1.eq_1
def q24_2 : List AOper :=
  [⟨.move .take (.t 0), (some 10), none⟩,
    ⟨.move .look (.p 1), (some 11), none⟩,
    ⟨.move .look (.p 5), (some 12), none⟩,
    ⟨.bin .shr 1 false (.p 11) (.p 12), (some 13), none⟩,
    ⟨.convInt .u8 (.p 13), (some 14), none⟩,
    ⟨.buildSl 5 1 [.int .u8 0] [(0, 1, .p 14)], (some 15), none⟩,
    ⟨.append 5 1 1 false (.t 10) (.p 15), (some 16), none⟩,
    ⟨.assign (.t 16), (some 0), none⟩]
@[simp] def eq24_2 := id q24_2.eq_1
def q24_3 : List AOper :=
  [⟨.move .look (.p 5), (some 6), none⟩,
    ⟨.bin .lss 1 true (.p 6) (.c (.int .i64 64)), (some 7), none⟩]
@[simp] def eq24_3 := id q24_3.eq_1
def k24_0 : ACode :=
  .ops q24_0 .ret
@[simp] theorem xk24_0 : GoC fns Q s k24_0 st ↔ GoO fns Q s q24_0 .ret st := goC_ops
def k24_1 : ACode :=
  .ops q24_1 .skip
@[simp] theorem xk24_1 : GoC fns Q s k24_1 st ↔ GoO fns Q s q24_1 .skip st := goC_ops
def k24_2 : ACode :=
  .ops q24_2 .skip
@[simp] theorem xk24_2 : GoC fns Q s k24_2 st ↔ GoO fns Q s q24_2 .skip st := goC_ops
def k24_3 : ACode :=
  .block 1 k24_2
@[simp] theorem xk24_3 : GoC fns Q s k24_3 st ↔ GoC fns Q (.bl 1 :: s) k24_2 st := goC_block
def k24_4 : ACode :=
  .seq k24_3 k24_1
@[simp] theorem xk24_4 : GoC fns Q s k24_4 st ↔ GoC fns Q (.sq k24_1 :: s) k24_3 st := goC_seq
def k24_5 : ACode :=
  .cond (.p 7) .skip (.exit 0)
@[simp] theorem xk24_5 : GoC fns Q s k24_5 st ↔ GB fns Q s (peek st (.p 7)) .skip (.exit 0) st := goC_cond
def k24_6 : ACode :=
  .seq k24_5 k24_4
@[simp] theorem xk24_6 : GoC fns Q s k24_6 st ↔ GoC fns Q (.sq k24_4 :: s) k24_5 st := goC_seq
def k24_7 : ACode :=
  .ops q24_3 k24_6
@[simp] theorem xk24_7 : GoC fns Q s k24_7 st ↔ GoO fns Q s q24_3 k24_6 st := goC_ops
def lc24_0 : ACode :=
  k24_7
@[simp] theorem xlc24_0 : GoC fns Q s lc24_0 st ↔ GoC fns Q s k24_7 st := Iff.rfl
def k24_9 : ACode :=
  .loop lc24_0
@[simp] theorem xk24_9 : GoC fns Q s k24_9 st ↔ (LoopR fns lc24_0 st fun r => GoE fns Q s r.1 r.2) := goC_loop
def k24_10 : ACode :=
  .block 0 k24_9
@[simp] theorem xk24_10 : GoC fns Q s k24_10 st ↔ GoC fns Q (.bl 0 :: s) k24_9 st := goC_block
def k24_11 : ACode :=
  .seq k24_10 k24_0
@[simp] theorem xk24_11 : GoC fns Q s k24_11 st ↔ GoC fns Q (.sq k24_0 :: s) k24_10 st := goC_seq
def k24_12 : ACode :=
  .ops [⟨.assign (.c (.int .i64 0)), (some 5), none⟩] k24_11
@[simp] theorem xk24_12 : GoC fns Q s k24_12 st ↔ GoO fns Q s [⟨.assign (.c (.int .i64 0)), (some 5), none⟩] k24_11 st := goC_ops
def k24_13 : ACode :=
  .ops [⟨.assign (.c (.slice .nil 0 1 [])), (some 4), none⟩] k24_12
@[simp] theorem xk24_13 : GoC fns Q s k24_13 st ↔ GoO fns Q s [⟨.assign (.c (.slice .nil 0 1 [])), (some 4), none⟩] k24_12 st := goC_ops
def af24 : AFunc := ⟨18, k24_13, [.tmp 4]⟩

theorem ok24 : ∃ hs, pFunc Try.prog sg hs Try.f24 = some af24 := ⟨fun i => 0, by kernel_rfl⟩
/-- No. 27 -/
def q27_0 : List AOper :=
  [⟨.move .take (.t 0), (some 5), none⟩,
    ⟨.move .look (.p 1), (some 6), none⟩,
    ⟨.convInt .u8 (.p 6), (some 7), none⟩,
    ⟨.move .look (.p 1), (some 8), none⟩,
    ⟨.bin .shr 1 true (.p 8) (.c (.int .u64 8)), (some 9), none⟩,
    ⟨.convInt .u8 (.p 9), (some 10), none⟩,
    ⟨.move .look (.p 1), (some 11), none⟩,
    ⟨.bin .shr 1 true (.p 11) (.c (.int .u64 16)), (some 12), none⟩,
    ⟨.convInt .u8 (.p 12), (some 13), none⟩,
    ⟨.move .look (.p 1), (some 14), none⟩,
    ⟨.bin .shr 1 true (.p 14) (.c (.int .u64 24)), (some 15), none⟩,
    ⟨.convInt .u8 (.p 15), (some 16), none⟩,
    ⟨.buildSl 5 1 [.int .u8 0, .int .u8 0, .int .u8 0, .int .u8 0] [(0, 1, .p 7), (1, 1, .p 10), (2, 1, .p 13), (3, 1, .p 16)], (some 17), none⟩,
    ⟨.append 5 1 1 false (.t 5) (.p 17), (some 18), none⟩,
    ⟨.assign (.t 18), (some 4), none⟩]
@[simp] def eq27_0 := id q27_0.eq_1
def k27_0 : ACode :=
  .ops q27_0 .ret
@[simp] theorem xk27_0 : GoC fns Q s k27_0 st ↔ GoO fns Q s q27_0 .ret st := goC_ops
def k27_1 : ACode :=
  .ops [⟨.assign (.c (.slice .nil 0 1 [])), (some 4), none⟩] k27_0
@[simp] theorem xk27_1 : GoC fns Q s k27_1 st ↔ GoO fns Q s [⟨.assign (.c (.slice .nil 0 1 [])), (some 4), none⟩] k27_0 st := goC_ops
def af27 : AFunc := ⟨19, k27_1, [.tmp 4]⟩

theorem ok27 : ∃ hs, pFunc Try.prog sg hs Try.f27 = some af27 := ⟨fun i => 0, by kernel_rfl⟩
/-- No. 25 -/
def q25_0 : List AOper :=
  [⟨.move .take (.t 0), (some 13), none⟩,
    ⟨.buildSl 5 1 [.int .u8 0] [(0, 1, .c (.int .u8 0))], (some 14), none⟩,
    ⟨.append 5 1 1 false (.t 13) (.p 14), (some 15), none⟩,
    ⟨.assign (.t 15), (some 4), none⟩]
@[simp] def eq25_0 := id q25_0.eq_1
def q25_1 : List AOper :=
  [⟨.move .take (.t 0), (some 10), none⟩,
    ⟨.move .look (.p 1), (some 11), none⟩,
    ⟨.append 5 1 1 true (.t 10) (.p 11), (some 12), none⟩,
    ⟨.assign (.t 12), (some 0), none⟩]
@[simp] def eq25_1 := id q25_1.eq_1
def q25_2 : List AOper :=
  [⟨.move .take (.t 0), (some 5), none⟩,
    ⟨.move .head (.p 1), (some 6), none⟩,
    ⟨.len true (.p 6), (some 7), none⟩,
    ⟨.bin .add 1 true (.p 7) (.c (.int .i64 1)), (some 8), none⟩,
    ⟨.call 27 [(.t 5, true), (.p 8, false)], (some 9), none⟩,
    ⟨.assign (.t 9), (some 0), none⟩]
@[simp] def eq25_2 := id q25_2.eq_1
def k25_0 : ACode :=
  .ops q25_0 .ret
@[simp] theorem xk25_0 : GoC fns Q s k25_0 st ↔ GoO fns Q s q25_0 .ret st := goC_ops
def k25_1 : ACode :=
  .ops q25_1 k25_0
@[simp] theorem xk25_1 : GoC fns Q s k25_1 st ↔ GoO fns Q s q25_1 k25_0 st := goC_ops
def k25_2 : ACode :=
  .ops q25_2 k25_1
@[simp] theorem xk25_2 : GoC fns Q s k25_2 st ↔ GoO fns Q s q25_2 k25_1 st := goC_ops
def k25_3 : ACode :=
  .ops [⟨.assign (.c (.slice .nil 0 1 [])), (some 4), none⟩] k25_2
@[simp] theorem xk25_3 : GoC fns Q s k25_3 st ↔ GoO fns Q s [⟨.assign (.c (.slice .nil 0 1 [])), (some 4), none⟩] k25_2 st := goC_ops
def af25 : AFunc := ⟨16, k25_3, [.tmp 4]⟩

theorem ok25 : ∃ hs, pFunc Try.prog sg hs Try.f25 = some af25 := ⟨fun i => 0, by kernel_rfl⟩
/-- No. 26 -/
def q26_0 : List AOper :=
  [⟨.move .take (.t 5), (some 26), none⟩,
    ⟨.buildSl 5 1 [.int .u8 0] [(0, 1, .c (.int .u8 0))], (some 27), none⟩,
    ⟨.append 5 1 1 false (.t 26) (.p 27), (some 28), none⟩,
    ⟨.assign (.t 28), (some 2), none⟩]
@[simp] def eq26_0 := id q26_0.eq_1
def q26_1 : List AOper :=
  [⟨.move .take (.t 5), (some 23), none⟩,
    ⟨.move .look (.t 3), (some 24), none⟩,
    ⟨.append 5 1 1 false (.t 23) (.p 24), (some 25), none⟩,
    ⟨.assign (.t 25), (some 5), none⟩]
@[simp] def eq26_1 := id q26_1.eq_1
def q26_2 : List AOper :=
  [⟨.move .head (.t 3), (some 19), none⟩,
    ⟨.len false (.p 19), (some 20), none⟩,
    ⟨.bin .add 1 true (.p 20) (.c (.int .i64 5)), (some 21), none⟩,
    ⟨.call 27 [(.c (.slice .nil 0 1 []), true), (.p 21, false)], (some 22), none⟩,
    ⟨.assign (.t 22), (some 5), none⟩]
@[simp] def eq26_2 := id q26_2.eq_1
def q26_3 : List AOper :=
  [⟨.move .look (.p 4), (some 10), none⟩,
    ⟨.bin .add 1 true (.p 10) (.c (.int .i64 1)), (some 11), none⟩,
    ⟨.assign (.p 11), (some 4), none⟩]
@[simp] def eq26_3 := id q26_3.eq_1
def q26_4 : List AOper :=
  [⟨.move .take (.t 3), (some 12), none⟩,
    ⟨.move .look (.t 0), (some 13), none⟩,
    ⟨.move .look (.p 4), (some 14), none⟩,
    ⟨.indexAddr 9 (.t 13) (.p 14), (some 15), none⟩,
    ⟨.load .look true 9 (.p 15), (some 16), none⟩,
    ⟨.call 7 [(.p 16, false)], (some 17), none⟩,
    ⟨.append 5 1 1 false (.t 12) (.p 17), (some 18), none⟩,
    ⟨.assign (.t 18), (some 3), none⟩]
@[simp] def eq26_4 := id q26_4.eq_1
def q26_5 : List AOper :=
  [⟨.move .look (.p 4), (some 6), none⟩,
    ⟨.move .head (.t 0), (some 7), none⟩,
    ⟨.len false (.p 7), (some 8), none⟩,
    ⟨.bin .lss 1 false (.p 6) (.p 8), (some 9), none⟩]
@[simp] def eq26_5 := id q26_5.eq_1
def k26_0 : ACode :=
  .ops q26_0 .ret
@[simp] theorem xk26_0 : GoC fns Q s k26_0 st ↔ GoO fns Q s q26_0 .ret st := goC_ops
def k26_1 : ACode :=
  .ops q26_1 k26_0
@[simp] theorem xk26_1 : GoC fns Q s k26_1 st ↔ GoO fns Q s q26_1 k26_0 st := goC_ops
def k26_2 : ACode :=
  .ops q26_2 k26_1
@[simp] theorem xk26_2 : GoC fns Q s k26_2 st ↔ GoO fns Q s q26_2 k26_1 st := goC_ops
def k26_3 : ACode :=
  .ops q26_3 .skip
@[simp] theorem xk26_3 : GoC fns Q s k26_3 st ↔ GoO fns Q s q26_3 .skip st := goC_ops
def k26_4 : ACode :=
  .ops q26_4 .skip
@[simp] theorem xk26_4 : GoC fns Q s k26_4 st ↔ GoO fns Q s q26_4 .skip st := goC_ops
def k26_5 : ACode :=
  .block 1 k26_4
@[simp] theorem xk26_5 : GoC fns Q s k26_5 st ↔ GoC fns Q (.bl 1 :: s) k26_4 st := goC_block
def k26_6 : ACode :=
  .seq k26_5 k26_3
@[simp] theorem xk26_6 : GoC fns Q s k26_6 st ↔ GoC fns Q (.sq k26_3 :: s) k26_5 st := goC_seq
def k26_7 : ACode :=
  .cond (.p 9) .skip (.exit 0)
@[simp] theorem xk26_7 : GoC fns Q s k26_7 st ↔ GB fns Q s (peek st (.p 9)) .skip (.exit 0) st := goC_cond
def k26_8 : ACode :=
  .seq k26_7 k26_6
@[simp] theorem xk26_8 : GoC fns Q s k26_8 st ↔ GoC fns Q (.sq k26_6 :: s) k26_7 st := goC_seq
def k26_9 : ACode :=
  .ops q26_5 k26_8
@[simp] theorem xk26_9 : GoC fns Q s k26_9 st ↔ GoO fns Q s q26_5 k26_8 st := goC_ops
def lc26_0 : ACode :=
  k26_9
@[simp] theorem xlc26_0 : GoC fns Q s lc26_0 st ↔ GoC fns Q s k26_9 st := Iff.rfl
def k26_11 : ACode :=
  .loop lc26_0
@[simp] theorem xk26_11 : GoC fns Q s k26_11 st ↔ (LoopR fns lc26_0 st fun r => GoE fns Q s r.1 r.2) := goC_loop
def k26_12 : ACode :=
  .block 0 k26_11
@[simp] theorem xk26_12 : GoC fns Q s k26_12 st ↔ GoC fns Q (.bl 0 :: s) k26_11 st := goC_block
def k26_13 : ACode :=
  .seq k26_12 k26_2
@[simp] theorem xk26_13 : GoC fns Q s k26_13 st ↔ GoC fns Q (.sq k26_2 :: s) k26_12 st := goC_seq
def k26_14 : ACode :=
  .ops [⟨.assign (.c (.int .i64 0)), (some 4), none⟩] k26_13
@[simp] theorem xk26_14 : GoC fns Q s k26_14 st ↔ GoO fns Q s [⟨.assign (.c (.int .i64 0)), (some 4), none⟩] k26_13 st := goC_ops
def k26_15 : ACode :=
  .ops [⟨.assign (.c (.slice .nil 0 1 [])), (some 3), none⟩] k26_14
@[simp] theorem xk26_15 : GoC fns Q s k26_15 st ↔ GoO fns Q s [⟨.assign (.c (.slice .nil 0 1 [])), (some 3), none⟩] k26_14 st := goC_ops
def k26_16 : ACode :=
  .ops [⟨.assign (.c (.slice .nil 0 1 [])), (some 2), none⟩] k26_15
@[simp] theorem xk26_16 : GoC fns Q s k26_16 st ↔ GoO fns Q s [⟨.assign (.c (.slice .nil 0 1 [])), (some 2), none⟩] k26_15 st := goC_ops
def af26 : AFunc := ⟨29, k26_16, [.tmp 2]⟩

theorem ok26 : ∃ hs, pFunc Try.prog sg hs Try.f26 = some af26 := ⟨fun i => 0, by kernel_rfl⟩
/-- No. 17 -/
def q17_0 : List AOper :=
  [⟨.move .take (.t 3), (some 147), none⟩,
    ⟨.assign (.t 147), (some 2), none⟩]
@[simp] def eq17_0 := id q17_0.eq_1
def q17_1 : List AOper :=
  [⟨.move .take (.t 3), (some 12), none⟩,
    ⟨.fieldAddr 4 (.p 1), (some 13), none⟩,
    ⟨.load .look false 1 (.p 13), (some 14), none⟩,
    ⟨.call 24 [(.t 12, true), (.p 14, false)], (some 15), none⟩,
    ⟨.assign (.t 15), (some 3), none⟩]
@[simp] def eq17_1 := id q17_1.eq_1
def q17_2 : List AOper :=
  [⟨.move .take (.t 3), (some 20), none⟩,
    ⟨.fieldAddr 1 (.p 1), (some 21), none⟩,
    ⟨.load .look false 1 (.p 21), (some 22), none⟩,
    ⟨.call 25 [(.t 20, true), (.p 22, false)], (some 23), none⟩,
    ⟨.assign (.t 23), (some 3), none⟩]
@[simp] def eq17_2 := id q17_2.eq_1
def q17_3 : List AOper :=
  [⟨.fieldAddr 7 (.p 1), (some 27), none⟩,
    ⟨.load .look false 1 (.p 27), (some 28), none⟩,
    ⟨.call 26 [(.t 28, false)], (some 29), none⟩,
    ⟨.assign (.t 29), (some 3), none⟩]
@[simp] def eq17_3 := id q17_3.eq_1
def q17_4 : List AOper :=
  [⟨.move .take (.t 3), (some 57), none⟩,
    ⟨.fieldAddr 6 (.p 1), (some 58), none⟩,
    ⟨.load .look false 1 (.p 58), (some 59), none⟩,
    ⟨.append 5 1 1 false (.t 57) (.p 59), (some 60), none⟩,
    ⟨.assign (.t 60), (some 3), none⟩]
@[simp] def eq17_4 := id q17_4.eq_1
def q17_5 : List AOper :=
  [⟨.move .take (.t 3), (some 45), none⟩,
    ⟨.move .look (.p 4), (some 46), none⟩,
    ⟨.call 27 [(.t 45, true), (.p 46, false)], (some 47), none⟩,
    ⟨.assign (.t 47), (some 3), none⟩]
@[simp] def eq17_5 := id q17_5.eq_1
def q17_6 : List AOper :=
  [⟨.move .take (.t 3), (some 42), none⟩,
    ⟨.buildSl 5 1 [.int .u8 0] [(0, 1, .c (.int .u8 2))], (some 43), none⟩,
    ⟨.append 5 1 1 false (.t 42) (.p 43), (some 44), none⟩,
    ⟨.assign (.t 44), (some 3), none⟩]
@[simp] def eq17_6 := id q17_6.eq_1
def q17_7 : List AOper :=
  [⟨.move .take (.t 3), (some 38), none⟩,
    ⟨.move .look (.p 4), (some 39), none⟩,
    ⟨.bin .add 1 true (.p 39) (.c (.int .i64 4)), (some 40), none⟩,
    ⟨.call 27 [(.t 38, true), (.p 40, false)], (some 41), none⟩,
    ⟨.assign (.t 41), (some 3), none⟩]
@[simp] def eq17_7 := id q17_7.eq_1
def q17_8 : List AOper :=
  [⟨.move .take (.t 3), (some 51), none⟩,
    ⟨.fieldAddr 3 (.p 1), (some 52), none⟩,
    ⟨.load .look false 1 (.p 52), (some 53), none⟩,
    ⟨.convInt .u8 (.p 53), (some 54), none⟩,
    ⟨.buildSl 5 1 [.int .u8 0] [(0, 1, .p 54)], (some 55), none⟩,
    ⟨.append 5 1 1 false (.t 51) (.p 55), (some 56), none⟩,
    ⟨.assign (.t 56), (some 3), none⟩]
@[simp] def eq17_8 := id q17_8.eq_1
def q17_9 : List AOper :=
  [⟨.move .take (.t 3), (some 48), none⟩,
    ⟨.move .look (.p 4), (some 49), none⟩,
    ⟨.call 27 [(.t 48, true), (.p 49, false)], (some 50), none⟩,
    ⟨.assign (.t 50), (some 3), none⟩]
@[simp] def eq17_9 := id q17_9.eq_1
def q17_10 : List AOper :=
  [⟨.fieldAddr 3 (.p 1), (some 35), none⟩,
    ⟨.load .head false 1 (.p 35), (some 36), none⟩,
    ⟨.bin .eql 1 true (.p 36) (.c (.int .i64 2)), (some 37), none⟩]
@[simp] def eq17_10 := id q17_10.eq_1
def q17_11 : List AOper :=
  [⟨.fieldAddr 6 (.p 1), (some 32), none⟩,
    ⟨.load .head false 1 (.p 32), (some 33), none⟩,
    ⟨.len false (.p 33), (some 34), none⟩,
    ⟨.assign (.p 34), (some 4), none⟩]
@[simp] def eq17_11 := id q17_11.eq_1
def q17_12 : List AOper :=
  [⟨.move .take (.t 3), (some 63), none⟩,
    ⟨.fieldAddr 6 (.p 1), (some 64), none⟩,
    ⟨.load .look false 1 (.p 64), (some 65), none⟩,
    ⟨.append 5 1 1 false (.t 63) (.p 65), (some 66), none⟩,
    ⟨.assign (.t 66), (some 3), none⟩]
@[simp] def eq17_12 := id q17_12.eq_1
def q17_13 : List AOper :=
  [⟨.move .take (.t 3), (some 69), none⟩,
    ⟨.fieldAddr 3 (.p 1), (some 70), none⟩,
    ⟨.load .look false 1 (.p 70), (some 71), none⟩,
    ⟨.convInt .u8 (.p 71), (some 72), none⟩,
    ⟨.buildSl 5 1 [.int .u8 0] [(0, 1, .p 72)], (some 73), none⟩,
    ⟨.append 5 1 1 false (.t 69) (.p 73), (some 74), none⟩,
    ⟨.assign (.t 74), (some 3), none⟩]
@[simp] def eq17_13 := id q17_13.eq_1
def q17_14 : List AOper :=
  [⟨.move .take (.t 3), (some 78), none⟩,
    ⟨.fieldAddr 3 (.p 1), (some 79), none⟩,
    ⟨.load .look false 1 (.p 79), (some 80), none⟩,
    ⟨.convInt .u64 (.p 80), (some 81), none⟩,
    ⟨.call 24 [(.t 78, true), (.p 81, false)], (some 82), none⟩,
    ⟨.assign (.t 82), (some 3), none⟩]
@[simp] def eq17_14 := id q17_14.eq_1
def q17_15 : List AOper :=
  [⟨.move .take (.t 3), (some 85), none⟩,
    ⟨.fieldAddr 3 (.p 1), (some 86), none⟩,
    ⟨.load .look false 1 (.p 86), (some 87), none⟩,
    ⟨.call 27 [(.t 85, true), (.p 87, false)], (some 88), none⟩,
    ⟨.assign (.t 88), (some 3), none⟩]
@[simp] def eq17_15 := id q17_15.eq_1
def q17_16 : List AOper :=
  [⟨.move .take (.t 3), (some 102), none⟩,
    ⟨.buildSl 5 1 [.int .u8 0] [(0, 1, .c (.int .u8 0))], (some 103), none⟩,
    ⟨.append 5 1 1 false (.t 102) (.p 103), (some 104), none⟩,
    ⟨.assign (.t 104), (some 3), none⟩]
@[simp] def eq17_16 := id q17_16.eq_1
def q17_17 : List AOper :=
  [⟨.move .take (.t 3), (some 98), none⟩,
    ⟨.fieldAddr 2 (.p 1), (some 99), none⟩,
    ⟨.load .look false 1 (.p 99), (some 100), none⟩,
    ⟨.append 5 1 1 true (.t 98) (.p 100), (some 101), none⟩,
    ⟨.assign (.t 101), (some 3), none⟩]
@[simp] def eq17_17 := id q17_17.eq_1
def q17_18 : List AOper :=
  [⟨.move .take (.t 3), (some 95), none⟩,
    ⟨.buildSl 5 1 [.int .u8 0] [(0, 1, .c (.int .u8 0))], (some 96), none⟩,
    ⟨.append 5 1 1 false (.t 95) (.p 96), (some 97), none⟩,
    ⟨.assign (.t 97), (some 3), none⟩]
@[simp] def eq17_18 := id q17_18.eq_1
def q17_19 : List AOper :=
  [⟨.move .take (.t 3), (some 91), none⟩,
    ⟨.fieldAddr 1 (.p 1), (some 92), none⟩,
    ⟨.load .look false 1 (.p 92), (some 93), none⟩,
    ⟨.append 5 1 1 true (.t 91) (.p 93), (some 94), none⟩,
    ⟨.assign (.t 94), (some 3), none⟩]
@[simp] def eq17_19 := id q17_19.eq_1
def q17_20 : List AOper :=
  [⟨.move .take (.t 3), (some 111), none⟩,
    ⟨.fieldAddr 6 (.p 1), (some 112), none⟩,
    ⟨.load .look false 1 (.p 112), (some 113), none⟩,
    ⟨.append 5 1 1 false (.t 111) (.p 113), (some 114), none⟩,
    ⟨.assign (.t 114), (some 3), none⟩]
@[simp] def eq17_20 := id q17_20.eq_1
def q17_21 : List AOper :=
  [⟨.move .take (.t 3), (some 107), none⟩,
    ⟨.fieldAddr 1 (.p 1), (some 108), none⟩,
    ⟨.load .look false 1 (.p 108), (some 109), none⟩,
    ⟨.call 25 [(.t 107, true), (.p 109, false)], (some 110), none⟩,
    ⟨.assign (.t 110), (some 3), none⟩]
@[simp] def eq17_21 := id q17_21.eq_1
def q17_22 : List AOper :=
  [⟨.move .take (.t 3), (some 134), none⟩,
    ⟨.move .look (.t 6), (some 135), none⟩,
    ⟨.append 5 1 1 false (.t 134) (.p 135), (some 136), none⟩,
    ⟨.assign (.t 136), (some 3), none⟩]
@[simp] def eq17_22 := id q17_22.eq_1
def q17_23 : List AOper :=
  [⟨.move .take (.t 3), (some 131), none⟩,
    ⟨.move .look (.t 5), (some 132), none⟩,
    ⟨.append 5 1 1 false (.t 131) (.p 132), (some 133), none⟩,
    ⟨.assign (.t 133), (some 3), none⟩]
@[simp] def eq17_23 := id q17_23.eq_1
def q17_24 : List AOper :=
  [⟨.move .take (.t 3), (some 123), none⟩,
    ⟨.move .head (.t 5), (some 124), none⟩,
    ⟨.len false (.p 124), (some 125), none⟩,
    ⟨.bin .add 1 true (.c (.int .i64 4)) (.p 125), (some 126), none⟩,
    ⟨.move .head (.t 6), (some 127), none⟩,
    ⟨.len false (.p 127), (some 128), none⟩,
    ⟨.bin .add 1 false (.p 126) (.p 128), (some 129), none⟩,
    ⟨.call 27 [(.t 123, true), (.p 129, false)], (some 130), none⟩,
    ⟨.assign (.t 130), (some 3), none⟩]
@[simp] def eq17_24 := id q17_24.eq_1
def q17_25 : List AOper :=
  [⟨.fieldAddr 7 (.p 1), (some 120), none⟩,
    ⟨.load .look false 1 (.p 120), (some 121), none⟩,
    ⟨.call 26 [(.t 121, false)], (some 122), none⟩,
    ⟨.assign (.t 122), (some 6), none⟩]
@[simp] def eq17_25 := id q17_25.eq_1
def q17_26 : List AOper :=
  [⟨.fieldAddr 1 (.p 1), (some 117), none⟩,
    ⟨.load .look false 1 (.p 117), (some 118), none⟩,
    ⟨.call 25 [(.c (.slice .nil 0 1 []), true), (.p 118, false)], (some 119), none⟩,
    ⟨.assign (.t 119), (some 5), none⟩]
@[simp] def eq17_26 := id q17_26.eq_1
def q17_27 : List AOper :=
  [⟨.move .take (.t 3), (some 143), none⟩,
    ⟨.fieldAddr 5 (.p 1), (some 144), none⟩,
    ⟨.load .look false 1 (.p 144), (some 145), none⟩,
    ⟨.call 24 [(.t 143, true), (.p 145, false)], (some 146), none⟩,
    ⟨.assign (.t 146), (some 3), none⟩]
@[simp] def eq17_27 := id q17_27.eq_1
def q17_28 : List AOper :=
  [⟨.move .take (.t 3), (some 139), none⟩,
    ⟨.fieldAddr 4 (.p 1), (some 140), none⟩,
    ⟨.load .look false 1 (.p 140), (some 141), none⟩,
    ⟨.call 24 [(.t 139, true), (.p 141, false)], (some 142), none⟩,
    ⟨.assign (.t 142), (some 3), none⟩]
@[simp] def eq17_28 := id q17_28.eq_1
def q17_29 : List AOper :=
  [⟨.bin .eql 1 true (.p 8) (.c (.int .i64 19)), (some 138), none⟩,
    ⟨.assign (.p 138), (some 137), none⟩]
@[simp] def eq17_29 := id q17_29.eq_1
def q17_30 : List AOper :=
  [⟨.bin .eql 1 true (.p 8) (.c (.int .i64 15)), (some 116), none⟩,
    ⟨.assign (.p 116), (some 115), none⟩]
@[simp] def eq17_30 := id q17_30.eq_1
def q17_31 : List AOper :=
  [⟨.bin .eql 1 true (.p 8) (.c (.int .i64 12)), (some 106), none⟩,
    ⟨.assign (.p 106), (some 105), none⟩]
@[simp] def eq17_31 := id q17_31.eq_1
def q17_32 : List AOper :=
  [⟨.bin .eql 1 true (.p 8) (.c (.int .i64 11)), (some 90), none⟩,
    ⟨.assign (.p 90), (some 89), none⟩]
@[simp] def eq17_32 := id q17_32.eq_1
def q17_33 : List AOper :=
  [⟨.bin .eql 1 true (.p 8) (.c (.int .i64 16)), (some 84), none⟩,
    ⟨.assign (.p 84), (some 83), none⟩]
@[simp] def eq17_33 := id q17_33.eq_1
def q17_34 : List AOper :=
  [⟨.bin .eql 1 true (.p 8) (.c (.int .i64 18)), (some 77), none⟩,
    ⟨.assign (.p 77), (some 75), none⟩]
@[simp] def eq17_34 := id q17_34.eq_1
def q17_35 : List AOper :=
  [⟨.bin .eql 1 true (.p 8) (.c (.int .i64 9)), (some 76), none⟩,
    ⟨.assign (.p 76), (some 75), none⟩]
@[simp] def eq17_35 := id q17_35.eq_1
def q17_36 : List AOper :=
  [⟨.bin .eql 1 true (.p 8) (.c (.int .i64 8)), (some 68), none⟩,
    ⟨.assign (.p 68), (some 67), none⟩]
@[simp] def eq17_36 := id q17_36.eq_1
def q17_37 : List AOper :=
  [⟨.bin .eql 1 true (.p 8) (.c (.int .i64 7)), (some 62), none⟩,
    ⟨.assign (.p 62), (some 61), none⟩]
@[simp] def eq17_37 := id q17_37.eq_1
def q17_38 : List AOper :=
  [⟨.bin .eql 1 true (.p 8) (.c (.int .i64 5)), (some 31), none⟩,
    ⟨.assign (.p 31), (some 30), none⟩]
@[simp] def eq17_38 := id q17_38.eq_1
def q17_39 : List AOper :=
  [⟨.bin .eql 1 true (.p 8) (.c (.int .i64 4)), (some 26), none⟩,
    ⟨.assign (.p 26), (some 24), none⟩]
@[simp] def eq17_39 := id q17_39.eq_1
def q17_40 : List AOper :=
  [⟨.bin .eql 1 true (.p 8) (.c (.int .i64 3)), (some 25), none⟩,
    ⟨.assign (.p 25), (some 24), none⟩]
@[simp] def eq17_40 := id q17_40.eq_1
def q17_41 : List AOper :=
  [⟨.bin .eql 1 true (.p 8) (.c (.int .i64 14)), (some 19), none⟩,
    ⟨.assign (.p 19), (some 16), none⟩]
@[simp] def eq17_41 := id q17_41.eq_1
def q17_42 : List AOper :=
  [⟨.bin .eql 1 true (.p 8) (.c (.int .i64 13)), (some 18), none⟩,
    ⟨.assign (.p 18), (some 16), none⟩]
@[simp] def eq17_42 := id q17_42.eq_1
def q17_43 : List AOper :=
  [⟨.bin .eql 1 true (.p 8) (.c (.int .i64 2)), (some 17), none⟩,
    ⟨.assign (.p 17), (some 16), none⟩]
@[simp] def eq17_43 := id q17_43.eq_1
def q17_44 : List AOper :=
  [⟨.bin .eql 1 true (.p 8) (.c (.int .i64 17)), (some 11), none⟩,
    ⟨.assign (.p 11), (some 9), none⟩]
@[simp] def eq17_44 := id q17_44.eq_1
def q17_45 : List AOper :=
  [⟨.bin .eql 1 true (.p 8) (.c (.int .i64 1)), (some 10), none⟩,
    ⟨.assign (.p 10), (some 9), none⟩]
@[simp] def eq17_45 := id q17_45.eq_1
def q17_46 : List AOper :=
  [⟨.fieldAddr 0 (.p 1), (some 7), none⟩,
    ⟨.load .head false 1 (.p 7), (some 8), none⟩]
@[simp] def eq17_46 := id q17_46.eq_1
def q17_47 : List AOper :=
  [⟨.box 1 (.p 0), (some 1), none⟩,
    ⟨.assign (.c (.slice .nil 0 1 [])), (some 2), none⟩]
@[simp] def eq17_47 := id q17_47.eq_1
def k17_0 : ACode :=
  .ops q17_0 .ret
@[simp] theorem xk17_0 : GoC fns Q s k17_0 st ↔ GoO fns Q s q17_0 .ret st := goC_ops
def k17_1 : ACode :=
  .ops q17_1 .skip
@[simp] theorem xk17_1 : GoC fns Q s k17_1 st ↔ GoO fns Q s q17_1 .skip st := goC_ops
def k17_2 : ACode :=
  .ops q17_2 .skip
@[simp] theorem xk17_2 : GoC fns Q s k17_2 st ↔ GoO fns Q s q17_2 .skip st := goC_ops
def k17_3 : ACode :=
  .ops q17_3 .skip
@[simp] theorem xk17_3 : GoC fns Q s k17_3 st ↔ GoO fns Q s q17_3 .skip st := goC_ops
def k17_4 : ACode :=
  .ops q17_4 .skip
@[simp] theorem xk17_4 : GoC fns Q s k17_4 st ↔ GoO fns Q s q17_4 .skip st := goC_ops
def k17_5 : ACode :=
  .ops q17_5 .skip
@[simp] theorem xk17_5 : GoC fns Q s k17_5 st ↔ GoO fns Q s q17_5 .skip st := goC_ops
def k17_6 : ACode :=
  .ops q17_6 k17_5
@[simp] theorem xk17_6 : GoC fns Q s k17_6 st ↔ GoO fns Q s q17_6 k17_5 st := goC_ops
def k17_7 : ACode :=
  .ops q17_7 k17_6
@[simp] theorem xk17_7 : GoC fns Q s k17_7 st ↔ GoO fns Q s q17_7 k17_6 st := goC_ops
def k17_8 : ACode :=
  .ops q17_8 .skip
@[simp] theorem xk17_8 : GoC fns Q s k17_8 st ↔ GoO fns Q s q17_8 .skip st := goC_ops
def k17_9 : ACode :=
  .ops q17_9 k17_8
@[simp] theorem xk17_9 : GoC fns Q s k17_9 st ↔ GoO fns Q s q17_9 k17_8 st := goC_ops
def k17_10 : ACode :=
  .cond (.p 37) k17_7 k17_9
@[simp] theorem xk17_10 : GoC fns Q s k17_10 st ↔ GB fns Q s (peek st (.p 37)) k17_7 k17_9 st := goC_cond
def k17_11 : ACode :=
  .seq k17_10 k17_4
@[simp] theorem xk17_11 : GoC fns Q s k17_11 st ↔ GoC fns Q (.sq k17_4 :: s) k17_10 st := goC_seq
def k17_12 : ACode :=
  .ops q17_10 k17_11
@[simp] theorem xk17_12 : GoC fns Q s k17_12 st ↔ GoO fns Q s q17_10 k17_11 st := goC_ops
def k17_13 : ACode :=
  .ops q17_11 k17_12
@[simp] theorem xk17_13 : GoC fns Q s k17_13 st ↔ GoO fns Q s q17_11 k17_12 st := goC_ops
def k17_14 : ACode :=
  .ops q17_12 .skip
@[simp] theorem xk17_14 : GoC fns Q s k17_14 st ↔ GoO fns Q s q17_12 .skip st := goC_ops
def k17_15 : ACode :=
  .ops q17_13 .skip
@[simp] theorem xk17_15 : GoC fns Q s k17_15 st ↔ GoO fns Q s q17_13 .skip st := goC_ops
def k17_16 : ACode :=
  .ops q17_14 .skip
@[simp] theorem xk17_16 : GoC fns Q s k17_16 st ↔ GoO fns Q s q17_14 .skip st := goC_ops
def k17_17 : ACode :=
  .ops q17_15 .skip
@[simp] theorem xk17_17 : GoC fns Q s k17_17 st ↔ GoO fns Q s q17_15 .skip st := goC_ops
def k17_18 : ACode :=
  .ops q17_16 .skip
@[simp] theorem xk17_18 : GoC fns Q s k17_18 st ↔ GoO fns Q s q17_16 .skip st := goC_ops
def k17_19 : ACode :=
  .ops q17_17 k17_18
@[simp] theorem xk17_19 : GoC fns Q s k17_19 st ↔ GoO fns Q s q17_17 k17_18 st := goC_ops
def k17_20 : ACode :=
  .ops q17_18 k17_19
@[simp] theorem xk17_20 : GoC fns Q s k17_20 st ↔ GoO fns Q s q17_18 k17_19 st := goC_ops
def k17_21 : ACode :=
  .ops q17_19 k17_20
@[simp] theorem xk17_21 : GoC fns Q s k17_21 st ↔ GoO fns Q s q17_19 k17_20 st := goC_ops
def k17_22 : ACode :=
  .ops q17_20 .skip
@[simp] theorem xk17_22 : GoC fns Q s k17_22 st ↔ GoO fns Q s q17_20 .skip st := goC_ops
def k17_23 : ACode :=
  .ops q17_21 k17_22
@[simp] theorem xk17_23 : GoC fns Q s k17_23 st ↔ GoO fns Q s q17_21 k17_22 st := goC_ops
def k17_24 : ACode :=
  .ops q17_22 .skip
@[simp] theorem xk17_24 : GoC fns Q s k17_24 st ↔ GoO fns Q s q17_22 .skip st := goC_ops
def k17_25 : ACode :=
  .ops q17_23 k17_24
@[simp] theorem xk17_25 : GoC fns Q s k17_25 st ↔ GoO fns Q s q17_23 k17_24 st := goC_ops
def k17_26 : ACode :=
  .ops q17_24 k17_25
@[simp] theorem xk17_26 : GoC fns Q s k17_26 st ↔ GoO fns Q s q17_24 k17_25 st := goC_ops
def k17_27 : ACode :=
  .ops q17_25 k17_26
@[simp] theorem xk17_27 : GoC fns Q s k17_27 st ↔ GoO fns Q s q17_25 k17_26 st := goC_ops
def k17_28 : ACode :=
  .ops q17_26 k17_27
@[simp] theorem xk17_28 : GoC fns Q s k17_28 st ↔ GoO fns Q s q17_26 k17_27 st := goC_ops
def k17_29 : ACode :=
  .ops q17_27 .skip
@[simp] theorem xk17_29 : GoC fns Q s k17_29 st ↔ GoO fns Q s q17_27 .skip st := goC_ops
def k17_30 : ACode :=
  .ops q17_28 k17_29
@[simp] theorem xk17_30 : GoC fns Q s k17_30 st ↔ GoO fns Q s q17_28 k17_29 st := goC_ops
def k17_31 : ACode :=
  .cond (.p 137) k17_30 .skip
@[simp] theorem xk17_31 : GoC fns Q s k17_31 st ↔ GB fns Q s (peek st (.p 137)) k17_30 .skip st := goC_cond
def k17_32 : ACode :=
  .ops q17_29 k17_31
@[simp] theorem xk17_32 : GoC fns Q s k17_32 st ↔ GoO fns Q s q17_29 k17_31 st := goC_ops
def k17_33 : ACode :=
  .cond (.p 115) k17_28 k17_32
@[simp] theorem xk17_33 : GoC fns Q s k17_33 st ↔ GB fns Q s (peek st (.p 115)) k17_28 k17_32 st := goC_cond
def k17_34 : ACode :=
  .ops q17_30 k17_33
@[simp] theorem xk17_34 : GoC fns Q s k17_34 st ↔ GoO fns Q s q17_30 k17_33 st := goC_ops
def k17_35 : ACode :=
  .cond (.p 105) k17_23 k17_34
@[simp] theorem xk17_35 : GoC fns Q s k17_35 st ↔ GB fns Q s (peek st (.p 105)) k17_23 k17_34 st := goC_cond
def k17_36 : ACode :=
  .ops q17_31 k17_35
@[simp] theorem xk17_36 : GoC fns Q s k17_36 st ↔ GoO fns Q s q17_31 k17_35 st := goC_ops
def k17_37 : ACode :=
  .cond (.p 89) k17_21 k17_36
@[simp] theorem xk17_37 : GoC fns Q s k17_37 st ↔ GB fns Q s (peek st (.p 89)) k17_21 k17_36 st := goC_cond
def k17_38 : ACode :=
  .ops q17_32 k17_37
@[simp] theorem xk17_38 : GoC fns Q s k17_38 st ↔ GoO fns Q s q17_32 k17_37 st := goC_ops
def k17_39 : ACode :=
  .cond (.p 83) k17_17 k17_38
@[simp] theorem xk17_39 : GoC fns Q s k17_39 st ↔ GB fns Q s (peek st (.p 83)) k17_17 k17_38 st := goC_cond
def k17_40 : ACode :=
  .ops q17_33 k17_39
@[simp] theorem xk17_40 : GoC fns Q s k17_40 st ↔ GoO fns Q s q17_33 k17_39 st := goC_ops
def k17_41 : ACode :=
  .cond (.p 75) k17_16 k17_40
@[simp] theorem xk17_41 : GoC fns Q s k17_41 st ↔ GB fns Q s (peek st (.p 75)) k17_16 k17_40 st := goC_cond
def k17_42 : ACode :=
  .ops q17_34 .skip
@[simp] theorem xk17_42 : GoC fns Q s k17_42 st ↔ GoO fns Q s q17_34 .skip st := goC_ops
def k17_43 : ACode :=
  .cond (.p 75) .skip k17_42
@[simp] theorem xk17_43 : GoC fns Q s k17_43 st ↔ GB fns Q s (peek st (.p 75)) .skip k17_42 st := goC_cond
def k17_44 : ACode :=
  .seq k17_43 k17_41
@[simp] theorem xk17_44 : GoC fns Q s k17_44 st ↔ GoC fns Q (.sq k17_41 :: s) k17_43 st := goC_seq
def k17_45 : ACode :=
  .ops q17_35 k17_44
@[simp] theorem xk17_45 : GoC fns Q s k17_45 st ↔ GoO fns Q s q17_35 k17_44 st := goC_ops
def k17_46 : ACode :=
  .cond (.p 67) k17_15 k17_45
@[simp] theorem xk17_46 : GoC fns Q s k17_46 st ↔ GB fns Q s (peek st (.p 67)) k17_15 k17_45 st := goC_cond
def k17_47 : ACode :=
  .ops q17_36 k17_46
@[simp] theorem xk17_47 : GoC fns Q s k17_47 st ↔ GoO fns Q s q17_36 k17_46 st := goC_ops
def k17_48 : ACode :=
  .cond (.p 61) k17_14 k17_47
@[simp] theorem xk17_48 : GoC fns Q s k17_48 st ↔ GB fns Q s (peek st (.p 61)) k17_14 k17_47 st := goC_cond
def k17_49 : ACode :=
  .ops q17_37 k17_48
@[simp] theorem xk17_49 : GoC fns Q s k17_49 st ↔ GoO fns Q s q17_37 k17_48 st := goC_ops
def k17_50 : ACode :=
  .cond (.p 30) k17_13 k17_49
@[simp] theorem xk17_50 : GoC fns Q s k17_50 st ↔ GB fns Q s (peek st (.p 30)) k17_13 k17_49 st := goC_cond
def k17_51 : ACode :=
  .ops q17_38 k17_50
@[simp] theorem xk17_51 : GoC fns Q s k17_51 st ↔ GoO fns Q s q17_38 k17_50 st := goC_ops
def k17_52 : ACode :=
  .cond (.p 24) k17_3 k17_51
@[simp] theorem xk17_52 : GoC fns Q s k17_52 st ↔ GB fns Q s (peek st (.p 24)) k17_3 k17_51 st := goC_cond
def k17_53 : ACode :=
  .ops q17_39 .skip
@[simp] theorem xk17_53 : GoC fns Q s k17_53 st ↔ GoO fns Q s q17_39 .skip st := goC_ops
def k17_54 : ACode :=
  .cond (.p 24) .skip k17_53
@[simp] theorem xk17_54 : GoC fns Q s k17_54 st ↔ GB fns Q s (peek st (.p 24)) .skip k17_53 st := goC_cond
def k17_55 : ACode :=
  .seq k17_54 k17_52
@[simp] theorem xk17_55 : GoC fns Q s k17_55 st ↔ GoC fns Q (.sq k17_52 :: s) k17_54 st := goC_seq
def k17_56 : ACode :=
  .ops q17_40 k17_55
@[simp] theorem xk17_56 : GoC fns Q s k17_56 st ↔ GoO fns Q s q17_40 k17_55 st := goC_ops
def k17_57 : ACode :=
  .cond (.p 16) k17_2 k17_56
@[simp] theorem xk17_57 : GoC fns Q s k17_57 st ↔ GB fns Q s (peek st (.p 16)) k17_2 k17_56 st := goC_cond
def k17_58 : ACode :=
  .ops q17_41 .skip
@[simp] theorem xk17_58 : GoC fns Q s k17_58 st ↔ GoO fns Q s q17_41 .skip st := goC_ops
def k17_59 : ACode :=
  .cond (.p 16) .skip k17_58
@[simp] theorem xk17_59 : GoC fns Q s k17_59 st ↔ GB fns Q s (peek st (.p 16)) .skip k17_58 st := goC_cond
def k17_60 : ACode :=
  .ops q17_42 k17_59
@[simp] theorem xk17_60 : GoC fns Q s k17_60 st ↔ GoO fns Q s q17_42 k17_59 st := goC_ops
def k17_61 : ACode :=
  .cond (.p 16) .skip k17_60
@[simp] theorem xk17_61 : GoC fns Q s k17_61 st ↔ GB fns Q s (peek st (.p 16)) .skip k17_60 st := goC_cond
def k17_62 : ACode :=
  .seq k17_61 k17_57
@[simp] theorem xk17_62 : GoC fns Q s k17_62 st ↔ GoC fns Q (.sq k17_57 :: s) k17_61 st := goC_seq
def k17_63 : ACode :=
  .ops q17_43 k17_62
@[simp] theorem xk17_63 : GoC fns Q s k17_63 st ↔ GoO fns Q s q17_43 k17_62 st := goC_ops
def k17_64 : ACode :=
  .cond (.p 9) k17_1 k17_63
@[simp] theorem xk17_64 : GoC fns Q s k17_64 st ↔ GB fns Q s (peek st (.p 9)) k17_1 k17_63 st := goC_cond
def k17_65 : ACode :=
  .ops q17_44 .skip
@[simp] theorem xk17_65 : GoC fns Q s k17_65 st ↔ GoO fns Q s q17_44 .skip st := goC_ops
def k17_66 : ACode :=
  .cond (.p 9) .skip k17_65
@[simp] theorem xk17_66 : GoC fns Q s k17_66 st ↔ GB fns Q s (peek st (.p 9)) .skip k17_65 st := goC_cond
def k17_67 : ACode :=
  .seq k17_66 k17_64
@[simp] theorem xk17_67 : GoC fns Q s k17_67 st ↔ GoC fns Q (.sq k17_64 :: s) k17_66 st := goC_seq
def k17_68 : ACode :=
  .ops q17_45 k17_67
@[simp] theorem xk17_68 : GoC fns Q s k17_68 st ↔ GoO fns Q s q17_45 k17_67 st := goC_ops
def k17_69 : ACode :=
  .block 0 k17_68
@[simp] theorem xk17_69 : GoC fns Q s k17_69 st ↔ GoC fns Q (.bl 0 :: s) k17_68 st := goC_block
def k17_70 : ACode :=
  .seq k17_69 k17_0
@[simp] theorem xk17_70 : GoC fns Q s k17_70 st ↔ GoC fns Q (.sq k17_0 :: s) k17_69 st := goC_seq
def k17_71 : ACode :=
  .ops q17_46 k17_70
@[simp] theorem xk17_71 : GoC fns Q s k17_71 st ↔ GoO fns Q s q17_46 k17_70 st := goC_ops
def k17_72 : ACode :=
  .ops [⟨.assign (.c (.slice .nil 0 1 [])), (some 3), none⟩] k17_71
@[simp] theorem xk17_72 : GoC fns Q s k17_72 st ↔ GoO fns Q s [⟨.assign (.c (.slice .nil 0 1 [])), (some 3), none⟩] k17_71 st := goC_ops
def k17_73 : ACode :=
  .ops q17_47 k17_72
@[simp] theorem xk17_73 : GoC fns Q s k17_73 st ↔ GoO fns Q s q17_47 k17_72 st := goC_ops
def af17 : AFunc := ⟨148, k17_73, [.tmp 2]⟩

theorem ok17 : ∃ hs, pFunc Try.prog sg hs Try.f17 = some af17 := ⟨fun i => 0, by kernel_rfl⟩
/-- No. 7 -/
def q7_0 : List AOper :=
  [⟨.fieldAddr 1 (.p 1), (some 3), none⟩,
    ⟨.fieldAddr 0 (.p 3), (some 4), none⟩,
    ⟨.load .look false 1 (.p 4), (some 5), none⟩,
    ⟨.fieldAddr 0 (.p 1), (some 6), none⟩,
    ⟨.load .look false 1 (.p 6), (some 7), none⟩,
    ⟨.fieldAddr 1 (.p 1), (some 9), none⟩,
    ⟨.load .look true 8 (.p 9), (some 10), none⟩,
    ⟨.call 16 [(.p 5, false), (.p 7, false)], (some 8), none⟩,
    ⟨.call 17 [(.p 10, false)], (some 11), none⟩,
    ⟨.append 5 1 1 false (.t 8) (.p 11), (some 12), none⟩,
    ⟨.assign (.t 12), (some 2), none⟩]
@[simp] def eq7_0 := id q7_0.eq_1
def q7_1 : List AOper :=
  [⟨.box 1 (.p 0), (some 1), none⟩,
    ⟨.assign (.c (.slice .nil 0 1 [])), (some 2), none⟩]
@[simp] def eq7_1 := id q7_1.eq_1
def k7_0 : ACode :=
  .ops q7_0 .ret
@[simp] theorem xk7_0 : GoC fns Q s k7_0 st ↔ GoO fns Q s q7_0 .ret st := goC_ops
def k7_1 : ACode :=
  .ops q7_1 k7_0
@[simp] theorem xk7_1 : GoC fns Q s k7_1 st ↔ GoO fns Q s q7_1 k7_0 st := goC_ops
def af7 : AFunc := ⟨13, k7_1, [.tmp 2]⟩

theorem ok7 : ∃ hs, pFunc Try.prog sg hs Try.f7 = some af7 := ⟨fun i => 0, by kernel_rfl⟩
/-- No. 9 -/
def q9_0 : List AOper :=
  [⟨.buildSl 5 1 [] [], (some 3), none⟩,
    ⟨.move .look (.t 0), (some 4), none⟩,
    ⟨.append 5 1 1 false (.t 3) (.p 4), (some 5), none⟩,
    ⟨.assign (.t 5), (some 2), none⟩]
@[simp] def eq9_0 := id q9_0.eq_1
def k9_0 : ACode :=
  .ops q9_0 .ret
@[simp] theorem xk9_0 : GoC fns Q s k9_0 st ↔ GoO fns Q s q9_0 .ret st := goC_ops
def k9_1 : ACode :=
  .ops [⟨.assign (.c (.slice .nil 0 1 [])), (some 2), none⟩] k9_0
@[simp] theorem xk9_1 : GoC fns Q s k9_1 st ↔ GoO fns Q s [⟨.assign (.c (.slice .nil 0 1 [])), (some 2), none⟩] k9_0 st := goC_ops
def af9 : AFunc := ⟨6, k9_1, [.tmp 2]⟩

theorem ok9 : ∃ hs, pFunc Try.prog sg hs Try.f9 = some af9 := ⟨fun i => 0, by kernel_rfl⟩
/-- No. 19 -/
def q19_0 : List AOper :=
  [⟨.move .look (.t 0), (some 3), none⟩,
    ⟨.append 5 1 1 false (.c (.slice .nil 0 1 [])) (.p 3), (some 4), none⟩,
    ⟨.assign (.t 4), (some 2), none⟩]
@[simp] def eq19_0 := id q19_0.eq_1
def k19_0 : ACode :=
  .ops q19_0 .ret
@[simp] theorem xk19_0 : GoC fns Q s k19_0 st ↔ GoO fns Q s q19_0 .ret st := goC_ops
def k19_1 : ACode :=
  .ops [⟨.assign (.c (.slice .nil 0 1 [])), (some 2), none⟩] k19_0
@[simp] theorem xk19_1 : GoC fns Q s k19_1 st ↔ GoO fns Q s [⟨.assign (.c (.slice .nil 0 1 [])), (some 2), none⟩] k19_0 st := goC_ops
def af19 : AFunc := ⟨5, k19_1, [.tmp 2]⟩

theorem ok19 : ∃ hs, pFunc Try.prog sg hs Try.f19 = some af19 := ⟨fun i => 0, by kernel_rfl⟩
/-- No. 95 -/
def q95_0 : List AOper :=
  [⟨.move .take (.p 5), (some 34), none⟩,
    ⟨.assign (.p 34), (some 4), none⟩]
@[simp] def eq95_0 := id q95_0.eq_1
def q95_1 : List AOper :=
  [⟨.move .head (.p 6), (some 31), none⟩,
    ⟨.move .head (.p 1), (some 32), none⟩,
    ⟨.bin .eql 1 false (.p 31) (.p 32), (some 33), none⟩]
@[simp] def eq95_1 := id q95_1.eq_1
def q95_2 : List AOper :=
  [⟨.extract 27 1, (some 29), none⟩,
    ⟨.extract 27 2, (some 30), none⟩,
    ⟨.assign (.p 29), (some 5), none⟩,
    ⟨.assign (.p 30), (some 6), none⟩]
@[simp] def eq95_2 := id q95_2.eq_1
def q95_3 : List AOper :=
  [⟨.next (.p 26), (some 27), none⟩,
    ⟨.extract 27 0, (some 28), none⟩]
@[simp] def eq95_3 := id q95_3.eq_1
def q95_4 : List AOper :=
  [⟨.move .look (.p 0), (some 25), none⟩,
    ⟨.range 26 (.p 25), (some 26), none⟩]
@[simp] def eq95_4 := id q95_4.eq_1
def q95_5 : List AOper :=
  [⟨.move .head (.p 1), (some 7), none⟩,
    ⟨.bin .neq 1 true (.p 7) (.c (.int .i32 65533)), (some 8), none⟩,
    ⟨.move .look (.p 8), (some 9), none⟩,
    ⟨.move .look (.p 1), (some 10), (some (9, true))⟩,
    ⟨.bin .lss 1 true (.p 10) (.c (.int .i32 0)), (some 11), (some (9, true))⟩,
    ⟨.move .look (.p 11), (some 12), (some (9, true))⟩,
    ⟨.move .look (.p 1), (some 13), (some (12, false))⟩,
    ⟨.bin .gtr 1 true (.p 13) (.c (.int .i32 1114111)), (some 14), (some (12, false))⟩,
    ⟨.pick (.p 12) (.c (.bool true)) (.p 14), (some 15), (some (9, true))⟩,
    ⟨.move .look (.p 15), (some 16), (some (9, true))⟩,
    ⟨.move .look (.p 1), (some 17), (some (16, false))⟩,
    ⟨.bin .leq 1 true (.c (.int .i32 55296)) (.p 17), (some 18), (some (16, false))⟩,
    ⟨.move .look (.p 18), (some 19), (some (16, false))⟩,
    ⟨.move .look (.p 1), (some 20), (some (19, true))⟩,
    ⟨.bin .leq 1 true (.p 20) (.c (.int .i32 57343)), (some 21), (some (19, true))⟩,
    ⟨.pick (.p 19) (.p 21) (.c (.bool false)), (some 22), (some (16, false))⟩,
    ⟨.pick (.p 16) (.c (.bool true)) (.p 22), (some 23), (some (9, true))⟩,
    ⟨.pick (.p 9) (.p 23) (.c (.bool false)), (some 24), none⟩]
@[simp] def eq95_5 := id q95_5.eq_1
def k95_0 : ACode :=
  .ops [⟨.assign (.c (.int .i64 (-1))), (some 4), none⟩] .ret
@[simp] theorem xk95_0 : GoC fns Q s k95_0 st ↔ GoO fns Q s [⟨.assign (.c (.int .i64 (-1))), (some 4), none⟩] .ret st := goC_ops
def k95_1 : ACode :=
  .ops q95_0 .ret
@[simp] theorem xk95_1 : GoC fns Q s k95_1 st ↔ GoO fns Q s q95_0 .ret st := goC_ops
def k95_2 : ACode :=
  .cond (.p 33) k95_1 .skip
@[simp] theorem xk95_2 : GoC fns Q s k95_2 st ↔ GB fns Q s (peek st (.p 33)) k95_1 .skip st := goC_cond
def k95_3 : ACode :=
  .ops q95_1 k95_2
@[simp] theorem xk95_3 : GoC fns Q s k95_3 st ↔ GoO fns Q s q95_1 k95_2 st := goC_ops
def k95_4 : ACode :=
  .ops q95_2 k95_3
@[simp] theorem xk95_4 : GoC fns Q s k95_4 st ↔ GoO fns Q s q95_2 k95_3 st := goC_ops
def k95_5 : ACode :=
  .block 1 k95_4
@[simp] theorem xk95_5 : GoC fns Q s k95_5 st ↔ GoC fns Q (.bl 1 :: s) k95_4 st := goC_block
def k95_6 : ACode :=
  .cond (.p 28) .skip (.exit 0)
@[simp] theorem xk95_6 : GoC fns Q s k95_6 st ↔ GB fns Q s (peek st (.p 28)) .skip (.exit 0) st := goC_cond
def k95_7 : ACode :=
  .seq k95_6 k95_5
@[simp] theorem xk95_7 : GoC fns Q s k95_7 st ↔ GoC fns Q (.sq k95_5 :: s) k95_6 st := goC_seq
def k95_8 : ACode :=
  .ops q95_3 k95_7
@[simp] theorem xk95_8 : GoC fns Q s k95_8 st ↔ GoO fns Q s q95_3 k95_7 st := goC_ops
def lc95_0 : ACode :=
  k95_8
@[simp] theorem xlc95_0 : GoC fns Q s lc95_0 st ↔ GoC fns Q s k95_8 st := Iff.rfl
def k95_10 : ACode :=
  .loop lc95_0
@[simp] theorem xk95_10 : GoC fns Q s k95_10 st ↔ (LoopR fns lc95_0 st fun r => GoE fns Q s r.1 r.2) := goC_loop
def k95_11 : ACode :=
  .block 0 k95_10
@[simp] theorem xk95_11 : GoC fns Q s k95_11 st ↔ GoC fns Q (.bl 0 :: s) k95_10 st := goC_block
def k95_12 : ACode :=
  .seq k95_11 k95_0
@[simp] theorem xk95_12 : GoC fns Q s k95_12 st ↔ GoC fns Q (.sq k95_0 :: s) k95_11 st := goC_seq
def k95_13 : ACode :=
  .ops q95_4 k95_12
@[simp] theorem xk95_13 : GoC fns Q s k95_13 st ↔ GoO fns Q s q95_4 k95_12 st := goC_ops
def k95_14 : ACode :=
  .ops [⟨.assign (.c (.int .i64 (-1))), (some 4), none⟩] .ret
@[simp] theorem xk95_14 : GoC fns Q s k95_14 st ↔ GoO fns Q s [⟨.assign (.c (.int .i64 (-1))), (some 4), none⟩] .ret st := goC_ops
def k95_15 : ACode :=
  .cond (.p 24) k95_14 .skip
@[simp] theorem xk95_15 : GoC fns Q s k95_15 st ↔ GB fns Q s (peek st (.p 24)) k95_14 .skip st := goC_cond
def k95_16 : ACode :=
  .seq k95_15 k95_13
@[simp] theorem xk95_16 : GoC fns Q s k95_16 st ↔ GoC fns Q (.sq k95_13 :: s) k95_15 st := goC_seq
def k95_17 : ACode :=
  .ops q95_5 k95_16
@[simp] theorem xk95_17 : GoC fns Q s k95_17 st ↔ GoO fns Q s q95_5 k95_16 st := goC_ops
def k95_18 : ACode :=
  .ops [⟨.assign (.c (.int .i64 0)), (some 4), none⟩] k95_17
@[simp] theorem xk95_18 : GoC fns Q s k95_18 st ↔ GoO fns Q s [⟨.assign (.c (.int .i64 0)), (some 4), none⟩] k95_17 st := goC_ops
def af95 : AFunc := ⟨35, k95_18, [.tmp 4]⟩

theorem ok95 : ∃ hs, pFunc Try.prog sg hs Try.f95 = some af95 := ⟨fun i => 0, by kernel_rfl⟩
/-- No. 94 -/
def q94_0 : List AOper :=
  [⟨.move .look (.p 0), (some 5), none⟩,
    ⟨.move .look (.p 1), (some 6), none⟩,
    ⟨.call 95 [(.p 5, false), (.p 6, false)], (some 7), none⟩,
    ⟨.bin .geq 1 true (.p 7) (.c (.int .i64 0)), (some 8), none⟩,
    ⟨.assign (.p 8), (some 4), none⟩]
@[simp] def eq94_0 := id q94_0.eq_1
def k94_0 : ACode :=
  .ops q94_0 .ret
@[simp] theorem xk94_0 : GoC fns Q s k94_0 st ↔ GoO fns Q s q94_0 .ret st := goC_ops
def k94_1 : ACode :=
  .ops [⟨.assign (.c (.bool false)), (some 4), none⟩] k94_0
@[simp] theorem xk94_1 : GoC fns Q s k94_1 st ↔ GoO fns Q s [⟨.assign (.c (.bool false)), (some 4), none⟩] k94_0 st := goC_ops
def af94 : AFunc := ⟨9, k94_1, [.tmp 4]⟩

theorem ok94 : ∃ hs, pFunc Try.prog sg hs Try.f94 = some af94 := ⟨fun i => 0, by kernel_rfl⟩
/-- No. 82 -/
def q82_0 : List AOper :=
  [⟨.move .look (.p 0), (some 3), none⟩,
    ⟨.call 94 [(.p 3, false), (.c (.int .i32 0), false)], (some 4), none⟩,
    ⟨.un .not (.p 4), (some 5), none⟩,
    ⟨.assign (.p 5), (some 2), none⟩]
@[simp] def eq82_0 := id q82_0.eq_1
def k82_0 : ACode :=
  .ops q82_0 .ret
@[simp] theorem xk82_0 : GoC fns Q s k82_0 st ↔ GoO fns Q s q82_0 .ret st := goC_ops
def k82_1 : ACode :=
  .ops [⟨.assign (.c (.bool false)), (some 2), none⟩] k82_0
@[simp] theorem xk82_1 : GoC fns Q s k82_1 st ↔ GoO fns Q s [⟨.assign (.c (.bool false)), (some 2), none⟩] k82_0 st := goC_ops
def af82 : AFunc := ⟨6, k82_1, [.tmp 2]⟩

theorem ok82 : ∃ hs, pFunc Try.prog sg hs Try.f82 = some af82 := ⟨fun i => 0, by kernel_rfl⟩
/-- No. 83 -/
def q83_0 : List AOper :=
  [⟨.move .take (.t 0), (some 5), none⟩,
    ⟨.move .look (.p 1), (some 6), none⟩,
    ⟨.buildSl 5 1 [.int .u8 0] [(0, 1, .p 6)], (some 7), none⟩,
    ⟨.append 5 1 1 false (.t 5) (.p 7), (some 8), none⟩,
    ⟨.assign (.t 8), (some 4), none⟩]
@[simp] def eq83_0 := id q83_0.eq_1
def k83_0 : ACode :=
  .ops q83_0 .ret
@[simp] theorem xk83_0 : GoC fns Q s k83_0 st ↔ GoO fns Q s q83_0 .ret st := goC_ops
def k83_1 : ACode :=
  .ops [⟨.assign (.c (.slice .nil 0 1 [])), (some 4), none⟩] k83_0
@[simp] theorem xk83_1 : GoC fns Q s k83_1 st ↔ GoO fns Q s [⟨.assign (.c (.slice .nil 0 1 [])), (some 4), none⟩] k83_0 st := goC_ops
def af83 : AFunc := ⟨9, k83_1, [.tmp 4]⟩

theorem ok83 : ∃ hs, pFunc Try.prog sg hs Try.f83 = some af83 := ⟨fun i => 0, by kernel_rfl⟩
/-- No. 57 -/
def q57_0 : List AOper :=
  [⟨.move .take (.t 0), (some 17), none⟩,
    ⟨.buildSl 5 1 [.int .u8 0] [(0, 1, .c (.int .u8 0))], (some 18), none⟩,
    ⟨.append 5 1 1 false (.t 17) (.p 18), (some 19), none⟩,
    ⟨.assign (.t 19), (some 6), none⟩]
@[simp] def eq57_0 := id q57_0.eq_1
def q57_1 : List AOper :=
  [⟨.move .take (.t 0), (some 14), none⟩,
    ⟨.move .look (.p 2), (some 15), none⟩,
    ⟨.append 5 1 1 true (.t 14) (.p 15), (some 16), none⟩,
    ⟨.assign (.t 16), (some 0), none⟩]
@[simp] def eq57_1 := id q57_1.eq_1
def q57_2 : List AOper :=
  [⟨.move .take (.t 0), (some 11), none⟩,
    ⟨.move .look (.p 1), (some 12), none⟩,
    ⟨.call 83 [(.t 11, true), (.p 12, false)], (some 13), none⟩,
    ⟨.assign (.t 13), (some 0), none⟩]
@[simp] def eq57_2 := id q57_2.eq_1
def q57_3 : List AOper :=
  [⟨.mkIface 9 (.c (.str [66, 83, 79, 78, 32, 101, 108, 101, 109, 101, 110, 116, 32, 107, 101, 121, 115, 32, 99, 97, 110, 110, 111, 116, 32, 99, 111, 110, 116, 97, 105, 110, 32, 110, 117, 108, 108, 32, 98, 121, 116, 101, 115])), (some 10), none⟩,
    ⟨.dead, none, none⟩]
@[simp] def eq57_3 := id q57_3.eq_1
def q57_4 : List AOper :=
  [⟨.move .look (.p 2), (some 7), none⟩,
    ⟨.call 82 [(.p 7, false)], (some 8), none⟩,
    ⟨.un .not (.p 8), (some 9), none⟩]
@[simp] def eq57_4 := id q57_4.eq_1
def k57_0 : ACode :=
  .ops q57_0 .ret
@[simp] theorem xk57_0 : GoC fns Q s k57_0 st ↔ GoO fns Q s q57_0 .ret st := goC_ops
def k57_1 : ACode :=
  .ops q57_1 k57_0
@[simp] theorem xk57_1 : GoC fns Q s k57_1 st ↔ GoO fns Q s q57_1 k57_0 st := goC_ops
def k57_2 : ACode :=
  .ops q57_2 k57_1
@[simp] theorem xk57_2 : GoC fns Q s k57_2 st ↔ GoO fns Q s q57_2 k57_1 st := goC_ops
def k57_3 : ACode :=
  .ops q57_3 .skip
@[simp] theorem xk57_3 : GoC fns Q s k57_3 st ↔ GoO fns Q s q57_3 .skip st := goC_ops
def k57_4 : ACode :=
  .cond (.p 9) k57_3 .skip
@[simp] theorem xk57_4 : GoC fns Q s k57_4 st ↔ GB fns Q s (peek st (.p 9)) k57_3 .skip st := goC_cond
def k57_5 : ACode :=
  .seq k57_4 k57_2
@[simp] theorem xk57_5 : GoC fns Q s k57_5 st ↔ GoC fns Q (.sq k57_2 :: s) k57_4 st := goC_seq
def k57_6 : ACode :=
  .ops q57_4 k57_5
@[simp] theorem xk57_6 : GoC fns Q s k57_6 st ↔ GoO fns Q s q57_4 k57_5 st := goC_ops
def k57_7 : ACode :=
  .ops [⟨.assign (.c (.slice .nil 0 1 [])), (some 6), none⟩] k57_6
@[simp] theorem xk57_7 : GoC fns Q s k57_7 st ↔ GoO fns Q s [⟨.assign (.c (.slice .nil 0 1 [])), (some 6), none⟩] k57_6 st := goC_ops
def af57 : AFunc := ⟨20, k57_7, [.tmp 6]⟩

theorem ok57 : ∃ hs, pFunc Try.prog sg hs Try.f57 = some af57 := ⟨fun i => 0, by kernel_rfl⟩
/-- No. 86 -/
def q86_0 : List AOper :=
  [⟨.move .take (.t 0), (some 5), none⟩,
    ⟨.move .look (.p 1), (some 6), none⟩,
    ⟨.convInt .u8 (.p 6), (some 7), none⟩,
    ⟨.move .look (.p 1), (some 8), none⟩,
    ⟨.bin .shr 1 true (.p 8) (.c (.int .u64 8)), (some 9), none⟩,
    ⟨.convInt .u8 (.p 9), (some 10), none⟩,
    ⟨.move .look (.p 1), (some 11), none⟩,
    ⟨.bin .shr 1 true (.p 11) (.c (.int .u64 16)), (some 12), none⟩,
    ⟨.convInt .u8 (.p 12), (some 13), none⟩,
    ⟨.move .look (.p 1), (some 14), none⟩,
    ⟨.bin .shr 1 true (.p 14) (.c (.int .u64 24)), (some 15), none⟩,
    ⟨.convInt .u8 (.p 15), (some 16), none⟩,
    ⟨.move .look (.p 1), (some 17), none⟩,
    ⟨.bin .shr 1 true (.p 17) (.c (.int .u64 32)), (some 18), none⟩,
    ⟨.convInt .u8 (.p 18), (some 19), none⟩,
    ⟨.move .look (.p 1), (some 20), none⟩,
    ⟨.bin .shr 1 true (.p 20) (.c (.int .u64 40)), (some 21), none⟩,
    ⟨.convInt .u8 (.p 21), (some 22), none⟩,
    ⟨.move .look (.p 1), (some 23), none⟩,
    ⟨.bin .shr 1 true (.p 23) (.c (.int .u64 48)), (some 24), none⟩,
    ⟨.convInt .u8 (.p 24), (some 25), none⟩,
    ⟨.move .look (.p 1), (some 26), none⟩,
    ⟨.bin .shr 1 true (.p 26) (.c (.int .u64 56)), (some 27), none⟩,
    ⟨.convInt .u8 (.p 27), (some 28), none⟩,
    ⟨.buildSl 5 1 [.int .u8 0, .int .u8 0, .int .u8 0, .int .u8 0, .int .u8 0, .int .u8 0, .int .u8 0, .int .u8 0] [(0, 1, .p 7), (1, 1, .p 10), (2, 1, .p 13), (3, 1, .p 16), (4, 1, .p 19), (5, 1, .p 22), (6, 1, .p 25), (7, 1, .p 28)], (some 29), none⟩,
    ⟨.append 5 1 1 false (.t 5) (.p 29), (some 30), none⟩,
    ⟨.assign (.t 30), (some 4), none⟩]
@[simp] def eq86_0 := id q86_0.eq_1
def k86_0 : ACode :=
  .ops q86_0 .ret
@[simp] theorem xk86_0 : GoC fns Q s k86_0 st ↔ GoO fns Q s q86_0 .ret st := goC_ops
def k86_1 : ACode :=
  .ops [⟨.assign (.c (.slice .nil 0 1 [])), (some 4), none⟩] k86_0
@[simp] theorem xk86_1 : GoC fns Q s k86_1 st ↔ GoO fns Q s [⟨.assign (.c (.slice .nil 0 1 [])), (some 4), none⟩] k86_0 st := goC_ops
def af86 : AFunc := ⟨31, k86_1, [.tmp 4]⟩

theorem ok86 : ∃ hs, pFunc Try.prog sg hs Try.f86 = some af86 := ⟨fun i => 0, by kernel_rfl⟩
/-- No. 65 -/
def q65_0 : List AOper :=
  [⟨.move .take (.t 0), (some 5), none⟩,
    ⟨.move .look (.p 1), (some 6), none⟩,
    ⟨.px (.fb 0) [.p 6], (some 7), none⟩,
    ⟨.call 86 [(.t 5, true), (.p 7, false)], (some 8), none⟩,
    ⟨.assign (.t 8), (some 4), none⟩]
@[simp] def eq65_0 := id q65_0.eq_1
def k65_0 : ACode :=
  .ops q65_0 .ret
@[simp] theorem xk65_0 : GoC fns Q s k65_0 st ↔ GoO fns Q s q65_0 .ret st := goC_ops
def k65_1 : ACode :=
  .ops [⟨.assign (.c (.slice .nil 0 1 [])), (some 4), none⟩] k65_0
@[simp] theorem xk65_1 : GoC fns Q s k65_1 st ↔ GoO fns Q s [⟨.assign (.c (.slice .nil 0 1 [])), (some 4), none⟩] k65_0 st := goC_ops
def af65 : AFunc := ⟨9, k65_1, [.tmp 4]⟩

theorem ok65 : ∃ hs, pFunc Try.prog sg hs Try.f65 = some af65 := ⟨fun i => 0, by kernel_rfl⟩
/-- No. 32 -/
def q32_0 : List AOper :=
  [⟨.move .take (.t 0), (some 7), none⟩,
    ⟨.move .look (.p 1), (some 8), none⟩,
    ⟨.call 57 [(.t 7, true), (.c (.int .u8 1), false), (.p 8, false)], (some 9), none⟩,
    ⟨.move .look (.p 2), (some 10), none⟩,
    ⟨.call 65 [(.t 9, true), (.p 10, false)], (some 11), none⟩,
    ⟨.assign (.t 11), (some 6), none⟩]
@[simp] def eq32_0 := id q32_0.eq_1
def k32_0 : ACode :=
  .ops q32_0 .ret
@[simp] theorem xk32_0 : GoC fns Q s k32_0 st ↔ GoO fns Q s q32_0 .ret st := goC_ops
def k32_1 : ACode :=
  .ops [⟨.assign (.c (.slice .nil 0 1 [])), (some 6), none⟩] k32_0
@[simp] theorem xk32_1 : GoC fns Q s k32_1 st ↔ GoO fns Q s [⟨.assign (.c (.slice .nil 0 1 [])), (some 6), none⟩] k32_0 st := goC_ops
def af32 : AFunc := ⟨12, k32_1, [.tmp 6]⟩

theorem ok32 : ∃ hs, pFunc Try.prog sg hs Try.f32 = some af32 := ⟨fun i => 0, by kernel_rfl⟩
/-- No. 92 -/
def q92_0 : List AOper :=
  [⟨.move .take (.t 0), (some 5), none⟩,
    ⟨.move .look (.p 1), (some 6), none⟩,
    ⟨.convInt .u8 (.p 6), (some 7), none⟩,
    ⟨.move .look (.p 1), (some 8), none⟩,
    ⟨.bin .shr 1 true (.p 8) (.c (.int .u64 8)), (some 9), none⟩,
    ⟨.convInt .u8 (.p 9), (some 10), none⟩,
    ⟨.move .look (.p 1), (some 11), none⟩,
    ⟨.bin .shr 1 true (.p 11) (.c (.int .u64 16)), (some 12), none⟩,
    ⟨.convInt .u8 (.p 12), (some 13), none⟩,
    ⟨.move .look (.p 1), (some 14), none⟩,
    ⟨.bin .shr 1 true (.p 14) (.c (.int .u64 24)), (some 15), none⟩,
    ⟨.convInt .u8 (.p 15), (some 16), none⟩,
    ⟨.buildSl 5 1 [.int .u8 0, .int .u8 0, .int .u8 0, .int .u8 0] [(0, 1, .p 7), (1, 1, .p 10), (2, 1, .p 13), (3, 1, .p 16)], (some 17), none⟩,
    ⟨.append 5 1 1 false (.t 5) (.p 17), (some 18), none⟩,
    ⟨.assign (.t 18), (some 4), none⟩]
@[simp] def eq92_0 := id q92_0.eq_1
def k92_0 : ACode :=
  .ops q92_0 .ret
@[simp] theorem xk92_0 : GoC fns Q s k92_0 st ↔ GoO fns Q s q92_0 .ret st := goC_ops
def k92_1 : ACode :=
  .ops [⟨.assign (.c (.slice .nil 0 1 [])), (some 4), none⟩] k92_0
@[simp] theorem xk92_1 : GoC fns Q s k92_1 st ↔ GoO fns Q s [⟨.assign (.c (.slice .nil 0 1 [])), (some 4), none⟩] k92_0 st := goC_ops
def af92 : AFunc := ⟨19, k92_1, [.tmp 4]⟩

theorem ok92 : ∃ hs, pFunc Try.prog sg hs Try.f92 = some af92 := ⟨fun i => 0, by kernel_rfl⟩
/-- No. 90 -/
def q90_0 : List AOper :=
  [⟨.move .take (.t 0), (some 5), none⟩,
    ⟨.move .look (.p 1), (some 6), none⟩,
    ⟨.call 92 [(.t 5, true), (.p 6, false)], (some 7), none⟩,
    ⟨.assign (.t 7), (some 4), none⟩]
@[simp] def eq90_0 := id q90_0.eq_1
def k90_0 : ACode :=
  .ops q90_0 .ret
@[simp] theorem xk90_0 : GoC fns Q s k90_0 st ↔ GoO fns Q s q90_0 .ret st := goC_ops
def k90_1 : ACode :=
  .ops [⟨.assign (.c (.slice .nil 0 1 [])), (some 4), none⟩] k90_0
@[simp] theorem xk90_1 : GoC fns Q s k90_1 st ↔ GoO fns Q s [⟨.assign (.c (.slice .nil 0 1 [])), (some 4), none⟩] k90_0 st := goC_ops
def af90 : AFunc := ⟨8, k90_1, [.tmp 4]⟩

theorem ok90 : ∃ hs, pFunc Try.prog sg hs Try.f90 = some af90 := ⟨fun i => 0, by kernel_rfl⟩
/-- No. 88 -/
def q88_0 : List AOper :=
  [⟨.move .take (.t 0), (some 16), none⟩,
    ⟨.buildSl 5 1 [.int .u8 0] [(0, 1, .c (.int .u8 0))], (some 17), none⟩,
    ⟨.append 5 1 1 false (.t 16) (.p 17), (some 18), none⟩,
    ⟨.assign (.t 18), (some 4), none⟩]
@[simp] def eq88_0 := id q88_0.eq_1
def q88_1 : List AOper :=
  [⟨.move .take (.t 0), (some 13), none⟩,
    ⟨.move .look (.p 1), (some 14), none⟩,
    ⟨.append 5 1 1 true (.t 13) (.p 14), (some 15), none⟩,
    ⟨.assign (.t 15), (some 0), none⟩]
@[simp] def eq88_1 := id q88_1.eq_1
def q88_2 : List AOper :=
  [⟨.move .take (.t 0), (some 10), none⟩,
    ⟨.move .look (.p 5), (some 11), none⟩,
    ⟨.call 90 [(.t 10, true), (.p 11, false)], (some 12), none⟩,
    ⟨.assign (.t 12), (some 0), none⟩]
@[simp] def eq88_2 := id q88_2.eq_1
def q88_3 : List AOper :=
  [⟨.move .head (.p 1), (some 6), none⟩,
    ⟨.len true (.p 6), (some 7), none⟩,
    ⟨.bin .add 1 true (.p 7) (.c (.int .i64 1)), (some 8), none⟩,
    ⟨.convInt .i32 (.p 8), (some 9), none⟩,
    ⟨.assign (.p 9), (some 5), none⟩]
@[simp] def eq88_3 := id q88_3.eq_1
def k88_0 : ACode :=
  .ops q88_0 .ret
@[simp] theorem xk88_0 : GoC fns Q s k88_0 st ↔ GoO fns Q s q88_0 .ret st := goC_ops
def k88_1 : ACode :=
  .ops q88_1 k88_0
@[simp] theorem xk88_1 : GoC fns Q s k88_1 st ↔ GoO fns Q s q88_1 k88_0 st := goC_ops
def k88_2 : ACode :=
  .ops q88_2 k88_1
@[simp] theorem xk88_2 : GoC fns Q s k88_2 st ↔ GoO fns Q s q88_2 k88_1 st := goC_ops
def k88_3 : ACode :=
  .ops q88_3 k88_2
@[simp] theorem xk88_3 : GoC fns Q s k88_3 st ↔ GoO fns Q s q88_3 k88_2 st := goC_ops
def k88_4 : ACode :=
  .ops [⟨.assign (.c (.slice .nil 0 1 [])), (some 4), none⟩] k88_3
@[simp] theorem xk88_4 : GoC fns Q s k88_4 st ↔ GoO fns Q s [⟨.assign (.c (.slice .nil 0 1 [])), (some 4), none⟩] k88_3 st := goC_ops
def af88 : AFunc := ⟨19, k88_4, [.tmp 4]⟩

theorem ok88 : ∃ hs, pFunc Try.prog sg hs Try.f88 = some af88 := ⟨fun i => 0, by kernel_rfl⟩
/-- No. 66 -/
def q66_0 : List AOper :=
  [⟨.move .take (.t 0), (some 5), none⟩,
    ⟨.move .look (.p 1), (some 6), none⟩,
    ⟨.call 88 [(.t 5, true), (.p 6, false)], (some 7), none⟩,
    ⟨.assign (.t 7), (some 4), none⟩]
@[simp] def eq66_0 := id q66_0.eq_1
def k66_0 : ACode :=
  .ops q66_0 .ret
@[simp] theorem xk66_0 : GoC fns Q s k66_0 st ↔ GoO fns Q s q66_0 .ret st := goC_ops
def k66_1 : ACode :=
  .ops [⟨.assign (.c (.slice .nil 0 1 [])), (some 4), none⟩] k66_0
@[simp] theorem xk66_1 : GoC fns Q s k66_1 st ↔ GoO fns Q s [⟨.assign (.c (.slice .nil 0 1 [])), (some 4), none⟩] k66_0 st := goC_ops
def af66 : AFunc := ⟨8, k66_1, [.tmp 4]⟩

theorem ok66 : ∃ hs, pFunc Try.prog sg hs Try.f66 = some af66 := ⟨fun i => 0, by kernel_rfl⟩
/-- No. 34 -/
def q34_0 : List AOper :=
  [⟨.move .take (.t 0), (some 7), none⟩,
    ⟨.move .look (.p 1), (some 8), none⟩,
    ⟨.call 57 [(.t 7, true), (.c (.int .u8 2), false), (.p 8, false)], (some 9), none⟩,
    ⟨.move .look (.p 2), (some 10), none⟩,
    ⟨.call 66 [(.t 9, true), (.p 10, false)], (some 11), none⟩,
    ⟨.assign (.t 11), (some 6), none⟩]
@[simp] def eq34_0 := id q34_0.eq_1
def k34_0 : ACode :=
  .ops q34_0 .ret
@[simp] theorem xk34_0 : GoC fns Q s k34_0 st ↔ GoO fns Q s q34_0 .ret st := goC_ops
def k34_1 : ACode :=
  .ops [⟨.assign (.c (.slice .nil 0 1 [])), (some 6), none⟩] k34_0
@[simp] theorem xk34_1 : GoC fns Q s k34_1 st ↔ GoO fns Q s [⟨.assign (.c (.slice .nil 0 1 [])), (some 6), none⟩] k34_0 st := goC_ops
def af34 : AFunc := ⟨12, k34_1, [.tmp 6]⟩

theorem ok34 : ∃ hs, pFunc Try.prog sg hs Try.f34 = some af34 := ⟨fun i => 0, by kernel_rfl⟩
/-- No. 84 -/
def q84_0 : List AOper :=
  [⟨.move .look (.p 4), (some 7), none⟩,
    ⟨.convInt .i32 (.p 7), (some 8), none⟩,
    ⟨.move .take (.t 0), (some 9), none⟩,
    ⟨.buildSl 5 1 [.int .u8 0, .int .u8 0, .int .u8 0, .int .u8 0] [(0, 1, .c (.int .u8 0)), (1, 1, .c (.int .u8 0)), (2, 1, .c (.int .u8 0)), (3, 1, .c (.int .u8 0))], (some 10), none⟩,
    ⟨.append 5 1 1 false (.t 9) (.p 10), (some 11), none⟩,
    ⟨.assign (.p 8), (some 2), none⟩,
    ⟨.assign (.t 11), (some 3), none⟩]
@[simp] def eq84_0 := id q84_0.eq_1
def q84_1 : List AOper :=
  [⟨.move .head (.t 0), (some 5), none⟩,
    ⟨.len false (.p 5), (some 6), none⟩,
    ⟨.assign (.p 6), (some 4), none⟩]
@[simp] def eq84_1 := id q84_1.eq_1
def q84_2 : List AOper :=
  [⟨.assign (.c (.int .i32 0)), (some 2), none⟩,
    ⟨.assign (.c (.slice .nil 0 1 [])), (some 3), none⟩]
@[simp] def eq84_2 := id q84_2.eq_1
def k84_0 : ACode :=
  .ops q84_0 .ret
@[simp] theorem xk84_0 : GoC fns Q s k84_0 st ↔ GoO fns Q s q84_0 .ret st := goC_ops
def k84_1 : ACode :=
  .ops q84_1 k84_0
@[simp] theorem xk84_1 : GoC fns Q s k84_1 st ↔ GoO fns Q s q84_1 k84_0 st := goC_ops
def k84_2 : ACode :=
  .ops q84_2 k84_1
@[simp] theorem xk84_2 : GoC fns Q s k84_2 st ↔ GoO fns Q s q84_2 k84_1 st := goC_ops
def af84 : AFunc := ⟨12, k84_2, [.tmp 2, .tmp 3]⟩

theorem ok84 : ∃ hs, pFunc Try.prog sg hs Try.f84 = some af84 := ⟨fun i => 0, by kernel_rfl⟩
/-- No. 61 -/
def q61_0 : List AOper :=
  [⟨.move .take (.t 0), (some 4), none⟩,
    ⟨.call 84 [(.t 4, true)], (some 5), none⟩,
    ⟨.extract 5 0, (some 6), none⟩,
    ⟨.extract 5 1, (some 7), none⟩,
    ⟨.assign (.p 6), (some 2), none⟩,
    ⟨.assign (.t 7), (some 3), none⟩]
@[simp] def eq61_0 := id q61_0.eq_1
def q61_1 : List AOper :=
  [⟨.assign (.c (.int .i32 0)), (some 2), none⟩,
    ⟨.assign (.c (.slice .nil 0 1 [])), (some 3), none⟩]
@[simp] def eq61_1 := id q61_1.eq_1
def k61_0 : ACode :=
  .ops q61_0 .ret
@[simp] theorem xk61_0 : GoC fns Q s k61_0 st ↔ GoO fns Q s q61_0 .ret st := goC_ops
def k61_1 : ACode :=
  .ops q61_1 k61_0
@[simp] theorem xk61_1 : GoC fns Q s k61_1 st ↔ GoO fns Q s q61_1 k61_0 st := goC_ops
def af61 : AFunc := ⟨8, k61_1, [.tmp 2, .tmp 3]⟩

theorem ok61 : ∃ hs, pFunc Try.prog sg hs Try.f61 = some af61 := ⟨fun i => 0, by kernel_rfl⟩
/-- No. 63 -/
def q63_0 : List AOper :=
  [⟨.move .look (.p 0), (some 3), none⟩,
    ⟨.build [.str []] [(0, 1, .p 3)], (some 4), none⟩,
    ⟨.boxobj (.p 4), (some 5), none⟩,
    ⟨.mkIface 98 (.p 5), (some 6), none⟩,
    ⟨.assign (.p 6), (some 2), none⟩]
@[simp] def eq63_0 := id q63_0.eq_1
def k63_0 : ACode :=
  .ops q63_0 .ret
@[simp] theorem xk63_0 : GoC fns Q s k63_0 st ↔ GoO fns Q s q63_0 .ret st := goC_ops
def k63_1 : ACode :=
  .ops [⟨.assign (.c (.nilI)), (some 2), none⟩] k63_0
@[simp] theorem xk63_1 : GoC fns Q s k63_1 st ↔ GoO fns Q s [⟨.assign (.c (.nilI)), (some 2), none⟩] k63_0 st := goC_ops
def af63 : AFunc := ⟨7, k63_1, [.tmp 2]⟩

theorem ok63 : ∃ hs, pFunc Try.prog sg hs Try.f63 = some af63 := ⟨fun i => if i == 5 then 1 else 0, by kernel_rfl⟩
/-- No. 85 -/
def q85_0 : List AOper :=
  [⟨.move .look (.m 1), (some 23), none⟩,
    ⟨.move .look (.p 2), (some 24), none⟩,
    ⟨.bin .shr 1 true (.p 24) (.c (.int .u64 24)), (some 25), none⟩,
    ⟨.convInt .u8 (.p 25), (some 26), none⟩,
    ⟨.indexAddr 1 (.m 23) (.c (.int .i64 3)), (some 27), none⟩,
    ⟨.store 1 (.p 27) (.p 26), none, none⟩]
@[simp] def eq85_0 := id q85_0.eq_1
def q85_1 : List AOper :=
  [⟨.move .look (.m 1), (some 18), none⟩,
    ⟨.move .look (.p 2), (some 19), none⟩,
    ⟨.bin .shr 1 true (.p 19) (.c (.int .u64 16)), (some 20), none⟩,
    ⟨.convInt .u8 (.p 20), (some 21), none⟩,
    ⟨.indexAddr 1 (.m 18) (.c (.int .i64 2)), (some 22), none⟩,
    ⟨.store 1 (.p 22) (.p 21), none, none⟩]
@[simp] def eq85_1 := id q85_1.eq_1
def q85_2 : List AOper :=
  [⟨.move .look (.m 1), (some 13), none⟩,
    ⟨.move .look (.p 2), (some 14), none⟩,
    ⟨.bin .shr 1 true (.p 14) (.c (.int .u64 8)), (some 15), none⟩,
    ⟨.convInt .u8 (.p 15), (some 16), none⟩,
    ⟨.indexAddr 1 (.m 13) (.c (.int .i64 1)), (some 17), none⟩,
    ⟨.store 1 (.p 17) (.p 16), none, none⟩]
@[simp] def eq85_2 := id q85_2.eq_1
def q85_3 : List AOper :=
  [⟨.move .look (.m 1), (some 9), none⟩,
    ⟨.move .look (.p 2), (some 10), none⟩,
    ⟨.convInt .u8 (.p 10), (some 11), none⟩,
    ⟨.indexAddr 1 (.m 9) (.c (.int .i64 0)), (some 12), none⟩,
    ⟨.store 1 (.p 12) (.p 11), none, none⟩]
@[simp] def eq85_3 := id q85_3.eq_1
def q85_4 : List AOper :=
  [⟨.move .look (.t 1), (some 6), none⟩,
    ⟨.indexAddr 1 (.t 6) (.c (.int .i64 3)), (some 7), none⟩,
    ⟨.load .head false 1 (.p 7), (some 8), none⟩]
@[simp] def eq85_4 := id q85_4.eq_1
def k85_0 : ACode :=
  .ops q85_0 .ret
@[simp] theorem xk85_0 : GoC fns Q s k85_0 st ↔ GoO fns Q s q85_0 .ret st := goC_ops
def k85_1 : ACode :=
  .ops q85_1 k85_0
@[simp] theorem xk85_1 : GoC fns Q s k85_1 st ↔ GoO fns Q s q85_1 k85_0 st := goC_ops
def k85_2 : ACode :=
  .ops q85_2 k85_1
@[simp] theorem xk85_2 : GoC fns Q s k85_2 st ↔ GoO fns Q s q85_2 k85_1 st := goC_ops
def k85_3 : ACode :=
  .ops q85_3 k85_2
@[simp] theorem xk85_3 : GoC fns Q s k85_3 st ↔ GoO fns Q s q85_3 k85_2 st := goC_ops
def k85_4 : ACode :=
  .ops q85_4 k85_3
@[simp] theorem xk85_4 : GoC fns Q s k85_4 st ↔ GoO fns Q s q85_4 k85_3 st := goC_ops
def k85_5 : ACode :=
  .ops [⟨.box 3 (.p 0), (some 3), none⟩] k85_4
@[simp] theorem xk85_5 : GoC fns Q s k85_5 st ↔ GoO fns Q s [⟨.box 3 (.p 0), (some 3), none⟩] k85_4 st := goC_ops
def af85 : AFunc := ⟨28, k85_5, []⟩

theorem ok85 : ∃ hs, pFunc Try.prog sg hs Try.f85 = some af85 := ⟨fun i => if i == 9 then 1 else if i == 12 then 1 else if i == 13 then 1 else if i == 17 then 1 else if i == 18 then 1 else if i == 22 then 1 else if i == 23 then 1 else if i == 27 then 1 else 0, by kernel_rfl⟩
/-- No. 64 -/
def q64_0 : List AOper :=
  [⟨.move .take (.t 0), (some 14), none⟩,
    ⟨.assign (.t 14), (some 6), none⟩]
@[simp] def eq64_0 := id q64_0.eq_1
def q64_1 : List AOper :=
  [⟨.load .look true 0 (.c (.gl 1)), (some 7), none⟩,
    ⟨.move .look (.m 0), (some 8), none⟩,
    ⟨.move .head (.p 1), (some 9), none⟩,
    ⟨.sliceSl 1 (.m 8) (some (.p 9)) none, (some 10), none⟩,
    ⟨.move .look (.p 2), (some 11), none⟩,
    ⟨.convInt .u32 (.p 11), (some 12), none⟩,
    ⟨.hcall 85 [(.p 7, false), (.m 10, false), (.p 12, false)], (some 13), none⟩]
@[simp] def eq64_1 := id q64_1.eq_1
def k64_0 : ACode :=
  .ops q64_0 .ret
@[simp] theorem xk64_0 : GoC fns Q s k64_0 st ↔ GoO fns Q s q64_0 .ret st := goC_ops
def k64_1 : ACode :=
  .ops q64_1 k64_0
@[simp] theorem xk64_1 : GoC fns Q s k64_1 st ↔ GoO fns Q s q64_1 k64_0 st := goC_ops
def k64_2 : ACode :=
  .ops [⟨.assign (.c (.slice .nil 0 1 [])), (some 6), none⟩] k64_1
@[simp] theorem xk64_2 : GoC fns Q s k64_2 st ↔ GoO fns Q s [⟨.assign (.c (.slice .nil 0 1 [])), (some 6), none⟩] k64_1 st := goC_ops
def af64 : AFunc := ⟨15, k64_2, [.tmp 6]⟩

theorem ok64 : ∃ hs, pFunc Try.prog sg hs Try.f64 = some af64 := ⟨fun i => if i == 8 then 1 else if i == 10 then 1 else 0, by kernel_rfl⟩
/-- No. 30 -/
def q30_0 : List AOper :=
  [⟨.move .take (.t 0), (some 25), none⟩,
    ⟨.assign (.t 25), (some 4), none⟩,
    ⟨.assign (.c (.nilI)), (some 5), none⟩]
@[simp] def eq30_0 := id q30_0.eq_1
def q30_1 : List AOper :=
  [⟨.move .take (.t 0), (some 17), none⟩,
    ⟨.move .look (.p 1), (some 18), none⟩,
    ⟨.move .head (.t 0), (some 19), none⟩,
    ⟨.move .head (.p 1), (some 20), none⟩,
    ⟨.sliceSl 1 (.t 19) (some (.p 20)) none, (some 21), none⟩,
    ⟨.len false (.p 21), (some 22), none⟩,
    ⟨.convInt .i32 (.p 22), (some 23), none⟩,
    ⟨.call 64 [(.t 17, true), (.p 18, false), (.p 23, false)], (some 24), none⟩,
    ⟨.assign (.t 24), (some 0), none⟩]
@[simp] def eq30_1 := id q30_1.eq_1
def q30_2 : List AOper :=
  [⟨.move .take (.t 0), (some 14), none⟩,
    ⟨.buildSl 5 1 [.int .u8 0] [(0, 1, .c (.int .u8 0))], (some 15), none⟩,
    ⟨.append 5 1 1 false (.t 14) (.p 15), (some 16), none⟩,
    ⟨.assign (.t 16), (some 0), none⟩]
@[simp] def eq30_2 := id q30_2.eq_1
def q30_3 : List AOper :=
  [⟨.move .take (.t 0), (some 12), none⟩,
    ⟨.hcall 63 [(.c (.str [110, 111, 116, 32, 101, 110, 111, 117, 103, 104, 32, 98, 121, 116, 101, 115, 32, 97, 118, 97, 105, 108, 97, 98, 108, 101, 32, 97, 102, 116, 101, 114, 32, 105, 110, 100, 101, 120, 32, 116, 111, 32, 119, 114, 105, 116, 101, 32, 108, 101, 110, 103, 116, 104]), false)], (some 13), none⟩,
    ⟨.assign (.t 12), (some 4), none⟩,
    ⟨.assign (.p 13), (some 5), none⟩]
@[simp] def eq30_3 := id q30_3.eq_1
def q30_4 : List AOper :=
  [⟨.move .look (.p 1), (some 6), none⟩,
    ⟨.convInt .i64 (.p 6), (some 7), none⟩,
    ⟨.move .head (.t 0), (some 8), none⟩,
    ⟨.len false (.p 8), (some 9), none⟩,
    ⟨.bin .sub 1 true (.p 9) (.c (.int .i64 4)), (some 10), none⟩,
    ⟨.bin .gtr 1 false (.p 7) (.p 10), (some 11), none⟩]
@[simp] def eq30_4 := id q30_4.eq_1
def q30_5 : List AOper :=
  [⟨.assign (.c (.slice .nil 0 1 [])), (some 4), none⟩,
    ⟨.assign (.c (.nilI)), (some 5), none⟩]
@[simp] def eq30_5 := id q30_5.eq_1
def k30_0 : ACode :=
  .ops q30_0 .ret
@[simp] theorem xk30_0 : GoC fns Q s k30_0 st ↔ GoO fns Q s q30_0 .ret st := goC_ops
def k30_1 : ACode :=
  .ops q30_1 k30_0
@[simp] theorem xk30_1 : GoC fns Q s k30_1 st ↔ GoO fns Q s q30_1 k30_0 st := goC_ops
def k30_2 : ACode :=
  .ops q30_2 k30_1
@[simp] theorem xk30_2 : GoC fns Q s k30_2 st ↔ GoO fns Q s q30_2 k30_1 st := goC_ops
def k30_3 : ACode :=
  .ops q30_3 .ret
@[simp] theorem xk30_3 : GoC fns Q s k30_3 st ↔ GoO fns Q s q30_3 .ret st := goC_ops
def k30_4 : ACode :=
  .cond (.p 11) k30_3 .skip
@[simp] theorem xk30_4 : GoC fns Q s k30_4 st ↔ GB fns Q s (peek st (.p 11)) k30_3 .skip st := goC_cond
def k30_5 : ACode :=
  .seq k30_4 k30_2
@[simp] theorem xk30_5 : GoC fns Q s k30_5 st ↔ GoC fns Q (.sq k30_2 :: s) k30_4 st := goC_seq
def k30_6 : ACode :=
  .ops q30_4 k30_5
@[simp] theorem xk30_6 : GoC fns Q s k30_6 st ↔ GoO fns Q s q30_4 k30_5 st := goC_ops
def k30_7 : ACode :=
  .ops q30_5 k30_6
@[simp] theorem xk30_7 : GoC fns Q s k30_7 st ↔ GoO fns Q s q30_5 k30_6 st := goC_ops
def af30 : AFunc := ⟨26, k30_7, [.tmp 4, .tmp 5]⟩

theorem ok30 : ∃ hs, pFunc Try.prog sg hs Try.f30 = some af30 := ⟨fun i => 0, by kernel_rfl⟩
/-- No. 62 -/
def q62_0 : List AOper :=
  [⟨.move .take (.t 0), (some 4), none⟩,
    ⟨.call 84 [(.t 4, true)], (some 5), none⟩,
    ⟨.extract 5 0, (some 6), none⟩,
    ⟨.extract 5 1, (some 7), none⟩,
    ⟨.assign (.p 6), (some 2), none⟩,
    ⟨.assign (.t 7), (some 3), none⟩]
@[simp] def eq62_0 := id q62_0.eq_1
def q62_1 : List AOper :=
  [⟨.assign (.c (.int .i32 0)), (some 2), none⟩,
    ⟨.assign (.c (.slice .nil 0 1 [])), (some 3), none⟩]
@[simp] def eq62_1 := id q62_1.eq_1
def k62_0 : ACode :=
  .ops q62_0 .ret
@[simp] theorem xk62_0 : GoC fns Q s k62_0 st ↔ GoO fns Q s q62_0 .ret st := goC_ops
def k62_1 : ACode :=
  .ops q62_1 k62_0
@[simp] theorem xk62_1 : GoC fns Q s k62_1 st ↔ GoO fns Q s q62_1 k62_0 st := goC_ops
def af62 : AFunc := ⟨8, k62_1, [.tmp 2, .tmp 3]⟩

theorem ok62 : ∃ hs, pFunc Try.prog sg hs Try.f62 = some af62 := ⟨fun i => 0, by kernel_rfl⟩
/-- No. 31 -/
def q31_0 : List AOper :=
  [⟨.move .take (.t 0), (some 6), none⟩,
    ⟨.move .look (.p 1), (some 7), none⟩,
    ⟨.hcall 30 [(.t 6, true), (.p 7, false)], (some 8), none⟩,
    ⟨.extract 8 0, (some 9), none⟩,
    ⟨.extract 8 1, (some 10), none⟩,
    ⟨.assign (.t 9), (some 4), none⟩,
    ⟨.assign (.p 10), (some 5), none⟩]
@[simp] def eq31_0 := id q31_0.eq_1
def q31_1 : List AOper :=
  [⟨.assign (.c (.slice .nil 0 1 [])), (some 4), none⟩,
    ⟨.assign (.c (.nilI)), (some 5), none⟩]
@[simp] def eq31_1 := id q31_1.eq_1
def k31_0 : ACode :=
  .ops q31_0 .ret
@[simp] theorem xk31_0 : GoC fns Q s k31_0 st ↔ GoO fns Q s q31_0 .ret st := goC_ops
def k31_1 : ACode :=
  .ops q31_1 k31_0
@[simp] theorem xk31_1 : GoC fns Q s k31_1 st ↔ GoO fns Q s q31_1 k31_0 st := goC_ops
def af31 : AFunc := ⟨11, k31_1, [.tmp 4, .tmp 5]⟩

theorem ok31 : ∃ hs, pFunc Try.prog sg hs Try.f31 = some af31 := ⟨fun i => 0, by kernel_rfl⟩
/-- No. 89 -/
def q89_0 : List AOper :=
  [⟨.move .take (.t 0), (some 22), none⟩,
    ⟨.move .look (.t 2), (some 23), none⟩,
    ⟨.append 5 1 1 false (.t 22) (.p 23), (some 24), none⟩,
    ⟨.assign (.t 24), (some 6), none⟩]
@[simp] def eq89_0 := id q89_0.eq_1
def q89_1 : List AOper :=
  [⟨.move .take (.t 0), (some 17), none⟩,
    ⟨.move .head (.t 2), (some 18), none⟩,
    ⟨.len false (.p 18), (some 19), none⟩,
    ⟨.convInt .i32 (.p 19), (some 20), none⟩,
    ⟨.call 90 [(.t 17, true), (.p 20, false)], (some 21), none⟩,
    ⟨.assign (.t 21), (some 0), none⟩]
@[simp] def eq89_1 := id q89_1.eq_1
def q89_2 : List AOper :=
  [⟨.move .take (.t 0), (some 13), none⟩,
    ⟨.move .look (.p 1), (some 14), none⟩,
    ⟨.buildSl 5 1 [.int .u8 0] [(0, 1, .p 14)], (some 15), none⟩,
    ⟨.append 5 1 1 false (.t 13) (.p 15), (some 16), none⟩,
    ⟨.assign (.t 16), (some 0), none⟩]
@[simp] def eq89_2 := id q89_2.eq_1
def q89_3 : List AOper :=
  [⟨.move .take (.t 0), (some 7), none⟩,
    ⟨.move .head (.t 2), (some 8), none⟩,
    ⟨.len false (.p 8), (some 9), none⟩,
    ⟨.bin .add 1 true (.p 9) (.c (.int .i64 4)), (some 10), none⟩,
    ⟨.convInt .i32 (.p 10), (some 11), none⟩,
    ⟨.call 90 [(.t 7, true), (.p 11, false)], (some 12), none⟩,
    ⟨.assign (.t 12), (some 0), none⟩]
@[simp] def eq89_3 := id q89_3.eq_1
def k89_0 : ACode :=
  .ops q89_0 .ret
@[simp] theorem xk89_0 : GoC fns Q s k89_0 st ↔ GoO fns Q s q89_0 .ret st := goC_ops
def k89_1 : ACode :=
  .ops q89_1 k89_0
@[simp] theorem xk89_1 : GoC fns Q s k89_1 st ↔ GoO fns Q s q89_1 k89_0 st := goC_ops
def k89_2 : ACode :=
  .ops q89_2 k89_1
@[simp] theorem xk89_2 : GoC fns Q s k89_2 st ↔ GoO fns Q s q89_2 k89_1 st := goC_ops
def k89_3 : ACode :=
  .ops q89_3 k89_2
@[simp] theorem xk89_3 : GoC fns Q s k89_3 st ↔ GoO fns Q s q89_3 k89_2 st := goC_ops
def k89_4 : ACode :=
  .ops [⟨.assign (.c (.slice .nil 0 1 [])), (some 6), none⟩] k89_3
@[simp] theorem xk89_4 : GoC fns Q s k89_4 st ↔ GoO fns Q s [⟨.assign (.c (.slice .nil 0 1 [])), (some 6), none⟩] k89_3 st := goC_ops
def af89 : AFunc := ⟨25, k89_4, [.tmp 6]⟩

theorem ok89 : ∃ hs, pFunc Try.prog sg hs Try.f89 = some af89 := ⟨fun i => 0, by kernel_rfl⟩
/-- No. 68 -/
def q68_0 : List AOper :=
  [⟨.move .take (.t 0), (some 21), none⟩,
    ⟨.move .look (.t 2), (some 22), none⟩,
    ⟨.append 5 1 1 false (.t 21) (.p 22), (some 23), none⟩,
    ⟨.assign (.t 23), (some 6), none⟩]
@[simp] def eq68_0 := id q68_0.eq_1
def q68_1 : List AOper :=
  [⟨.move .take (.t 0), (some 13), none⟩,
    ⟨.move .head (.t 2), (some 14), none⟩,
    ⟨.len false (.p 14), (some 15), none⟩,
    ⟨.convInt .i32 (.p 15), (some 16), none⟩,
    ⟨.call 90 [(.t 13, true), (.p 16, false)], (some 17), none⟩,
    ⟨.move .look (.p 1), (some 18), none⟩,
    ⟨.buildSl 5 1 [.int .u8 0] [(0, 1, .p 18)], (some 19), none⟩,
    ⟨.append 5 1 1 false (.t 17) (.p 19), (some 20), none⟩,
    ⟨.assign (.t 20), (some 0), none⟩]
@[simp] def eq68_1 := id q68_1.eq_1
def q68_2 : List AOper :=
  [⟨.move .take (.t 0), (some 9), none⟩,
    ⟨.move .look (.p 1), (some 10), none⟩,
    ⟨.move .look (.t 2), (some 11), none⟩,
    ⟨.call 89 [(.t 9, true), (.p 10, false), (.t 11, false)], (some 12), none⟩,
    ⟨.assign (.t 12), (some 6), none⟩]
@[simp] def eq68_2 := id q68_2.eq_1
def q68_3 : List AOper :=
  [⟨.move .head (.p 1), (some 7), none⟩,
    ⟨.bin .eql 1 true (.p 7) (.c (.int .u8 2)), (some 8), none⟩]
@[simp] def eq68_3 := id q68_3.eq_1
def k68_0 : ACode :=
  .ops q68_0 .ret
@[simp] theorem xk68_0 : GoC fns Q s k68_0 st ↔ GoO fns Q s q68_0 .ret st := goC_ops
def k68_1 : ACode :=
  .ops q68_1 k68_0
@[simp] theorem xk68_1 : GoC fns Q s k68_1 st ↔ GoO fns Q s q68_1 k68_0 st := goC_ops
def k68_2 : ACode :=
  .ops q68_2 .ret
@[simp] theorem xk68_2 : GoC fns Q s k68_2 st ↔ GoO fns Q s q68_2 .ret st := goC_ops
def k68_3 : ACode :=
  .cond (.p 8) k68_2 .skip
@[simp] theorem xk68_3 : GoC fns Q s k68_3 st ↔ GB fns Q s (peek st (.p 8)) k68_2 .skip st := goC_cond
def k68_4 : ACode :=
  .seq k68_3 k68_1
@[simp] theorem xk68_4 : GoC fns Q s k68_4 st ↔ GoC fns Q (.sq k68_1 :: s) k68_3 st := goC_seq
def k68_5 : ACode :=
  .ops q68_3 k68_4
@[simp] theorem xk68_5 : GoC fns Q s k68_5 st ↔ GoO fns Q s q68_3 k68_4 st := goC_ops
def k68_6 : ACode :=
  .ops [⟨.assign (.c (.slice .nil 0 1 [])), (some 6), none⟩] k68_5
@[simp] theorem xk68_6 : GoC fns Q s k68_6 st ↔ GoO fns Q s [⟨.assign (.c (.slice .nil 0 1 [])), (some 6), none⟩] k68_5 st := goC_ops
def af68 : AFunc := ⟨24, k68_6, [.tmp 6]⟩

theorem ok68 : ∃ hs, pFunc Try.prog sg hs Try.f68 = some af68 := ⟨fun i => 0, by kernel_rfl⟩
/-- No. 41 -/
def q41_0 : List AOper :=
  [⟨.load .take true 12 (.p 2), (some 6), none⟩,
    ⟨.store 12 (.p 2) (.p 6), none, none⟩]
@[simp] def eq41_0 := id q41_0.eq_1
def q41_1 : List AOper :=
  [⟨.px (.slArr 12 5 1) [.p 2, .c (.int .i64 0), .c (.int .i64 12)], (some 3), none⟩,
    ⟨.move .look (.t 0), (some 4), none⟩,
    ⟨.copyB 1 false (.m 3) (.p 4), (some 5), none⟩]
@[simp] def eq41_1 := id q41_1.eq_1
def k41_0 : ACode :=
  .ops q41_0 .ret
@[simp] theorem xk41_0 : GoC fns Q s k41_0 st ↔ GoO fns Q s q41_0 .ret st := goC_ops
def k41_1 : ACode :=
  .ops q41_1 k41_0
@[simp] theorem xk41_1 : GoC fns Q s k41_1 st ↔ GoO fns Q s q41_1 k41_0 st := goC_ops
def k41_2 : ACode :=
  .ops [⟨.newobj [.int .u8 0, .int .u8 0, .int .u8 0, .int .u8 0, .int .u8 0, .int .u8 0, .int .u8 0, .int .u8 0, .int .u8 0, .int .u8 0, .int .u8 0, .int .u8 0], (some 2), none⟩] k41_1
@[simp] theorem xk41_2 : GoC fns Q s k41_2 st ↔ GoO fns Q s [⟨.newobj [.int .u8 0, .int .u8 0, .int .u8 0, .int .u8 0, .int .u8 0, .int .u8 0, .int .u8 0, .int .u8 0, .int .u8 0, .int .u8 0, .int .u8 0, .int .u8 0], (some 2), none⟩] k41_1 st := goC_ops
def af41 : AFunc := ⟨7, k41_2, [.cell 2 true 12]⟩

theorem ok41 : ∃ hs, pFunc Try.prog sg hs Try.f41 = some af41 := ⟨fun i => if i == 2 then 1 else if i == 3 then 1 else 0, by kernel_rfl⟩
/-- No. 69 -/
def q69_0 : List AOper :=
  [⟨.move .take (.t 0), (some 5), none⟩,
    ⟨.px (.slArr 12 5 1) [.p 3, .c (.int .i64 0), .c (.int .i64 12)], (some 6), none⟩,
    ⟨.append 5 1 1 false (.t 5) (.p 6), (some 7), none⟩,
    ⟨.assign (.t 7), (some 4), none⟩]
@[simp] def eq69_0 := id q69_0.eq_1
def q69_1 : List AOper :=
  [⟨.boxobj (.p 1), (some 3), none⟩,
    ⟨.assign (.c (.slice .nil 0 1 [])), (some 4), none⟩]
@[simp] def eq69_1 := id q69_1.eq_1
def k69_0 : ACode :=
  .ops q69_0 .ret
@[simp] theorem xk69_0 : GoC fns Q s k69_0 st ↔ GoO fns Q s q69_0 .ret st := goC_ops
def k69_1 : ACode :=
  .ops q69_1 k69_0
@[simp] theorem xk69_1 : GoC fns Q s k69_1 st ↔ GoO fns Q s q69_1 k69_0 st := goC_ops
def af69 : AFunc := ⟨8, k69_1, [.tmp 4]⟩

theorem ok69 : ∃ hs, pFunc Try.prog sg hs Try.f69 = some af69 := ⟨fun i => if i == 3 then 1 else 0, by kernel_rfl⟩
/-- No. 70 -/
def q70_0 : List AOper :=
  [⟨.move .take (.t 0), (some 9), none⟩,
    ⟨.buildSl 5 1 [.int .u8 0] [(0, 1, .c (.int .u8 0))], (some 10), none⟩,
    ⟨.append 5 1 1 false (.t 9) (.p 10), (some 11), none⟩,
    ⟨.assign (.t 11), (some 4), none⟩]
@[simp] def eq70_0 := id q70_0.eq_1
def q70_1 : List AOper :=
  [⟨.move .take (.t 0), (some 6), none⟩,
    ⟨.buildSl 5 1 [.int .u8 0] [(0, 1, .c (.int .u8 1))], (some 7), none⟩,
    ⟨.append 5 1 1 false (.t 6) (.p 7), (some 8), none⟩,
    ⟨.assign (.t 8), (some 4), none⟩]
@[simp] def eq70_1 := id q70_1.eq_1
def k70_0 : ACode :=
  .ops q70_0 .ret
@[simp] theorem xk70_0 : GoC fns Q s k70_0 st ↔ GoO fns Q s q70_0 .ret st := goC_ops
def k70_1 : ACode :=
  .ops q70_1 .ret
@[simp] theorem xk70_1 : GoC fns Q s k70_1 st ↔ GoO fns Q s q70_1 .ret st := goC_ops
def k70_2 : ACode :=
  .cond (.p 5) k70_1 .skip
@[simp] theorem xk70_2 : GoC fns Q s k70_2 st ↔ GB fns Q s (peek st (.p 5)) k70_1 .skip st := goC_cond
def k70_3 : ACode :=
  .seq k70_2 k70_0
@[simp] theorem xk70_3 : GoC fns Q s k70_3 st ↔ GoC fns Q (.sq k70_0 :: s) k70_2 st := goC_seq
def k70_4 : ACode :=
  .ops [⟨.move .head (.p 1), (some 5), none⟩] k70_3
@[simp] theorem xk70_4 : GoC fns Q s k70_4 st ↔ GoO fns Q s [⟨.move .head (.p 1), (some 5), none⟩] k70_3 st := goC_ops
def k70_5 : ACode :=
  .ops [⟨.assign (.c (.slice .nil 0 1 [])), (some 4), none⟩] k70_4
@[simp] theorem xk70_5 : GoC fns Q s k70_5 st ↔ GoO fns Q s [⟨.assign (.c (.slice .nil 0 1 [])), (some 4), none⟩] k70_4 st := goC_ops
def af70 : AFunc := ⟨12, k70_5, [.tmp 4]⟩

theorem ok70 : ∃ hs, pFunc Try.prog sg hs Try.f70 = some af70 := ⟨fun i => 0, by kernel_rfl⟩
/-- No. 91 -/
def q91_0 : List AOper :=
  [⟨.move .take (.t 0), (some 5), none⟩,
    ⟨.move .look (.p 1), (some 6), none⟩,
    ⟨.convInt .u8 (.p 6), (some 7), none⟩,
    ⟨.move .look (.p 1), (some 8), none⟩,
    ⟨.bin .shr 1 true (.p 8) (.c (.int .u64 8)), (some 9), none⟩,
    ⟨.convInt .u8 (.p 9), (some 10), none⟩,
    ⟨.move .look (.p 1), (some 11), none⟩,
    ⟨.bin .shr 1 true (.p 11) (.c (.int .u64 16)), (some 12), none⟩,
    ⟨.convInt .u8 (.p 12), (some 13), none⟩,
    ⟨.move .look (.p 1), (some 14), none⟩,
    ⟨.bin .shr 1 true (.p 14) (.c (.int .u64 24)), (some 15), none⟩,
    ⟨.convInt .u8 (.p 15), (some 16), none⟩,
    ⟨.move .look (.p 1), (some 17), none⟩,
    ⟨.bin .shr 1 true (.p 17) (.c (.int .u64 32)), (some 18), none⟩,
    ⟨.convInt .u8 (.p 18), (some 19), none⟩,
    ⟨.move .look (.p 1), (some 20), none⟩,
    ⟨.bin .shr 1 true (.p 20) (.c (.int .u64 40)), (some 21), none⟩,
    ⟨.convInt .u8 (.p 21), (some 22), none⟩,
    ⟨.move .look (.p 1), (some 23), none⟩,
    ⟨.bin .shr 1 true (.p 23) (.c (.int .u64 48)), (some 24), none⟩,
    ⟨.convInt .u8 (.p 24), (some 25), none⟩,
    ⟨.move .look (.p 1), (some 26), none⟩,
    ⟨.bin .shr 1 true (.p 26) (.c (.int .u64 56)), (some 27), none⟩,
    ⟨.convInt .u8 (.p 27), (some 28), none⟩,
    ⟨.buildSl 5 1 [.int .u8 0, .int .u8 0, .int .u8 0, .int .u8 0, .int .u8 0, .int .u8 0, .int .u8 0, .int .u8 0] [(0, 1, .p 7), (1, 1, .p 10), (2, 1, .p 13), (3, 1, .p 16), (4, 1, .p 19), (5, 1, .p 22), (6, 1, .p 25), (7, 1, .p 28)], (some 29), none⟩,
    ⟨.append 5 1 1 false (.t 5) (.p 29), (some 30), none⟩,
    ⟨.assign (.t 30), (some 4), none⟩]
@[simp] def eq91_0 := id q91_0.eq_1
def k91_0 : ACode :=
  .ops q91_0 .ret
@[simp] theorem xk91_0 : GoC fns Q s k91_0 st ↔ GoO fns Q s q91_0 .ret st := goC_ops
def k91_1 : ACode :=
  .ops [⟨.assign (.c (.slice .nil 0 1 [])), (some 4), none⟩] k91_0
@[simp] theorem xk91_1 : GoC fns Q s k91_1 st ↔ GoO fns Q s [⟨.assign (.c (.slice .nil 0 1 [])), (some 4), none⟩] k91_0 st := goC_ops
def af91 : AFunc := ⟨31, k91_1, [.tmp 4]⟩

theorem ok91 : ∃ hs, pFunc Try.prog sg hs Try.f91 = some af91 := ⟨fun i => 0, by kernel_rfl⟩
/-- No. 71 -/
def q71_0 : List AOper :=
  [⟨.move .take (.t 0), (some 5), none⟩,
    ⟨.move .look (.p 1), (some 6), none⟩,
    ⟨.call 91 [(.t 5, true), (.p 6, false)], (some 7), none⟩,
    ⟨.assign (.t 7), (some 4), none⟩]
@[simp] def eq71_0 := id q71_0.eq_1
def k71_0 : ACode :=
  .ops q71_0 .ret
@[simp] theorem xk71_0 : GoC fns Q s k71_0 st ↔ GoO fns Q s q71_0 .ret st := goC_ops
def k71_1 : ACode :=
  .ops [⟨.assign (.c (.slice .nil 0 1 [])), (some 4), none⟩] k71_0
@[simp] theorem xk71_1 : GoC fns Q s k71_1 st ↔ GoO fns Q s [⟨.assign (.c (.slice .nil 0 1 [])), (some 4), none⟩] k71_0 st := goC_ops
def af71 : AFunc := ⟨8, k71_1, [.tmp 4]⟩

theorem ok71 : ∃ hs, pFunc Try.prog sg hs Try.f71 = some af71 := ⟨fun i => 0, by kernel_rfl⟩
/-- No. 72 -/
def q72_0 : List AOper :=
  [⟨.move .take (.t 0), (some 16), none⟩,
    ⟨.move .look (.p 1), (some 17), none⟩,
    ⟨.bin .add 2 true (.p 17) (.c (.str [0])), (some 18), none⟩,
    ⟨.move .look (.p 2), (some 19), none⟩,
    ⟨.bin .add 2 false (.p 18) (.p 19), (some 20), none⟩,
    ⟨.bin .add 2 true (.p 20) (.c (.str [0])), (some 21), none⟩,
    ⟨.append 5 1 1 true (.t 16) (.p 21), (some 22), none⟩,
    ⟨.assign (.t 22), (some 6), none⟩]
@[simp] def eq72_0 := id q72_0.eq_1
def q72_1 : List AOper :=
  [⟨.mkIface 9 (.c (.str [66, 83, 79, 78, 32, 114, 101, 103, 101, 120, 32, 118, 97, 108, 117, 101, 115, 32, 99, 97, 110, 110, 111, 116, 32, 99, 111, 110, 116, 97, 105, 110, 32, 110, 117, 108, 108, 32, 98, 121, 116, 101, 115])), (some 15), none⟩,
    ⟨.dead, none, none⟩]
@[simp] def eq72_1 := id q72_1.eq_1
def q72_2 : List AOper :=
  [⟨.move .look (.p 1), (some 7), none⟩,
    ⟨.call 82 [(.p 7, false)], (some 8), none⟩,
    ⟨.un .not (.p 8), (some 9), none⟩,
    ⟨.move .look (.p 9), (some 10), none⟩,
    ⟨.move .look (.p 2), (some 11), (some (10, false))⟩,
    ⟨.call 82 [(.p 11, false)], (some 12), (some (10, false))⟩,
    ⟨.un .not (.p 12), (some 13), (some (10, false))⟩,
    ⟨.pick (.p 10) (.c (.bool true)) (.p 13), (some 14), none⟩]
@[simp] def eq72_2 := id q72_2.eq_1
def k72_0 : ACode :=
  .ops q72_0 .ret
@[simp] theorem xk72_0 : GoC fns Q s k72_0 st ↔ GoO fns Q s q72_0 .ret st := goC_ops
def k72_1 : ACode :=
  .ops q72_1 .skip
@[simp] theorem xk72_1 : GoC fns Q s k72_1 st ↔ GoO fns Q s q72_1 .skip st := goC_ops
def k72_2 : ACode :=
  .cond (.p 14) k72_1 .skip
@[simp] theorem xk72_2 : GoC fns Q s k72_2 st ↔ GB fns Q s (peek st (.p 14)) k72_1 .skip st := goC_cond
def k72_3 : ACode :=
  .seq k72_2 k72_0
@[simp] theorem xk72_3 : GoC fns Q s k72_3 st ↔ GoC fns Q (.sq k72_0 :: s) k72_2 st := goC_seq
def k72_4 : ACode :=
  .ops q72_2 k72_3
@[simp] theorem xk72_4 : GoC fns Q s k72_4 st ↔ GoO fns Q s q72_2 k72_3 st := goC_ops
def k72_5 : ACode :=
  .ops [⟨.assign (.c (.slice .nil 0 1 [])), (some 6), none⟩] k72_4
@[simp] theorem xk72_5 : GoC fns Q s k72_5 st ↔ GoO fns Q s [⟨.assign (.c (.slice .nil 0 1 [])), (some 6), none⟩] k72_4 st := goC_ops
def af72 : AFunc := ⟨23, k72_5, [.tmp 6]⟩

theorem ok72 : ∃ hs, pFunc Try.prog sg hs Try.f72 = some af72 := ⟨fun i => 0, by kernel_rfl⟩
/-- No. 73 -/
def q73_0 : List AOper :=
  [⟨.move .take (.t 0), (some 7), none⟩,
    ⟨.move .look (.p 1), (some 8), none⟩,
    ⟨.px (.slArr 12 5 1) [.p 5, .c (.int .i64 0), .c (.int .i64 12)], (some 10), none⟩,
    ⟨.call 88 [(.t 7, true), (.p 8, false)], (some 9), none⟩,
    ⟨.append 5 1 1 false (.t 9) (.p 10), (some 11), none⟩,
    ⟨.assign (.t 11), (some 6), none⟩]
@[simp] def eq73_0 := id q73_0.eq_1
def q73_1 : List AOper :=
  [⟨.boxobj (.p 2), (some 5), none⟩,
    ⟨.assign (.c (.slice .nil 0 1 [])), (some 6), none⟩]
@[simp] def eq73_1 := id q73_1.eq_1
def k73_0 : ACode :=
  .ops q73_0 .ret
@[simp] theorem xk73_0 : GoC fns Q s k73_0 st ↔ GoO fns Q s q73_0 .ret st := goC_ops
def k73_1 : ACode :=
  .ops q73_1 k73_0
@[simp] theorem xk73_1 : GoC fns Q s k73_1 st ↔ GoO fns Q s q73_1 k73_0 st := goC_ops
def af73 : AFunc := ⟨12, k73_1, [.tmp 6]⟩

theorem ok73 : ∃ hs, pFunc Try.prog sg hs Try.f73 = some af73 := ⟨fun i => if i == 5 then 1 else 0, by kernel_rfl⟩
/-- No. 74 -/
def q74_0 : List AOper :=
  [⟨.move .take (.t 0), (some 5), none⟩,
    ⟨.move .look (.p 1), (some 6), none⟩,
    ⟨.call 88 [(.t 5, true), (.p 6, false)], (some 7), none⟩,
    ⟨.assign (.t 7), (some 4), none⟩]
@[simp] def eq74_0 := id q74_0.eq_1
def k74_0 : ACode :=
  .ops q74_0 .ret
@[simp] theorem xk74_0 : GoC fns Q s k74_0 st ↔ GoO fns Q s q74_0 .ret st := goC_ops
def k74_1 : ACode :=
  .ops [⟨.assign (.c (.slice .nil 0 1 [])), (some 4), none⟩] k74_0
@[simp] theorem xk74_1 : GoC fns Q s k74_1 st ↔ GoO fns Q s [⟨.assign (.c (.slice .nil 0 1 [])), (some 4), none⟩] k74_0 st := goC_ops
def af74 : AFunc := ⟨8, k74_1, [.tmp 4]⟩

theorem ok74 : ∃ hs, pFunc Try.prog sg hs Try.f74 = some af74 := ⟨fun i => 0, by kernel_rfl⟩
/-- No. 75 -/
def q75_0 : List AOper :=
  [⟨.move .take (.t 0), (some 5), none⟩,
    ⟨.move .look (.p 1), (some 6), none⟩,
    ⟨.call 88 [(.t 5, true), (.p 6, false)], (some 7), none⟩,
    ⟨.assign (.t 7), (some 4), none⟩]
@[simp] def eq75_0 := id q75_0.eq_1
def k75_0 : ACode :=
  .ops q75_0 .ret
@[simp] theorem xk75_0 : GoC fns Q s k75_0 st ↔ GoO fns Q s q75_0 .ret st := goC_ops
def k75_1 : ACode :=
  .ops [⟨.assign (.c (.slice .nil 0 1 [])), (some 4), none⟩] k75_0
@[simp] theorem xk75_1 : GoC fns Q s k75_1 st ↔ GoO fns Q s [⟨.assign (.c (.slice .nil 0 1 [])), (some 4), none⟩] k75_0 st := goC_ops
def af75 : AFunc := ⟨8, k75_1, [.tmp 4]⟩

theorem ok75 : ∃ hs, pFunc Try.prog sg hs Try.f75 = some af75 := ⟨fun i => 0, by kernel_rfl⟩
/-- No. 50 -/
def q50_0 : List AOper :=
  [⟨.fieldAddr 7 (.p 1), (some 3), none⟩,
    ⟨.load .look false 1 (.p 3), (some 4), none⟩,
    ⟨.build [.int .i64 0, .str [], .str [], .int .i64 0, .int .u64 0, .int .u64 0, .slice .nil 0 1 [], .slice .nil 0 1 []] [(0, 1, .c (.int .i64 3)), (7, 1, .t 4)], (some 5), none⟩,
    ⟨.call 36 [(.c (.slice .nil 0 1 []), true), (.p 5, false)], (some 6), none⟩,
    ⟨.assign (.t 6), (some 2), none⟩]
@[simp] def eq50_0 := id q50_0.eq_1
def q50_1 : List AOper :=
  [⟨.box 1 (.p 0), (some 1), none⟩,
    ⟨.assign (.c (.slice .nil 0 1 [])), (some 2), none⟩]
@[simp] def eq50_1 := id q50_1.eq_1
def k50_0 : ACode :=
  .ops q50_0 .ret
@[simp] theorem xk50_0 : GoC fns Q s k50_0 st ↔ GoO fns Q s q50_0 .ret st := goC_ops
def k50_1 : ACode :=
  .ops q50_1 k50_0
@[simp] theorem xk50_1 : GoC fns Q s k50_1 st ↔ GoO fns Q s q50_1 k50_0 st := goC_ops
def af50 : AFunc := ⟨7, k50_1, [.tmp 2]⟩

theorem ok50 : ∃ hs, pFunc Try.prog sg hs Try.f50 = some af50 := ⟨fun i => 0, by kernel_rfl⟩
/-- No. 76 -/
def q76_0 : List AOper :=
  [⟨.move .take (.t 0), (some 19), none⟩,
    ⟨.move .look (.p 1), (some 20), none⟩,
    ⟨.call 88 [(.t 19, true), (.p 20, false)], (some 21), none⟩,
    ⟨.move .look (.t 2), (some 22), none⟩,
    ⟨.append 5 1 1 false (.t 21) (.p 22), (some 23), none⟩,
    ⟨.assign (.t 23), (some 6), none⟩]
@[simp] def eq76_0 := id q76_0.eq_1
def q76_1 : List AOper :=
  [⟨.move .take (.t 0), (some 16), none⟩,
    ⟨.move .look (.p 7), (some 17), none⟩,
    ⟨.call 90 [(.t 16, true), (.p 17, false)], (some 18), none⟩,
    ⟨.assign (.t 18), (some 0), none⟩]
@[simp] def eq76_1 := id q76_1.eq_1
def q76_2 : List AOper :=
  [⟨.move .head (.p 1), (some 8), none⟩,
    ⟨.len true (.p 8), (some 9), none⟩,
    ⟨.bin .add 1 true (.c (.int .i64 8)) (.p 9), (some 10), none⟩,
    ⟨.bin .add 1 true (.p 10) (.c (.int .i64 1)), (some 11), none⟩,
    ⟨.move .head (.t 2), (some 12), none⟩,
    ⟨.len false (.p 12), (some 13), none⟩,
    ⟨.bin .add 1 false (.p 11) (.p 13), (some 14), none⟩,
    ⟨.convInt .i32 (.p 14), (some 15), none⟩,
    ⟨.assign (.p 15), (some 7), none⟩]
@[simp] def eq76_2 := id q76_2.eq_1
def k76_0 : ACode :=
  .ops q76_0 .ret
@[simp] theorem xk76_0 : GoC fns Q s k76_0 st ↔ GoO fns Q s q76_0 .ret st := goC_ops
def k76_1 : ACode :=
  .ops q76_1 k76_0
@[simp] theorem xk76_1 : GoC fns Q s k76_1 st ↔ GoO fns Q s q76_1 k76_0 st := goC_ops
def k76_2 : ACode :=
  .ops q76_2 k76_1
@[simp] theorem xk76_2 : GoC fns Q s k76_2 st ↔ GoO fns Q s q76_2 k76_1 st := goC_ops
def k76_3 : ACode :=
  .ops [⟨.assign (.c (.slice .nil 0 1 [])), (some 6), none⟩] k76_2
@[simp] theorem xk76_3 : GoC fns Q s k76_3 st ↔ GoO fns Q s [⟨.assign (.c (.slice .nil 0 1 [])), (some 6), none⟩] k76_2 st := goC_ops
def af76 : AFunc := ⟨24, k76_3, [.tmp 6]⟩

theorem ok76 : ∃ hs, pFunc Try.prog sg hs Try.f76 = some af76 := ⟨fun i => 0, by kernel_rfl⟩
/-- No. 77 -/
def q77_0 : List AOper :=
  [⟨.move .take (.t 0), (some 5), none⟩,
    ⟨.move .look (.p 1), (some 6), none⟩,
    ⟨.call 92 [(.t 5, true), (.p 6, false)], (some 7), none⟩,
    ⟨.assign (.t 7), (some 4), none⟩]
@[simp] def eq77_0 := id q77_0.eq_1
def k77_0 : ACode :=
  .ops q77_0 .ret
@[simp] theorem xk77_0 : GoC fns Q s k77_0 st ↔ GoO fns Q s q77_0 .ret st := goC_ops
def k77_1 : ACode :=
  .ops [⟨.assign (.c (.slice .nil 0 1 [])), (some 4), none⟩] k77_0
@[simp] theorem xk77_1 : GoC fns Q s k77_1 st ↔ GoO fns Q s [⟨.assign (.c (.slice .nil 0 1 [])), (some 4), none⟩] k77_0 st := goC_ops
def af77 : AFunc := ⟨8, k77_1, [.tmp 4]⟩

theorem ok77 : ∃ hs, pFunc Try.prog sg hs Try.f77 = some af77 := ⟨fun i => 0, by kernel_rfl⟩
/-- No. 93 -/
def q93_0 : List AOper :=
  [⟨.move .take (.t 0), (some 5), none⟩,
    ⟨.move .look (.p 1), (some 6), none⟩,
    ⟨.convInt .u8 (.p 6), (some 7), none⟩,
    ⟨.move .look (.p 1), (some 8), none⟩,
    ⟨.bin .shr 1 true (.p 8) (.c (.int .u64 8)), (some 9), none⟩,
    ⟨.convInt .u8 (.p 9), (some 10), none⟩,
    ⟨.move .look (.p 1), (some 11), none⟩,
    ⟨.bin .shr 1 true (.p 11) (.c (.int .u64 16)), (some 12), none⟩,
    ⟨.convInt .u8 (.p 12), (some 13), none⟩,
    ⟨.move .look (.p 1), (some 14), none⟩,
    ⟨.bin .shr 1 true (.p 14) (.c (.int .u64 24)), (some 15), none⟩,
    ⟨.convInt .u8 (.p 15), (some 16), none⟩,
    ⟨.buildSl 5 1 [.int .u8 0, .int .u8 0, .int .u8 0, .int .u8 0] [(0, 1, .p 7), (1, 1, .p 10), (2, 1, .p 13), (3, 1, .p 16)], (some 17), none⟩,
    ⟨.append 5 1 1 false (.t 5) (.p 17), (some 18), none⟩,
    ⟨.assign (.t 18), (some 4), none⟩]
@[simp] def eq93_0 := id q93_0.eq_1
def k93_0 : ACode :=
  .ops q93_0 .ret
@[simp] theorem xk93_0 : GoC fns Q s k93_0 st ↔ GoO fns Q s q93_0 .ret st := goC_ops
def k93_1 : ACode :=
  .ops [⟨.assign (.c (.slice .nil 0 1 [])), (some 4), none⟩] k93_0
@[simp] theorem xk93_1 : GoC fns Q s k93_1 st ↔ GoO fns Q s [⟨.assign (.c (.slice .nil 0 1 [])), (some 4), none⟩] k93_0 st := goC_ops
def af93 : AFunc := ⟨19, k93_1, [.tmp 4]⟩

theorem ok93 : ∃ hs, pFunc Try.prog sg hs Try.f93 = some af93 := ⟨fun i => 0, by kernel_rfl⟩
/-- No. 78 -/
def q78_0 : List AOper :=
  [⟨.move .take (.t 0), (some 7), none⟩,
    ⟨.move .look (.p 2), (some 8), none⟩,
    ⟨.call 93 [(.t 7, true), (.p 8, false)], (some 9), none⟩,
    ⟨.move .look (.p 1), (some 10), none⟩,
    ⟨.call 93 [(.t 9, true), (.p 10, false)], (some 11), none⟩,
    ⟨.assign (.t 11), (some 6), none⟩]
@[simp] def eq78_0 := id q78_0.eq_1
def k78_0 : ACode :=
  .ops q78_0 .ret
@[simp] theorem xk78_0 : GoC fns Q s k78_0 st ↔ GoO fns Q s q78_0 .ret st := goC_ops
def k78_1 : ACode :=
  .ops [⟨.assign (.c (.slice .nil 0 1 [])), (some 6), none⟩] k78_0
@[simp] theorem xk78_1 : GoC fns Q s k78_1 st ↔ GoO fns Q s [⟨.assign (.c (.slice .nil 0 1 [])), (some 6), none⟩] k78_0 st := goC_ops
def af78 : AFunc := ⟨12, k78_1, [.tmp 6]⟩

theorem ok78 : ∃ hs, pFunc Try.prog sg hs Try.f78 = some af78 := ⟨fun i => 0, by kernel_rfl⟩
/-- No. 79 -/
def q79_0 : List AOper :=
  [⟨.move .take (.t 0), (some 5), none⟩,
    ⟨.move .look (.p 1), (some 6), none⟩,
    ⟨.call 91 [(.t 5, true), (.p 6, false)], (some 7), none⟩,
    ⟨.assign (.t 7), (some 4), none⟩]
@[simp] def eq79_0 := id q79_0.eq_1
def k79_0 : ACode :=
  .ops q79_0 .ret
@[simp] theorem xk79_0 : GoC fns Q s k79_0 st ↔ GoO fns Q s q79_0 .ret st := goC_ops
def k79_1 : ACode :=
  .ops [⟨.assign (.c (.slice .nil 0 1 [])), (some 4), none⟩] k79_0
@[simp] theorem xk79_1 : GoC fns Q s k79_1 st ↔ GoO fns Q s [⟨.assign (.c (.slice .nil 0 1 [])), (some 4), none⟩] k79_0 st := goC_ops
def af79 : AFunc := ⟨8, k79_1, [.tmp 4]⟩

theorem ok79 : ∃ hs, pFunc Try.prog sg hs Try.f79 = some af79 := ⟨fun i => 0, by kernel_rfl⟩
/-- No. 80 -/
def q80_0 : List AOper :=
  [⟨.move .take (.t 0), (some 7), none⟩,
    ⟨.move .look (.p 2), (some 8), none⟩,
    ⟨.call 86 [(.t 7, true), (.p 8, false)], (some 9), none⟩,
    ⟨.move .look (.p 1), (some 10), none⟩,
    ⟨.call 86 [(.t 9, true), (.p 10, false)], (some 11), none⟩,
    ⟨.assign (.t 11), (some 6), none⟩]
@[simp] def eq80_0 := id q80_0.eq_1
def k80_0 : ACode :=
  .ops q80_0 .ret
@[simp] theorem xk80_0 : GoC fns Q s k80_0 st ↔ GoO fns Q s q80_0 .ret st := goC_ops
def k80_1 : ACode :=
  .ops [⟨.assign (.c (.slice .nil 0 1 [])), (some 6), none⟩] k80_0
@[simp] theorem xk80_1 : GoC fns Q s k80_1 st ↔ GoO fns Q s [⟨.assign (.c (.slice .nil 0 1 [])), (some 6), none⟩] k80_0 st := goC_ops
def af80 : AFunc := ⟨12, k80_1, [.tmp 6]⟩

theorem ok80 : ∃ hs, pFunc Try.prog sg hs Try.f80 = some af80 := ⟨fun i => 0, by kernel_rfl⟩
/-- No. 36 -/
def q36_0 : List AOper :=
  [⟨.move .take (.t 0), (some 182), none⟩,
    ⟨.assign (.t 182), (some 4), none⟩]
@[simp] def eq36_0 := id q36_0.eq_1
def q36_1 : List AOper :=
  [⟨.move .take (.t 0), (some 17), none⟩,
    ⟨.fieldAddr 4 (.p 3), (some 18), none⟩,
    ⟨.load .look false 1 (.p 18), (some 19), none⟩,
    ⟨.px (.fb 1) [.p 19], (some 20), none⟩,
    ⟨.call 65 [(.t 17, true), (.p 20, false)], (some 21), none⟩,
    ⟨.assign (.t 21), (some 4), none⟩]
@[simp] def eq36_1 := id q36_1.eq_1
def q36_2 : List AOper :=
  [⟨.move .take (.t 0), (some 24), none⟩,
    ⟨.fieldAddr 1 (.p 3), (some 25), none⟩,
    ⟨.load .look false 1 (.p 25), (some 26), none⟩,
    ⟨.call 66 [(.t 24, true), (.p 26, false)], (some 27), none⟩,
    ⟨.assign (.t 27), (some 4), none⟩]
@[simp] def eq36_2 := id q36_2.eq_1
def q36_3 : List AOper :=
  [⟨.move .take (.t 6), (some 55), none⟩,
    ⟨.assign (.t 55), (some 4), none⟩]
@[simp] def eq36_3 := id q36_3.eq_1
def q36_4 : List AOper :=
  [⟨.move .take (.t 6), (some 50), none⟩,
    ⟨.move .look (.p 5), (some 51), none⟩,
    ⟨.hcall 30 [(.t 50, true), (.p 51, false)], (some 52), none⟩,
    ⟨.move .look (.t 52), (some 49), none⟩,
    ⟨.extract 49 0, (some 53), none⟩,
    ⟨.extract 49 1, (some 54), none⟩,
    ⟨.assign (.t 53), (some 6), none⟩]
@[simp] def eq36_4 := id q36_4.eq_1
def q36_5 : List AOper :=
  [⟨.bin .add 1 true (.p 38) (.c (.int .i64 1)), (some 48), none⟩,
    ⟨.move .look (.p 48), (some 38), none⟩]
@[simp] def eq36_5 := id q36_5.eq_1
def q36_6 : List AOper :=
  [⟨.move .take (.t 6), (some 42), none⟩,
    ⟨.fieldAddr 0 (.p 8), (some 43), none⟩,
    ⟨.load .look false 1 (.p 43), (some 44), none⟩,
    ⟨.fieldAddr 1 (.p 8), (some 45), none⟩,
    ⟨.load .look true 8 (.p 45), (some 46), none⟩,
    ⟨.call 20 [(.t 42, true), (.p 44, false), (.p 46, false)], (some 47), none⟩,
    ⟨.assign (.t 47), (some 6), none⟩]
@[simp] def eq36_6 := id q36_6.eq_1
def q36_7 : List AOper :=
  [⟨.indexAddr 9 (.t 36) (.p 38), (some 40), none⟩,
    ⟨.load .take true 9 (.p 40), (some 41), none⟩,
    ⟨.newbox 8 [.str [], .int .i64 0, .str [], .str [], .int .i64 0, .int .u64 0, .int .u64 0, .slice .nil 0 1 [], .slice .nil 0 1 []], (some 8), none⟩,
    ⟨.store 9 (.p 8) (.p 41), none, none⟩]
@[simp] def eq36_7 := id q36_7.eq_1
def q36_8 : List AOper :=
  [⟨.fieldAddr 7 (.p 3), (some 35), none⟩,
    ⟨.load .head false 1 (.p 35), (some 36), none⟩,
    ⟨.len false (.p 36), (some 37), none⟩,
    ⟨.move .head (.c (.int .i64 0)), (some 38), none⟩]
@[simp] def eq36_8 := id q36_8.eq_1
def q36_9 : List AOper :=
  [⟨.move .take (.t 0), (some 31), none⟩,
    ⟨.call 61 [(.t 31, true)], (some 32), none⟩,
    ⟨.move .look (.t 32), (some 30), none⟩,
    ⟨.extract 30 0, (some 33), none⟩,
    ⟨.extract 30 1, (some 34), none⟩,
    ⟨.assign (.p 33), (some 5), none⟩,
    ⟨.assign (.t 34), (some 6), none⟩]
@[simp] def eq36_9 := id q36_9.eq_1
def q36_10 : List AOper :=
  [⟨.move .take (.t 10), (some 83), none⟩,
    ⟨.assign (.t 83), (some 4), none⟩]
@[simp] def eq36_10 := id q36_10.eq_1
def q36_11 : List AOper :=
  [⟨.move .take (.t 10), (some 78), none⟩,
    ⟨.move .look (.p 9), (some 79), none⟩,
    ⟨.hcall 31 [(.t 78, true), (.p 79, false)], (some 80), none⟩,
    ⟨.move .look (.t 80), (some 77), none⟩,
    ⟨.extract 77 0, (some 81), none⟩,
    ⟨.extract 77 1, (some 82), none⟩,
    ⟨.assign (.t 81), (some 10), none⟩]
@[simp] def eq36_11 := id q36_11.eq_1
def q36_12 : List AOper :=
  [⟨.bin .add 1 true (.p 66) (.c (.int .i64 1)), (some 76), none⟩,
    ⟨.move .look (.p 76), (some 66), none⟩]
@[simp] def eq36_12 := id q36_12.eq_1
def q36_13 : List AOper :=
  [⟨.move .take (.t 10), (some 70), none⟩,
    ⟨.fieldAddr 0 (.p 12), (some 71), none⟩,
    ⟨.load .look false 1 (.p 71), (some 72), none⟩,
    ⟨.fieldAddr 1 (.p 12), (some 73), none⟩,
    ⟨.load .look true 8 (.p 73), (some 74), none⟩,
    ⟨.call 20 [(.t 70, true), (.p 72, false), (.p 74, false)], (some 75), none⟩,
    ⟨.assign (.t 75), (some 10), none⟩]
@[simp] def eq36_13 := id q36_13.eq_1
def q36_14 : List AOper :=
  [⟨.indexAddr 9 (.t 64) (.p 66), (some 68), none⟩,
    ⟨.load .take true 9 (.p 68), (some 69), none⟩,
    ⟨.newbox 12 [.str [], .int .i64 0, .str [], .str [], .int .i64 0, .int .u64 0, .int .u64 0, .slice .nil 0 1 [], .slice .nil 0 1 []], (some 12), none⟩,
    ⟨.store 9 (.p 12) (.p 69), none, none⟩]
@[simp] def eq36_14 := id q36_14.eq_1
def q36_15 : List AOper :=
  [⟨.fieldAddr 7 (.p 3), (some 63), none⟩,
    ⟨.load .head false 1 (.p 63), (some 64), none⟩,
    ⟨.len false (.p 64), (some 65), none⟩,
    ⟨.move .head (.c (.int .i64 0)), (some 66), none⟩]
@[simp] def eq36_15 := id q36_15.eq_1
def q36_16 : List AOper :=
  [⟨.move .take (.t 0), (some 59), none⟩,
    ⟨.call 62 [(.t 59, true)], (some 60), none⟩,
    ⟨.move .look (.t 60), (some 58), none⟩,
    ⟨.extract 58 0, (some 61), none⟩,
    ⟨.extract 58 1, (some 62), none⟩,
    ⟨.assign (.p 61), (some 9), none⟩,
    ⟨.assign (.t 62), (some 10), none⟩]
@[simp] def eq36_16 := id q36_16.eq_1
def q36_17 : List AOper :=
  [⟨.move .take (.t 0), (some 86), none⟩,
    ⟨.fieldAddr 3 (.p 3), (some 87), none⟩,
    ⟨.load .look false 1 (.p 87), (some 88), none⟩,
    ⟨.convInt .u8 (.p 88), (some 89), none⟩,
    ⟨.fieldAddr 6 (.p 3), (some 90), none⟩,
    ⟨.load .look false 1 (.p 90), (some 91), none⟩,
    ⟨.call 68 [(.t 86, true), (.p 89, false), (.t 91, false)], (some 92), none⟩,
    ⟨.assign (.t 92), (some 4), none⟩]
@[simp] def eq36_17 := id q36_17.eq_1
def q36_18 : List AOper :=
  [⟨.move .take (.t 0), (some 95), none⟩,
    ⟨.fieldAddr 6 (.p 3), (some 96), none⟩,
    ⟨.load .look false 1 (.p 96), (some 97), none⟩,
    ⟨.call 41 [(.t 97, false)], (some 98), none⟩,
    ⟨.call 69 [(.t 95, true), (.p 98, false)], (some 99), none⟩,
    ⟨.assign (.t 99), (some 4), none⟩]
@[simp] def eq36_18 := id q36_18.eq_1
def q36_19 : List AOper :=
  [⟨.move .take (.t 0), (some 102), none⟩,
    ⟨.fieldAddr 3 (.p 3), (some 103), none⟩,
    ⟨.load .head false 1 (.p 103), (some 104), none⟩,
    ⟨.bin .neq 1 true (.p 104) (.c (.int .i64 0)), (some 105), none⟩,
    ⟨.call 70 [(.t 102, true), (.p 105, false)], (some 106), none⟩,
    ⟨.assign (.t 106), (some 4), none⟩]
@[simp] def eq36_19 := id q36_19.eq_1
def q36_20 : List AOper :=
  [⟨.move .take (.t 0), (some 109), none⟩,
    ⟨.fieldAddr 3 (.p 3), (some 110), none⟩,
    ⟨.load .look false 1 (.p 110), (some 111), none⟩,
    ⟨.call 71 [(.t 109, true), (.p 111, false)], (some 112), none⟩,
    ⟨.assign (.t 112), (some 4), none⟩]
@[simp] def eq36_20 := id q36_20.eq_1
def q36_21 : List AOper :=
  [⟨.move .take (.t 0), (some 115), none⟩,
    ⟨.fieldAddr 1 (.p 3), (some 116), none⟩,
    ⟨.load .look false 1 (.p 116), (some 117), none⟩,
    ⟨.fieldAddr 2 (.p 3), (some 118), none⟩,
    ⟨.load .look false 1 (.p 118), (some 119), none⟩,
    ⟨.call 72 [(.t 115, true), (.p 117, false), (.p 119, false)], (some 120), none⟩,
    ⟨.assign (.t 120), (some 4), none⟩]
@[simp] def eq36_21 := id q36_21.eq_1
def q36_22 : List AOper :=
  [⟨.move .take (.t 0), (some 123), none⟩,
    ⟨.fieldAddr 1 (.p 3), (some 124), none⟩,
    ⟨.load .look false 1 (.p 124), (some 125), none⟩,
    ⟨.fieldAddr 6 (.p 3), (some 126), none⟩,
    ⟨.load .look false 1 (.p 126), (some 127), none⟩,
    ⟨.call 41 [(.t 127, false)], (some 128), none⟩,
    ⟨.call 73 [(.t 123, true), (.p 125, false), (.p 128, false)], (some 129), none⟩,
    ⟨.assign (.t 129), (some 4), none⟩]
@[simp] def eq36_22 := id q36_22.eq_1
def q36_23 : List AOper :=
  [⟨.move .take (.t 0), (some 132), none⟩,
    ⟨.fieldAddr 1 (.p 3), (some 133), none⟩,
    ⟨.load .look false 1 (.p 133), (some 134), none⟩,
    ⟨.call 74 [(.t 132, true), (.p 134, false)], (some 135), none⟩,
    ⟨.assign (.t 135), (some 4), none⟩]
@[simp] def eq36_23 := id q36_23.eq_1
def q36_24 : List AOper :=
  [⟨.move .take (.t 0), (some 138), none⟩,
    ⟨.fieldAddr 1 (.p 3), (some 139), none⟩,
    ⟨.load .look false 1 (.p 139), (some 140), none⟩,
    ⟨.call 75 [(.t 138, true), (.p 140, false)], (some 141), none⟩,
    ⟨.assign (.t 141), (some 4), none⟩]
@[simp] def eq36_24 := id q36_24.eq_1
def q36_25 : List AOper :=
  [⟨.move .take (.t 0), (some 144), none⟩,
    ⟨.fieldAddr 1 (.p 3), (some 145), none⟩,
    ⟨.load .look false 1 (.p 145), (some 146), none⟩,
    ⟨.load .look true 8 (.p 3), (some 147), none⟩,
    ⟨.call 50 [(.p 147, false)], (some 148), none⟩,
    ⟨.call 76 [(.t 144, true), (.p 146, false), (.t 148, false)], (some 149), none⟩,
    ⟨.assign (.t 149), (some 4), none⟩]
@[simp] def eq36_25 := id q36_25.eq_1
def q36_26 : List AOper :=
  [⟨.move .take (.t 0), (some 152), none⟩,
    ⟨.fieldAddr 3 (.p 3), (some 153), none⟩,
    ⟨.load .look false 1 (.p 153), (some 154), none⟩,
    ⟨.convInt .i32 (.p 154), (some 155), none⟩,
    ⟨.call 77 [(.t 152, true), (.p 155, false)], (some 156), none⟩,
    ⟨.assign (.t 156), (some 4), none⟩]
@[simp] def eq36_26 := id q36_26.eq_1
def q36_27 : List AOper :=
  [⟨.move .take (.t 0), (some 159), none⟩,
    ⟨.fieldAddr 4 (.p 3), (some 160), none⟩,
    ⟨.load .look false 1 (.p 160), (some 161), none⟩,
    ⟨.bin .shr 1 true (.p 161) (.c (.int .u64 32)), (some 162), none⟩,
    ⟨.convInt .u32 (.p 162), (some 163), none⟩,
    ⟨.fieldAddr 4 (.p 3), (some 164), none⟩,
    ⟨.load .look false 1 (.p 164), (some 165), none⟩,
    ⟨.convInt .u32 (.p 165), (some 166), none⟩,
    ⟨.call 78 [(.t 159, true), (.p 163, false), (.p 166, false)], (some 167), none⟩,
    ⟨.assign (.t 167), (some 4), none⟩]
@[simp] def eq36_27 := id q36_27.eq_1
def q36_28 : List AOper :=
  [⟨.move .take (.t 0), (some 170), none⟩,
    ⟨.fieldAddr 3 (.p 3), (some 171), none⟩,
    ⟨.load .look false 1 (.p 171), (some 172), none⟩,
    ⟨.call 79 [(.t 170, true), (.p 172, false)], (some 173), none⟩,
    ⟨.assign (.t 173), (some 4), none⟩]
@[simp] def eq36_28 := id q36_28.eq_1
def q36_29 : List AOper :=
  [⟨.move .take (.t 0), (some 176), none⟩,
    ⟨.fieldAddr 5 (.p 3), (some 177), none⟩,
    ⟨.load .look false 1 (.p 177), (some 178), none⟩,
    ⟨.fieldAddr 4 (.p 3), (some 179), none⟩,
    ⟨.load .look false 1 (.p 179), (some 180), none⟩,
    ⟨.call 80 [(.t 176, true), (.p 178, false), (.p 180, false)], (some 181), none⟩,
    ⟨.assign (.t 181), (some 4), none⟩]
@[simp] def eq36_29 := id q36_29.eq_1
def q36_30 : List AOper :=
  [⟨.bin .eql 1 true (.p 14) (.c (.int .i64 19)), (some 175), none⟩,
    ⟨.assign (.p 175), (some 174), none⟩]
@[simp] def eq36_30 := id q36_30.eq_1
def q36_31 : List AOper :=
  [⟨.bin .eql 1 true (.p 14) (.c (.int .i64 18)), (some 169), none⟩,
    ⟨.assign (.p 169), (some 168), none⟩]
@[simp] def eq36_31 := id q36_31.eq_1
def q36_32 : List AOper :=
  [⟨.bin .eql 1 true (.p 14) (.c (.int .i64 17)), (some 158), none⟩,
    ⟨.assign (.p 158), (some 157), none⟩]
@[simp] def eq36_32 := id q36_32.eq_1
def q36_33 : List AOper :=
  [⟨.bin .eql 1 true (.p 14) (.c (.int .i64 16)), (some 151), none⟩,
    ⟨.assign (.p 151), (some 150), none⟩]
@[simp] def eq36_33 := id q36_33.eq_1
def q36_34 : List AOper :=
  [⟨.bin .eql 1 true (.p 14) (.c (.int .i64 15)), (some 143), none⟩,
    ⟨.assign (.p 143), (some 142), none⟩]
@[simp] def eq36_34 := id q36_34.eq_1
def q36_35 : List AOper :=
  [⟨.bin .eql 1 true (.p 14) (.c (.int .i64 14)), (some 137), none⟩,
    ⟨.assign (.p 137), (some 136), none⟩]
@[simp] def eq36_35 := id q36_35.eq_1
def q36_36 : List AOper :=
  [⟨.bin .eql 1 true (.p 14) (.c (.int .i64 13)), (some 131), none⟩,
    ⟨.assign (.p 131), (some 130), none⟩]
@[simp] def eq36_36 := id q36_36.eq_1
def q36_37 : List AOper :=
  [⟨.bin .eql 1 true (.p 14) (.c (.int .i64 12)), (some 122), none⟩,
    ⟨.assign (.p 122), (some 121), none⟩]
@[simp] def eq36_37 := id q36_37.eq_1
def q36_38 : List AOper :=
  [⟨.bin .eql 1 true (.p 14) (.c (.int .i64 11)), (some 114), none⟩,
    ⟨.assign (.p 114), (some 113), none⟩]
@[simp] def eq36_38 := id q36_38.eq_1
def q36_39 : List AOper :=
  [⟨.bin .eql 1 true (.p 14) (.c (.int .i64 9)), (some 108), none⟩,
    ⟨.assign (.p 108), (some 107), none⟩]
@[simp] def eq36_39 := id q36_39.eq_1
def q36_40 : List AOper :=
  [⟨.bin .eql 1 true (.p 14) (.c (.int .i64 8)), (some 101), none⟩,
    ⟨.assign (.p 101), (some 100), none⟩]
@[simp] def eq36_40 := id q36_40.eq_1
def q36_41 : List AOper :=
  [⟨.bin .eql 1 true (.p 14) (.c (.int .i64 7)), (some 94), none⟩,
    ⟨.assign (.p 94), (some 93), none⟩]
@[simp] def eq36_41 := id q36_41.eq_1
def q36_42 : List AOper :=
  [⟨.bin .eql 1 true (.p 14) (.c (.int .i64 5)), (some 85), none⟩,
    ⟨.assign (.p 85), (some 84), none⟩]
@[simp] def eq36_42 := id q36_42.eq_1
def q36_43 : List AOper :=
  [⟨.bin .eql 1 true (.p 14) (.c (.int .i64 4)), (some 57), none⟩,
    ⟨.assign (.p 57), (some 56), none⟩]
@[simp] def eq36_43 := id q36_43.eq_1
def q36_44 : List AOper :=
  [⟨.bin .eql 1 true (.p 14) (.c (.int .i64 3)), (some 29), none⟩,
    ⟨.assign (.p 29), (some 28), none⟩]
@[simp] def eq36_44 := id q36_44.eq_1
def q36_45 : List AOper :=
  [⟨.bin .eql 1 true (.p 14) (.c (.int .i64 2)), (some 23), none⟩,
    ⟨.assign (.p 23), (some 22), none⟩]
@[simp] def eq36_45 := id q36_45.eq_1
def q36_46 : List AOper :=
  [⟨.bin .eql 1 true (.p 14) (.c (.int .i64 1)), (some 16), none⟩,
    ⟨.assign (.p 16), (some 15), none⟩]
@[simp] def eq36_46 := id q36_46.eq_1
def q36_47 : List AOper :=
  [⟨.fieldAddr 0 (.p 3), (some 13), none⟩,
    ⟨.load .head false 1 (.p 13), (some 14), none⟩]
@[simp] def eq36_47 := id q36_47.eq_1
def q36_48 : List AOper :=
  [⟨.box 3 (.p 1), (some 3), none⟩,
    ⟨.assign (.c (.slice .nil 0 1 [])), (some 4), none⟩]
@[simp] def eq36_48 := id q36_48.eq_1
def k36_0 : ACode :=
  .ops q36_0 .ret
@[simp] theorem xk36_0 : GoC fns Q s k36_0 st ↔ GoO fns Q s q36_0 .ret st := goC_ops
def k36_1 : ACode :=
  .ops q36_1 .ret
@[simp] theorem xk36_1 : GoC fns Q s k36_1 st ↔ GoO fns Q s q36_1 .ret st := goC_ops
def k36_2 : ACode :=
  .ops q36_2 .ret
@[simp] theorem xk36_2 : GoC fns Q s k36_2 st ↔ GoO fns Q s q36_2 .ret st := goC_ops
def k36_3 : ACode :=
  .ops q36_3 .ret
@[simp] theorem xk36_3 : GoC fns Q s k36_3 st ↔ GoO fns Q s q36_3 .ret st := goC_ops
def k36_4 : ACode :=
  .ops q36_4 k36_3
@[simp] theorem xk36_4 : GoC fns Q s k36_4 st ↔ GoO fns Q s q36_4 k36_3 st := goC_ops
def k36_5 : ACode :=
  .ops q36_5 .skip
@[simp] theorem xk36_5 : GoC fns Q s k36_5 st ↔ GoO fns Q s q36_5 .skip st := goC_ops
def k36_6 : ACode :=
  .ops q36_6 .skip
@[simp] theorem xk36_6 : GoC fns Q s k36_6 st ↔ GoO fns Q s q36_6 .skip st := goC_ops
def k36_7 : ACode :=
  .ops q36_7 k36_6
@[simp] theorem xk36_7 : GoC fns Q s k36_7 st ↔ GoO fns Q s q36_7 k36_6 st := goC_ops
def k36_8 : ACode :=
  .block 2 k36_7
@[simp] theorem xk36_8 : GoC fns Q s k36_8 st ↔ GoC fns Q (.bl 2 :: s) k36_7 st := goC_block
def k36_9 : ACode :=
  .seq k36_8 k36_5
@[simp] theorem xk36_9 : GoC fns Q s k36_9 st ↔ GoC fns Q (.sq k36_5 :: s) k36_8 st := goC_seq
def k36_10 : ACode :=
  .cond (.p 39) .skip (.exit 1)
@[simp] theorem xk36_10 : GoC fns Q s k36_10 st ↔ GB fns Q s (peek st (.p 39)) .skip (.exit 1) st := goC_cond
def k36_11 : ACode :=
  .seq k36_10 k36_9
@[simp] theorem xk36_11 : GoC fns Q s k36_11 st ↔ GoC fns Q (.sq k36_9 :: s) k36_10 st := goC_seq
def k36_12 : ACode :=
  .ops [⟨.bin .lss 1 false (.p 38) (.p 37), (some 39), none⟩] k36_11
@[simp] theorem xk36_12 : GoC fns Q s k36_12 st ↔ GoO fns Q s [⟨.bin .lss 1 false (.p 38) (.p 37), (some 39), none⟩] k36_11 st := goC_ops
def lc36_0 : ACode :=
  k36_12
@[simp] theorem xlc36_0 : GoC fns Q s lc36_0 st ↔ GoC fns Q s k36_12 st := Iff.rfl
def k36_14 : ACode :=
  .loop lc36_0
@[simp] theorem xk36_14 : GoC fns Q s k36_14 st ↔ (LoopR fns lc36_0 st fun r => GoE fns Q s r.1 r.2) := goC_loop
def k36_15 : ACode :=
  .block 1 k36_14
@[simp] theorem xk36_15 : GoC fns Q s k36_15 st ↔ GoC fns Q (.bl 1 :: s) k36_14 st := goC_block
def k36_16 : ACode :=
  .seq k36_15 k36_4
@[simp] theorem xk36_16 : GoC fns Q s k36_16 st ↔ GoC fns Q (.sq k36_4 :: s) k36_15 st := goC_seq
def k36_17 : ACode :=
  .ops q36_8 k36_16
@[simp] theorem xk36_17 : GoC fns Q s k36_17 st ↔ GoO fns Q s q36_8 k36_16 st := goC_ops
def k36_18 : ACode :=
  .ops q36_9 k36_17
@[simp] theorem xk36_18 : GoC fns Q s k36_18 st ↔ GoO fns Q s q36_9 k36_17 st := goC_ops
def k36_19 : ACode :=
  .ops q36_10 .ret
@[simp] theorem xk36_19 : GoC fns Q s k36_19 st ↔ GoO fns Q s q36_10 .ret st := goC_ops
def k36_20 : ACode :=
  .ops q36_11 k36_19
@[simp] theorem xk36_20 : GoC fns Q s k36_20 st ↔ GoO fns Q s q36_11 k36_19 st := goC_ops
def k36_21 : ACode :=
  .ops q36_12 .skip
@[simp] theorem xk36_21 : GoC fns Q s k36_21 st ↔ GoO fns Q s q36_12 .skip st := goC_ops
def k36_22 : ACode :=
  .ops q36_13 .skip
@[simp] theorem xk36_22 : GoC fns Q s k36_22 st ↔ GoO fns Q s q36_13 .skip st := goC_ops
def k36_23 : ACode :=
  .ops q36_14 k36_22
@[simp] theorem xk36_23 : GoC fns Q s k36_23 st ↔ GoO fns Q s q36_14 k36_22 st := goC_ops
def k36_24 : ACode :=
  .block 4 k36_23
@[simp] theorem xk36_24 : GoC fns Q s k36_24 st ↔ GoC fns Q (.bl 4 :: s) k36_23 st := goC_block
def k36_25 : ACode :=
  .seq k36_24 k36_21
@[simp] theorem xk36_25 : GoC fns Q s k36_25 st ↔ GoC fns Q (.sq k36_21 :: s) k36_24 st := goC_seq
def k36_26 : ACode :=
  .cond (.p 67) .skip (.exit 3)
@[simp] theorem xk36_26 : GoC fns Q s k36_26 st ↔ GB fns Q s (peek st (.p 67)) .skip (.exit 3) st := goC_cond
def k36_27 : ACode :=
  .seq k36_26 k36_25
@[simp] theorem xk36_27 : GoC fns Q s k36_27 st ↔ GoC fns Q (.sq k36_25 :: s) k36_26 st := goC_seq
def k36_28 : ACode :=
  .ops [⟨.bin .lss 1 false (.p 66) (.p 65), (some 67), none⟩] k36_27
@[simp] theorem xk36_28 : GoC fns Q s k36_28 st ↔ GoO fns Q s [⟨.bin .lss 1 false (.p 66) (.p 65), (some 67), none⟩] k36_27 st := goC_ops
def lc36_1 : ACode :=
  k36_28
@[simp] theorem xlc36_1 : GoC fns Q s lc36_1 st ↔ GoC fns Q s k36_28 st := Iff.rfl
def k36_30 : ACode :=
  .loop lc36_1
@[simp] theorem xk36_30 : GoC fns Q s k36_30 st ↔ (LoopR fns lc36_1 st fun r => GoE fns Q s r.1 r.2) := goC_loop
def k36_31 : ACode :=
  .block 3 k36_30
@[simp] theorem xk36_31 : GoC fns Q s k36_31 st ↔ GoC fns Q (.bl 3 :: s) k36_30 st := goC_block
def k36_32 : ACode :=
  .seq k36_31 k36_20
@[simp] theorem xk36_32 : GoC fns Q s k36_32 st ↔ GoC fns Q (.sq k36_20 :: s) k36_31 st := goC_seq
def k36_33 : ACode :=
  .ops q36_15 k36_32
@[simp] theorem xk36_33 : GoC fns Q s k36_33 st ↔ GoO fns Q s q36_15 k36_32 st := goC_ops
def k36_34 : ACode :=
  .ops q36_16 k36_33
@[simp] theorem xk36_34 : GoC fns Q s k36_34 st ↔ GoO fns Q s q36_16 k36_33 st := goC_ops
def k36_35 : ACode :=
  .ops q36_17 .ret
@[simp] theorem xk36_35 : GoC fns Q s k36_35 st ↔ GoO fns Q s q36_17 .ret st := goC_ops
def k36_36 : ACode :=
  .ops q36_18 .ret
@[simp] theorem xk36_36 : GoC fns Q s k36_36 st ↔ GoO fns Q s q36_18 .ret st := goC_ops
def k36_37 : ACode :=
  .ops q36_19 .ret
@[simp] theorem xk36_37 : GoC fns Q s k36_37 st ↔ GoO fns Q s q36_19 .ret st := goC_ops
def k36_38 : ACode :=
  .ops q36_20 .ret
@[simp] theorem xk36_38 : GoC fns Q s k36_38 st ↔ GoO fns Q s q36_20 .ret st := goC_ops
def k36_39 : ACode :=
  .ops q36_21 .ret
@[simp] theorem xk36_39 : GoC fns Q s k36_39 st ↔ GoO fns Q s q36_21 .ret st := goC_ops
def k36_40 : ACode :=
  .ops q36_22 .ret
@[simp] theorem xk36_40 : GoC fns Q s k36_40 st ↔ GoO fns Q s q36_22 .ret st := goC_ops
def k36_41 : ACode :=
  .ops q36_23 .ret
@[simp] theorem xk36_41 : GoC fns Q s k36_41 st ↔ GoO fns Q s q36_23 .ret st := goC_ops
def k36_42 : ACode :=
  .ops q36_24 .ret
@[simp] theorem xk36_42 : GoC fns Q s k36_42 st ↔ GoO fns Q s q36_24 .ret st := goC_ops
def k36_43 : ACode :=
  .ops q36_25 .ret
@[simp] theorem xk36_43 : GoC fns Q s k36_43 st ↔ GoO fns Q s q36_25 .ret st := goC_ops
def k36_44 : ACode :=
  .ops q36_26 .ret
@[simp] theorem xk36_44 : GoC fns Q s k36_44 st ↔ GoO fns Q s q36_26 .ret st := goC_ops
def k36_45 : ACode :=
  .ops q36_27 .ret
@[simp] theorem xk36_45 : GoC fns Q s k36_45 st ↔ GoO fns Q s q36_27 .ret st := goC_ops
def k36_46 : ACode :=
  .ops q36_28 .ret
@[simp] theorem xk36_46 : GoC fns Q s k36_46 st ↔ GoO fns Q s q36_28 .ret st := goC_ops
def k36_47 : ACode :=
  .ops q36_29 .ret
@[simp] theorem xk36_47 : GoC fns Q s k36_47 st ↔ GoO fns Q s q36_29 .ret st := goC_ops
def k36_48 : ACode :=
  .cond (.p 174) k36_47 .skip
@[simp] theorem xk36_48 : GoC fns Q s k36_48 st ↔ GB fns Q s (peek st (.p 174)) k36_47 .skip st := goC_cond
def k36_49 : ACode :=
  .ops q36_30 k36_48
@[simp] theorem xk36_49 : GoC fns Q s k36_49 st ↔ GoO fns Q s q36_30 k36_48 st := goC_ops
def k36_50 : ACode :=
  .cond (.p 168) k36_46 k36_49
@[simp] theorem xk36_50 : GoC fns Q s k36_50 st ↔ GB fns Q s (peek st (.p 168)) k36_46 k36_49 st := goC_cond
def k36_51 : ACode :=
  .ops q36_31 k36_50
@[simp] theorem xk36_51 : GoC fns Q s k36_51 st ↔ GoO fns Q s q36_31 k36_50 st := goC_ops
def k36_52 : ACode :=
  .cond (.p 157) k36_45 k36_51
@[simp] theorem xk36_52 : GoC fns Q s k36_52 st ↔ GB fns Q s (peek st (.p 157)) k36_45 k36_51 st := goC_cond
def k36_53 : ACode :=
  .ops q36_32 k36_52
@[simp] theorem xk36_53 : GoC fns Q s k36_53 st ↔ GoO fns Q s q36_32 k36_52 st := goC_ops
def k36_54 : ACode :=
  .cond (.p 150) k36_44 k36_53
@[simp] theorem xk36_54 : GoC fns Q s k36_54 st ↔ GB fns Q s (peek st (.p 150)) k36_44 k36_53 st := goC_cond
def k36_55 : ACode :=
  .ops q36_33 k36_54
@[simp] theorem xk36_55 : GoC fns Q s k36_55 st ↔ GoO fns Q s q36_33 k36_54 st := goC_ops
def k36_56 : ACode :=
  .cond (.p 142) k36_43 k36_55
@[simp] theorem xk36_56 : GoC fns Q s k36_56 st ↔ GB fns Q s (peek st (.p 142)) k36_43 k36_55 st := goC_cond
def k36_57 : ACode :=
  .ops q36_34 k36_56
@[simp] theorem xk36_57 : GoC fns Q s k36_57 st ↔ GoO fns Q s q36_34 k36_56 st := goC_ops
def k36_58 : ACode :=
  .cond (.p 136) k36_42 k36_57
@[simp] theorem xk36_58 : GoC fns Q s k36_58 st ↔ GB fns Q s (peek st (.p 136)) k36_42 k36_57 st := goC_cond
def k36_59 : ACode :=
  .ops q36_35 k36_58
@[simp] theorem xk36_59 : GoC fns Q s k36_59 st ↔ GoO fns Q s q36_35 k36_58 st := goC_ops
def k36_60 : ACode :=
  .cond (.p 130) k36_41 k36_59
@[simp] theorem xk36_60 : GoC fns Q s k36_60 st ↔ GB fns Q s (peek st (.p 130)) k36_41 k36_59 st := goC_cond
def k36_61 : ACode :=
  .ops q36_36 k36_60
@[simp] theorem xk36_61 : GoC fns Q s k36_61 st ↔ GoO fns Q s q36_36 k36_60 st := goC_ops
def k36_62 : ACode :=
  .cond (.p 121) k36_40 k36_61
@[simp] theorem xk36_62 : GoC fns Q s k36_62 st ↔ GB fns Q s (peek st (.p 121)) k36_40 k36_61 st := goC_cond
def k36_63 : ACode :=
  .ops q36_37 k36_62
@[simp] theorem xk36_63 : GoC fns Q s k36_63 st ↔ GoO fns Q s q36_37 k36_62 st := goC_ops
def k36_64 : ACode :=
  .cond (.p 113) k36_39 k36_63
@[simp] theorem xk36_64 : GoC fns Q s k36_64 st ↔ GB fns Q s (peek st (.p 113)) k36_39 k36_63 st := goC_cond
def k36_65 : ACode :=
  .ops q36_38 k36_64
@[simp] theorem xk36_65 : GoC fns Q s k36_65 st ↔ GoO fns Q s q36_38 k36_64 st := goC_ops
def k36_66 : ACode :=
  .cond (.p 107) k36_38 k36_65
@[simp] theorem xk36_66 : GoC fns Q s k36_66 st ↔ GB fns Q s (peek st (.p 107)) k36_38 k36_65 st := goC_cond
def k36_67 : ACode :=
  .ops q36_39 k36_66
@[simp] theorem xk36_67 : GoC fns Q s k36_67 st ↔ GoO fns Q s q36_39 k36_66 st := goC_ops
def k36_68 : ACode :=
  .cond (.p 100) k36_37 k36_67
@[simp] theorem xk36_68 : GoC fns Q s k36_68 st ↔ GB fns Q s (peek st (.p 100)) k36_37 k36_67 st := goC_cond
def k36_69 : ACode :=
  .ops q36_40 k36_68
@[simp] theorem xk36_69 : GoC fns Q s k36_69 st ↔ GoO fns Q s q36_40 k36_68 st := goC_ops
def k36_70 : ACode :=
  .cond (.p 93) k36_36 k36_69
@[simp] theorem xk36_70 : GoC fns Q s k36_70 st ↔ GB fns Q s (peek st (.p 93)) k36_36 k36_69 st := goC_cond
def k36_71 : ACode :=
  .ops q36_41 k36_70
@[simp] theorem xk36_71 : GoC fns Q s k36_71 st ↔ GoO fns Q s q36_41 k36_70 st := goC_ops
def k36_72 : ACode :=
  .cond (.p 84) k36_35 k36_71
@[simp] theorem xk36_72 : GoC fns Q s k36_72 st ↔ GB fns Q s (peek st (.p 84)) k36_35 k36_71 st := goC_cond
def k36_73 : ACode :=
  .ops q36_42 k36_72
@[simp] theorem xk36_73 : GoC fns Q s k36_73 st ↔ GoO fns Q s q36_42 k36_72 st := goC_ops
def k36_74 : ACode :=
  .cond (.p 56) k36_34 k36_73
@[simp] theorem xk36_74 : GoC fns Q s k36_74 st ↔ GB fns Q s (peek st (.p 56)) k36_34 k36_73 st := goC_cond
def k36_75 : ACode :=
  .ops q36_43 k36_74
@[simp] theorem xk36_75 : GoC fns Q s k36_75 st ↔ GoO fns Q s q36_43 k36_74 st := goC_ops
def k36_76 : ACode :=
  .cond (.p 28) k36_18 k36_75
@[simp] theorem xk36_76 : GoC fns Q s k36_76 st ↔ GB fns Q s (peek st (.p 28)) k36_18 k36_75 st := goC_cond
def k36_77 : ACode :=
  .ops q36_44 k36_76
@[simp] theorem xk36_77 : GoC fns Q s k36_77 st ↔ GoO fns Q s q36_44 k36_76 st := goC_ops
def k36_78 : ACode :=
  .cond (.p 22) k36_2 k36_77
@[simp] theorem xk36_78 : GoC fns Q s k36_78 st ↔ GB fns Q s (peek st (.p 22)) k36_2 k36_77 st := goC_cond
def k36_79 : ACode :=
  .ops q36_45 k36_78
@[simp] theorem xk36_79 : GoC fns Q s k36_79 st ↔ GoO fns Q s q36_45 k36_78 st := goC_ops
def k36_80 : ACode :=
  .cond (.p 15) k36_1 k36_79
@[simp] theorem xk36_80 : GoC fns Q s k36_80 st ↔ GB fns Q s (peek st (.p 15)) k36_1 k36_79 st := goC_cond
def k36_81 : ACode :=
  .ops q36_46 k36_80
@[simp] theorem xk36_81 : GoC fns Q s k36_81 st ↔ GoO fns Q s q36_46 k36_80 st := goC_ops
def k36_82 : ACode :=
  .block 0 k36_81
@[simp] theorem xk36_82 : GoC fns Q s k36_82 st ↔ GoC fns Q (.bl 0 :: s) k36_81 st := goC_block
def k36_83 : ACode :=
  .seq k36_82 k36_0
@[simp] theorem xk36_83 : GoC fns Q s k36_83 st ↔ GoC fns Q (.sq k36_0 :: s) k36_82 st := goC_seq
def k36_84 : ACode :=
  .ops q36_47 k36_83
@[simp] theorem xk36_84 : GoC fns Q s k36_84 st ↔ GoO fns Q s q36_47 k36_83 st := goC_ops
def k36_85 : ACode :=
  .ops q36_48 k36_84
@[simp] theorem xk36_85 : GoC fns Q s k36_85 st ↔ GoO fns Q s q36_48 k36_84 st := goC_ops
def af36 : AFunc := ⟨183, k36_85, [.tmp 4]⟩

theorem ok36 : ∃ hs, pFunc Try.prog sg hs Try.f36 = some af36 := ⟨fun i => 0, by kernel_rfl⟩
/-- No. 67 -/
def q67_0 : List AOper :=
  [⟨.move .take (.t 0), (some 5), none⟩,
    ⟨.move .look (.t 1), (some 6), none⟩,
    ⟨.append 5 1 1 false (.t 5) (.p 6), (some 7), none⟩,
    ⟨.assign (.t 7), (some 4), none⟩]
@[simp] def eq67_0 := id q67_0.eq_1
def k67_0 : ACode :=
  .ops q67_0 .ret
@[simp] theorem xk67_0 : GoC fns Q s k67_0 st ↔ GoO fns Q s q67_0 .ret st := goC_ops
def k67_1 : ACode :=
  .ops [⟨.assign (.c (.slice .nil 0 1 [])), (some 4), none⟩] k67_0
@[simp] theorem xk67_1 : GoC fns Q s k67_1 st ↔ GoO fns Q s [⟨.assign (.c (.slice .nil 0 1 [])), (some 4), none⟩] k67_0 st := goC_ops
def af67 : AFunc := ⟨8, k67_1, [.tmp 4]⟩

theorem ok67 : ∃ hs, pFunc Try.prog sg hs Try.f67 = some af67 := ⟨fun i => 0, by kernel_rfl⟩
/-- No. 35 -/
def q35_0 : List AOper :=
  [⟨.move .take (.t 0), (some 7), none⟩,
    ⟨.move .look (.p 1), (some 8), none⟩,
    ⟨.call 57 [(.t 7, true), (.c (.int .u8 3), false), (.p 8, false)], (some 9), none⟩,
    ⟨.move .look (.t 2), (some 10), none⟩,
    ⟨.call 67 [(.t 9, true), (.t 10, false)], (some 11), none⟩,
    ⟨.assign (.t 11), (some 6), none⟩]
@[simp] def eq35_0 := id q35_0.eq_1
def k35_0 : ACode :=
  .ops q35_0 .ret
@[simp] theorem xk35_0 : GoC fns Q s k35_0 st ↔ GoO fns Q s q35_0 .ret st := goC_ops
def k35_1 : ACode :=
  .ops [⟨.assign (.c (.slice .nil 0 1 [])), (some 6), none⟩] k35_0
@[simp] theorem xk35_1 : GoC fns Q s k35_1 st ↔ GoO fns Q s [⟨.assign (.c (.slice .nil 0 1 [])), (some 6), none⟩] k35_0 st := goC_ops
def af35 : AFunc := ⟨12, k35_1, [.tmp 6]⟩

theorem ok35 : ∃ hs, pFunc Try.prog sg hs Try.f35 = some af35 := ⟨fun i => 0, by kernel_rfl⟩
/-- No. 81 -/
def q81_0 : List AOper :=
  [⟨.move .take (.t 0), (some 5), none⟩,
    ⟨.move .look (.t 1), (some 6), none⟩,
    ⟨.append 5 1 1 false (.t 5) (.p 6), (some 7), none⟩,
    ⟨.assign (.t 7), (some 4), none⟩]
@[simp] def eq81_0 := id q81_0.eq_1
def k81_0 : ACode :=
  .ops q81_0 .ret
@[simp] theorem xk81_0 : GoC fns Q s k81_0 st ↔ GoO fns Q s q81_0 .ret st := goC_ops
def k81_1 : ACode :=
  .ops [⟨.assign (.c (.slice .nil 0 1 [])), (some 4), none⟩] k81_0
@[simp] theorem xk81_1 : GoC fns Q s k81_1 st ↔ GoO fns Q s [⟨.assign (.c (.slice .nil 0 1 [])), (some 4), none⟩] k81_0 st := goC_ops
def af81 : AFunc := ⟨8, k81_1, [.tmp 4]⟩

theorem ok81 : ∃ hs, pFunc Try.prog sg hs Try.f81 = some af81 := ⟨fun i => 0, by kernel_rfl⟩
/-- No. 37 -/
def q37_0 : List AOper :=
  [⟨.move .take (.t 0), (some 7), none⟩,
    ⟨.move .look (.p 1), (some 8), none⟩,
    ⟨.call 57 [(.t 7, true), (.c (.int .u8 4), false), (.p 8, false)], (some 9), none⟩,
    ⟨.move .look (.t 2), (some 10), none⟩,
    ⟨.call 81 [(.t 9, true), (.t 10, false)], (some 11), none⟩,
    ⟨.assign (.t 11), (some 6), none⟩]
@[simp] def eq37_0 := id q37_0.eq_1
def k37_0 : ACode :=
  .ops q37_0 .ret
@[simp] theorem xk37_0 : GoC fns Q s k37_0 st ↔ GoO fns Q s q37_0 .ret st := goC_ops
def k37_1 : ACode :=
  .ops [⟨.assign (.c (.slice .nil 0 1 [])), (some 6), none⟩] k37_0
@[simp] theorem xk37_1 : GoC fns Q s k37_1 st ↔ GoO fns Q s [⟨.assign (.c (.slice .nil 0 1 [])), (some 6), none⟩] k37_0 st := goC_ops
def af37 : AFunc := ⟨12, k37_1, [.tmp 6]⟩

theorem ok37 : ∃ hs, pFunc Try.prog sg hs Try.f37 = some af37 := ⟨fun i => 0, by kernel_rfl⟩
/-- No. 38 -/
def q38_0 : List AOper :=
  [⟨.move .take (.t 0), (some 9), none⟩,
    ⟨.move .look (.p 1), (some 10), none⟩,
    ⟨.call 57 [(.t 9, true), (.c (.int .u8 5), false), (.p 10, false)], (some 11), none⟩,
    ⟨.move .look (.p 2), (some 12), none⟩,
    ⟨.move .look (.t 3), (some 13), none⟩,
    ⟨.call 68 [(.t 11, true), (.p 12, false), (.t 13, false)], (some 14), none⟩,
    ⟨.assign (.t 14), (some 8), none⟩]
@[simp] def eq38_0 := id q38_0.eq_1
def k38_0 : ACode :=
  .ops q38_0 .ret
@[simp] theorem xk38_0 : GoC fns Q s k38_0 st ↔ GoO fns Q s q38_0 .ret st := goC_ops
def k38_1 : ACode :=
  .ops [⟨.assign (.c (.slice .nil 0 1 [])), (some 8), none⟩] k38_0
@[simp] theorem xk38_1 : GoC fns Q s k38_1 st ↔ GoO fns Q s [⟨.assign (.c (.slice .nil 0 1 [])), (some 8), none⟩] k38_0 st := goC_ops
def af38 : AFunc := ⟨15, k38_1, [.tmp 8]⟩

theorem ok38 : ∃ hs, pFunc Try.prog sg hs Try.f38 = some af38 := ⟨fun i => 0, by kernel_rfl⟩
/-- No. 39 -/
def q39_0 : List AOper :=
  [⟨.move .take (.t 0), (some 5), none⟩,
    ⟨.move .look (.p 1), (some 6), none⟩,
    ⟨.call 57 [(.t 5, true), (.c (.int .u8 6), false), (.p 6, false)], (some 7), none⟩,
    ⟨.assign (.t 7), (some 4), none⟩]
@[simp] def eq39_0 := id q39_0.eq_1
def k39_0 : ACode :=
  .ops q39_0 .ret
@[simp] theorem xk39_0 : GoC fns Q s k39_0 st ↔ GoO fns Q s q39_0 .ret st := goC_ops
def k39_1 : ACode :=
  .ops [⟨.assign (.c (.slice .nil 0 1 [])), (some 4), none⟩] k39_0
@[simp] theorem xk39_1 : GoC fns Q s k39_1 st ↔ GoO fns Q s [⟨.assign (.c (.slice .nil 0 1 [])), (some 4), none⟩] k39_0 st := goC_ops
def af39 : AFunc := ⟨8, k39_1, [.tmp 4]⟩

theorem ok39 : ∃ hs, pFunc Try.prog sg hs Try.f39 = some af39 := ⟨fun i => 0, by kernel_rfl⟩
/-- No. 40 -/
def q40_0 : List AOper :=
  [⟨.move .take (.t 0), (some 7), none⟩,
    ⟨.move .look (.p 1), (some 8), none⟩,
    ⟨.load .look true 12 (.p 5), (some 10), none⟩,
    ⟨.call 57 [(.t 7, true), (.c (.int .u8 7), false), (.p 8, false)], (some 9), none⟩,
    ⟨.call 69 [(.t 9, true), (.p 10, false)], (some 11), none⟩,
    ⟨.assign (.t 11), (some 6), none⟩]
@[simp] def eq40_0 := id q40_0.eq_1
def q40_1 : List AOper :=
  [⟨.box 5 (.p 2), (some 5), none⟩,
    ⟨.assign (.c (.slice .nil 0 1 [])), (some 6), none⟩]
@[simp] def eq40_1 := id q40_1.eq_1
def k40_0 : ACode :=
  .ops q40_0 .ret
@[simp] theorem xk40_0 : GoC fns Q s k40_0 st ↔ GoO fns Q s q40_0 .ret st := goC_ops
def k40_1 : ACode :=
  .ops q40_1 k40_0
@[simp] theorem xk40_1 : GoC fns Q s k40_1 st ↔ GoO fns Q s q40_1 k40_0 st := goC_ops
def af40 : AFunc := ⟨12, k40_1, [.tmp 6]⟩

theorem ok40 : ∃ hs, pFunc Try.prog sg hs Try.f40 = some af40 := ⟨fun i => 0, by kernel_rfl⟩
/-- No. 42 -/
def q42_0 : List AOper :=
  [⟨.move .take (.t 0), (some 7), none⟩,
    ⟨.move .look (.p 1), (some 8), none⟩,
    ⟨.call 57 [(.t 7, true), (.c (.int .u8 8), false), (.p 8, false)], (some 9), none⟩,
    ⟨.move .look (.p 2), (some 10), none⟩,
    ⟨.call 70 [(.t 9, true), (.p 10, false)], (some 11), none⟩,
    ⟨.assign (.t 11), (some 6), none⟩]
@[simp] def eq42_0 := id q42_0.eq_1
def k42_0 : ACode :=
  .ops q42_0 .ret
@[simp] theorem xk42_0 : GoC fns Q s k42_0 st ↔ GoO fns Q s q42_0 .ret st := goC_ops
def k42_1 : ACode :=
  .ops [⟨.assign (.c (.slice .nil 0 1 [])), (some 6), none⟩] k42_0
@[simp] theorem xk42_1 : GoC fns Q s k42_1 st ↔ GoO fns Q s [⟨.assign (.c (.slice .nil 0 1 [])), (some 6), none⟩] k42_0 st := goC_ops
def af42 : AFunc := ⟨12, k42_1, [.tmp 6]⟩

theorem ok42 : ∃ hs, pFunc Try.prog sg hs Try.f42 = some af42 := ⟨fun i => 0, by kernel_rfl⟩
/-- No. 43 -/
def q43_0 : List AOper :=
  [⟨.move .take (.t 0), (some 7), none⟩,
    ⟨.move .look (.p 1), (some 8), none⟩,
    ⟨.call 57 [(.t 7, true), (.c (.int .u8 9), false), (.p 8, false)], (some 9), none⟩,
    ⟨.move .look (.p 2), (some 10), none⟩,
    ⟨.call 71 [(.t 9, true), (.p 10, false)], (some 11), none⟩,
    ⟨.assign (.t 11), (some 6), none⟩]
@[simp] def eq43_0 := id q43_0.eq_1
def k43_0 : ACode :=
  .ops q43_0 .ret
@[simp] theorem xk43_0 : GoC fns Q s k43_0 st ↔ GoO fns Q s q43_0 .ret st := goC_ops
def k43_1 : ACode :=
  .ops [⟨.assign (.c (.slice .nil 0 1 [])), (some 6), none⟩] k43_0
@[simp] theorem xk43_1 : GoC fns Q s k43_1 st ↔ GoO fns Q s [⟨.assign (.c (.slice .nil 0 1 [])), (some 6), none⟩] k43_0 st := goC_ops
def af43 : AFunc := ⟨12, k43_1, [.tmp 6]⟩

theorem ok43 : ∃ hs, pFunc Try.prog sg hs Try.f43 = some af43 := ⟨fun i => 0, by kernel_rfl⟩
/-- No. 44 -/
def q44_0 : List AOper :=
  [⟨.move .take (.t 0), (some 5), none⟩,
    ⟨.move .look (.p 1), (some 6), none⟩,
    ⟨.call 57 [(.t 5, true), (.c (.int .u8 10), false), (.p 6, false)], (some 7), none⟩,
    ⟨.assign (.t 7), (some 4), none⟩]
@[simp] def eq44_0 := id q44_0.eq_1
def k44_0 : ACode :=
  .ops q44_0 .ret
@[simp] theorem xk44_0 : GoC fns Q s k44_0 st ↔ GoO fns Q s q44_0 .ret st := goC_ops
def k44_1 : ACode :=
  .ops [⟨.assign (.c (.slice .nil 0 1 [])), (some 4), none⟩] k44_0
@[simp] theorem xk44_1 : GoC fns Q s k44_1 st ↔ GoO fns Q s [⟨.assign (.c (.slice .nil 0 1 [])), (some 4), none⟩] k44_0 st := goC_ops
def af44 : AFunc := ⟨8, k44_1, [.tmp 4]⟩

theorem ok44 : ∃ hs, pFunc Try.prog sg hs Try.f44 = some af44 := ⟨fun i => 0, by kernel_rfl⟩
/-- No. 45 -/
def q45_0 : List AOper :=
  [⟨.move .take (.t 0), (some 9), none⟩,
    ⟨.move .look (.p 1), (some 10), none⟩,
    ⟨.call 57 [(.t 9, true), (.c (.int .u8 11), false), (.p 10, false)], (some 11), none⟩,
    ⟨.move .look (.p 2), (some 12), none⟩,
    ⟨.move .look (.p 3), (some 13), none⟩,
    ⟨.call 72 [(.t 11, true), (.p 12, false), (.p 13, false)], (some 14), none⟩,
    ⟨.assign (.t 14), (some 8), none⟩]
@[simp] def eq45_0 := id q45_0.eq_1
def k45_0 : ACode :=
  .ops q45_0 .ret
@[simp] theorem xk45_0 : GoC fns Q s k45_0 st ↔ GoO fns Q s q45_0 .ret st := goC_ops
def k45_1 : ACode :=
  .ops [⟨.assign (.c (.slice .nil 0 1 [])), (some 8), none⟩] k45_0
@[simp] theorem xk45_1 : GoC fns Q s k45_1 st ↔ GoO fns Q s [⟨.assign (.c (.slice .nil 0 1 [])), (some 8), none⟩] k45_0 st := goC_ops
def af45 : AFunc := ⟨15, k45_1, [.tmp 8]⟩

theorem ok45 : ∃ hs, pFunc Try.prog sg hs Try.f45 = some af45 := ⟨fun i => 0, by kernel_rfl⟩
/-- No. 46 -/
def q46_0 : List AOper :=
  [⟨.move .take (.t 0), (some 9), none⟩,
    ⟨.move .look (.p 1), (some 10), none⟩,
    ⟨.move .look (.p 2), (some 12), none⟩,
    ⟨.load .look true 12 (.p 7), (some 13), none⟩,
    ⟨.call 57 [(.t 9, true), (.c (.int .u8 12), false), (.p 10, false)], (some 11), none⟩,
    ⟨.call 73 [(.t 11, true), (.p 12, false), (.p 13, false)], (some 14), none⟩,
    ⟨.assign (.t 14), (some 8), none⟩]
@[simp] def eq46_0 := id q46_0.eq_1
def q46_1 : List AOper :=
  [⟨.box 7 (.p 3), (some 7), none⟩,
    ⟨.assign (.c (.slice .nil 0 1 [])), (some 8), none⟩]
@[simp] def eq46_1 := id q46_1.eq_1
def k46_0 : ACode :=
  .ops q46_0 .ret
@[simp] theorem xk46_0 : GoC fns Q s k46_0 st ↔ GoO fns Q s q46_0 .ret st := goC_ops
def k46_1 : ACode :=
  .ops q46_1 k46_0
@[simp] theorem xk46_1 : GoC fns Q s k46_1 st ↔ GoO fns Q s q46_1 k46_0 st := goC_ops
def af46 : AFunc := ⟨15, k46_1, [.tmp 8]⟩

theorem ok46 : ∃ hs, pFunc Try.prog sg hs Try.f46 = some af46 := ⟨fun i => 0, by kernel_rfl⟩
/-- No. 47 -/
def q47_0 : List AOper :=
  [⟨.move .take (.t 0), (some 7), none⟩,
    ⟨.move .look (.p 1), (some 8), none⟩,
    ⟨.call 57 [(.t 7, true), (.c (.int .u8 13), false), (.p 8, false)], (some 9), none⟩,
    ⟨.move .look (.p 2), (some 10), none⟩,
    ⟨.call 74 [(.t 9, true), (.p 10, false)], (some 11), none⟩,
    ⟨.assign (.t 11), (some 6), none⟩]
@[simp] def eq47_0 := id q47_0.eq_1
def k47_0 : ACode :=
  .ops q47_0 .ret
@[simp] theorem xk47_0 : GoC fns Q s k47_0 st ↔ GoO fns Q s q47_0 .ret st := goC_ops
def k47_1 : ACode :=
  .ops [⟨.assign (.c (.slice .nil 0 1 [])), (some 6), none⟩] k47_0
@[simp] theorem xk47_1 : GoC fns Q s k47_1 st ↔ GoO fns Q s [⟨.assign (.c (.slice .nil 0 1 [])), (some 6), none⟩] k47_0 st := goC_ops
def af47 : AFunc := ⟨12, k47_1, [.tmp 6]⟩

theorem ok47 : ∃ hs, pFunc Try.prog sg hs Try.f47 = some af47 := ⟨fun i => 0, by kernel_rfl⟩
/-- No. 48 -/
def q48_0 : List AOper :=
  [⟨.move .take (.t 0), (some 7), none⟩,
    ⟨.move .look (.p 1), (some 8), none⟩,
    ⟨.call 57 [(.t 7, true), (.c (.int .u8 14), false), (.p 8, false)], (some 9), none⟩,
    ⟨.move .look (.p 2), (some 10), none⟩,
    ⟨.call 75 [(.t 9, true), (.p 10, false)], (some 11), none⟩,
    ⟨.assign (.t 11), (some 6), none⟩]
@[simp] def eq48_0 := id q48_0.eq_1
def k48_0 : ACode :=
  .ops q48_0 .ret
@[simp] theorem xk48_0 : GoC fns Q s k48_0 st ↔ GoO fns Q s q48_0 .ret st := goC_ops
def k48_1 : ACode :=
  .ops [⟨.assign (.c (.slice .nil 0 1 [])), (some 6), none⟩] k48_0
@[simp] theorem xk48_1 : GoC fns Q s k48_1 st ↔ GoO fns Q s [⟨.assign (.c (.slice .nil 0 1 [])), (some 6), none⟩] k48_0 st := goC_ops
def af48 : AFunc := ⟨12, k48_1, [.tmp 6]⟩

theorem ok48 : ∃ hs, pFunc Try.prog sg hs Try.f48 = some af48 := ⟨fun i => 0, by kernel_rfl⟩
/-- No. 49 -/
def q49_0 : List AOper :=
  [⟨.move .take (.t 0), (some 9), none⟩,
    ⟨.move .look (.p 1), (some 10), none⟩,
    ⟨.call 57 [(.t 9, true), (.c (.int .u8 15), false), (.p 10, false)], (some 11), none⟩,
    ⟨.move .look (.p 2), (some 12), none⟩,
    ⟨.move .look (.t 3), (some 13), none⟩,
    ⟨.call 76 [(.t 11, true), (.p 12, false), (.t 13, false)], (some 14), none⟩,
    ⟨.assign (.t 14), (some 8), none⟩]
@[simp] def eq49_0 := id q49_0.eq_1
def k49_0 : ACode :=
  .ops q49_0 .ret
@[simp] theorem xk49_0 : GoC fns Q s k49_0 st ↔ GoO fns Q s q49_0 .ret st := goC_ops
def k49_1 : ACode :=
  .ops [⟨.assign (.c (.slice .nil 0 1 [])), (some 8), none⟩] k49_0
@[simp] theorem xk49_1 : GoC fns Q s k49_1 st ↔ GoO fns Q s [⟨.assign (.c (.slice .nil 0 1 [])), (some 8), none⟩] k49_0 st := goC_ops
def af49 : AFunc := ⟨15, k49_1, [.tmp 8]⟩

theorem ok49 : ∃ hs, pFunc Try.prog sg hs Try.f49 = some af49 := ⟨fun i => 0, by kernel_rfl⟩
/-- No. 51 -/
def q51_0 : List AOper :=
  [⟨.move .take (.t 0), (some 7), none⟩,
    ⟨.move .look (.p 1), (some 8), none⟩,
    ⟨.call 57 [(.t 7, true), (.c (.int .u8 16), false), (.p 8, false)], (some 9), none⟩,
    ⟨.move .look (.p 2), (some 10), none⟩,
    ⟨.call 77 [(.t 9, true), (.p 10, false)], (some 11), none⟩,
    ⟨.assign (.t 11), (some 6), none⟩]
@[simp] def eq51_0 := id q51_0.eq_1
def k51_0 : ACode :=
  .ops q51_0 .ret
@[simp] theorem xk51_0 : GoC fns Q s k51_0 st ↔ GoO fns Q s q51_0 .ret st := goC_ops
def k51_1 : ACode :=
  .ops [⟨.assign (.c (.slice .nil 0 1 [])), (some 6), none⟩] k51_0
@[simp] theorem xk51_1 : GoC fns Q s k51_1 st ↔ GoO fns Q s [⟨.assign (.c (.slice .nil 0 1 [])), (some 6), none⟩] k51_0 st := goC_ops
def af51 : AFunc := ⟨12, k51_1, [.tmp 6]⟩

theorem ok51 : ∃ hs, pFunc Try.prog sg hs Try.f51 = some af51 := ⟨fun i => 0, by kernel_rfl⟩
/-- No. 52 -/
def q52_0 : List AOper :=
  [⟨.move .take (.t 0), (some 9), none⟩,
    ⟨.move .look (.p 1), (some 10), none⟩,
    ⟨.call 57 [(.t 9, true), (.c (.int .u8 17), false), (.p 10, false)], (some 11), none⟩,
    ⟨.move .look (.p 2), (some 12), none⟩,
    ⟨.move .look (.p 3), (some 13), none⟩,
    ⟨.call 78 [(.t 11, true), (.p 12, false), (.p 13, false)], (some 14), none⟩,
    ⟨.assign (.t 14), (some 8), none⟩]
@[simp] def eq52_0 := id q52_0.eq_1
def k52_0 : ACode :=
  .ops q52_0 .ret
@[simp] theorem xk52_0 : GoC fns Q s k52_0 st ↔ GoO fns Q s q52_0 .ret st := goC_ops
def k52_1 : ACode :=
  .ops [⟨.assign (.c (.slice .nil 0 1 [])), (some 8), none⟩] k52_0
@[simp] theorem xk52_1 : GoC fns Q s k52_1 st ↔ GoO fns Q s [⟨.assign (.c (.slice .nil 0 1 [])), (some 8), none⟩] k52_0 st := goC_ops
def af52 : AFunc := ⟨15, k52_1, [.tmp 8]⟩

theorem ok52 : ∃ hs, pFunc Try.prog sg hs Try.f52 = some af52 := ⟨fun i => 0, by kernel_rfl⟩
/-- No. 53 -/
def q53_0 : List AOper :=
  [⟨.move .take (.t 0), (some 7), none⟩,
    ⟨.move .look (.p 1), (some 8), none⟩,
    ⟨.call 57 [(.t 7, true), (.c (.int .u8 18), false), (.p 8, false)], (some 9), none⟩,
    ⟨.move .look (.p 2), (some 10), none⟩,
    ⟨.call 79 [(.t 9, true), (.p 10, false)], (some 11), none⟩,
    ⟨.assign (.t 11), (some 6), none⟩]
@[simp] def eq53_0 := id q53_0.eq_1
def k53_0 : ACode :=
  .ops q53_0 .ret
@[simp] theorem xk53_0 : GoC fns Q s k53_0 st ↔ GoO fns Q s q53_0 .ret st := goC_ops
def k53_1 : ACode :=
  .ops [⟨.assign (.c (.slice .nil 0 1 [])), (some 6), none⟩] k53_0
@[simp] theorem xk53_1 : GoC fns Q s k53_1 st ↔ GoO fns Q s [⟨.assign (.c (.slice .nil 0 1 [])), (some 6), none⟩] k53_0 st := goC_ops
def af53 : AFunc := ⟨12, k53_1, [.tmp 6]⟩

theorem ok53 : ∃ hs, pFunc Try.prog sg hs Try.f53 = some af53 := ⟨fun i => 0, by kernel_rfl⟩
/-- No. 54 -/
def q54_0 : List AOper :=
  [⟨.move .take (.t 0), (some 9), none⟩,
    ⟨.move .look (.p 1), (some 10), none⟩,
    ⟨.call 57 [(.t 9, true), (.c (.int .u8 19), false), (.p 10, false)], (some 11), none⟩,
    ⟨.move .look (.p 2), (some 12), none⟩,
    ⟨.move .look (.p 3), (some 13), none⟩,
    ⟨.call 80 [(.t 11, true), (.p 12, false), (.p 13, false)], (some 14), none⟩,
    ⟨.assign (.t 14), (some 8), none⟩]
@[simp] def eq54_0 := id q54_0.eq_1
def k54_0 : ACode :=
  .ops q54_0 .ret
@[simp] theorem xk54_0 : GoC fns Q s k54_0 st ↔ GoO fns Q s q54_0 .ret st := goC_ops
def k54_1 : ACode :=
  .ops [⟨.assign (.c (.slice .nil 0 1 [])), (some 8), none⟩] k54_0
@[simp] theorem xk54_1 : GoC fns Q s k54_1 st ↔ GoO fns Q s [⟨.assign (.c (.slice .nil 0 1 [])), (some 8), none⟩] k54_0 st := goC_ops
def af54 : AFunc := ⟨15, k54_1, [.tmp 8]⟩

theorem ok54 : ∃ hs, pFunc Try.prog sg hs Try.f54 = some af54 := ⟨fun i => 0, by kernel_rfl⟩
/-- No. 55 -/
def q55_0 : List AOper :=
  [⟨.move .take (.t 0), (some 5), none⟩,
    ⟨.move .look (.p 1), (some 6), none⟩,
    ⟨.call 57 [(.t 5, true), (.c (.int .u8 127), false), (.p 6, false)], (some 7), none⟩,
    ⟨.assign (.t 7), (some 4), none⟩]
@[simp] def eq55_0 := id q55_0.eq_1
def k55_0 : ACode :=
  .ops q55_0 .ret
@[simp] theorem xk55_0 : GoC fns Q s k55_0 st ↔ GoO fns Q s q55_0 .ret st := goC_ops
def k55_1 : ACode :=
  .ops [⟨.assign (.c (.slice .nil 0 1 [])), (some 4), none⟩] k55_0
@[simp] theorem xk55_1 : GoC fns Q s k55_1 st ↔ GoO fns Q s [⟨.assign (.c (.slice .nil 0 1 [])), (some 4), none⟩] k55_0 st := goC_ops
def af55 : AFunc := ⟨8, k55_1, [.tmp 4]⟩

theorem ok55 : ∃ hs, pFunc Try.prog sg hs Try.f55 = some af55 := ⟨fun i => 0, by kernel_rfl⟩
/-- No. 56 -/
def q56_0 : List AOper :=
  [⟨.move .take (.t 0), (some 5), none⟩,
    ⟨.move .look (.p 1), (some 6), none⟩,
    ⟨.call 57 [(.t 5, true), (.c (.int .u8 255), false), (.p 6, false)], (some 7), none⟩,
    ⟨.assign (.t 7), (some 4), none⟩]
@[simp] def eq56_0 := id q56_0.eq_1
def k56_0 : ACode :=
  .ops q56_0 .ret
@[simp] theorem xk56_0 : GoC fns Q s k56_0 st ↔ GoO fns Q s q56_0 .ret st := goC_ops
def k56_1 : ACode :=
  .ops [⟨.assign (.c (.slice .nil 0 1 [])), (some 4), none⟩] k56_0
@[simp] theorem xk56_1 : GoC fns Q s k56_1 st ↔ GoO fns Q s [⟨.assign (.c (.slice .nil 0 1 [])), (some 4), none⟩] k56_0 st := goC_ops
def af56 : AFunc := ⟨8, k56_1, [.tmp 4]⟩

theorem ok56 : ∃ hs, pFunc Try.prog sg hs Try.f56 = some af56 := ⟨fun i => 0, by kernel_rfl⟩
/-- No. 20 -/
def q20_0 : List AOper :=
  [⟨.move .take (.t 0), (some 169), none⟩,
    ⟨.assign (.t 169), (some 6), none⟩]
@[simp] def eq20_0 := id q20_0.eq_1
def q20_1 : List AOper :=
  [⟨.move .take (.t 0), (some 11), none⟩,
    ⟨.move .look (.p 1), (some 12), none⟩,
    ⟨.fieldAddr 4 (.p 5), (some 13), none⟩,
    ⟨.load .look false 1 (.p 13), (some 14), none⟩,
    ⟨.px (.fb 1) [.p 14], (some 15), none⟩,
    ⟨.call 32 [(.t 11, true), (.p 12, false), (.p 15, false)], (some 16), none⟩,
    ⟨.assign (.t 16), (some 6), none⟩]
@[simp] def eq20_1 := id q20_1.eq_1
def q20_2 : List AOper :=
  [⟨.move .take (.t 0), (some 19), none⟩,
    ⟨.move .look (.p 1), (some 20), none⟩,
    ⟨.fieldAddr 1 (.p 5), (some 21), none⟩,
    ⟨.load .look false 1 (.p 21), (some 22), none⟩,
    ⟨.call 34 [(.t 19, true), (.p 20, false), (.p 22, false)], (some 23), none⟩,
    ⟨.assign (.t 23), (some 6), none⟩]
@[simp] def eq20_2 := id q20_2.eq_1
def q20_3 : List AOper :=
  [⟨.move .take (.t 0), (some 26), none⟩,
    ⟨.move .look (.p 1), (some 27), none⟩,
    ⟨.load .look true 8 (.p 5), (some 28), none⟩,
    ⟨.call 36 [(.c (.slice .nil 0 1 []), true), (.p 28, false)], (some 29), none⟩,
    ⟨.call 35 [(.t 26, true), (.p 27, false), (.t 29, false)], (some 30), none⟩,
    ⟨.assign (.t 30), (some 6), none⟩]
@[simp] def eq20_3 := id q20_3.eq_1
def q20_4 : List AOper :=
  [⟨.move .take (.t 0), (some 33), none⟩,
    ⟨.move .look (.p 1), (some 34), none⟩,
    ⟨.load .look true 8 (.p 5), (some 35), none⟩,
    ⟨.call 36 [(.c (.slice .nil 0 1 []), true), (.p 35, false)], (some 36), none⟩,
    ⟨.call 37 [(.t 33, true), (.p 34, false), (.t 36, false)], (some 37), none⟩,
    ⟨.assign (.t 37), (some 6), none⟩]
@[simp] def eq20_4 := id q20_4.eq_1
def q20_5 : List AOper :=
  [⟨.move .take (.t 0), (some 40), none⟩,
    ⟨.move .look (.p 1), (some 41), none⟩,
    ⟨.fieldAddr 3 (.p 5), (some 42), none⟩,
    ⟨.load .look false 1 (.p 42), (some 43), none⟩,
    ⟨.convInt .u8 (.p 43), (some 44), none⟩,
    ⟨.fieldAddr 6 (.p 5), (some 45), none⟩,
    ⟨.load .look false 1 (.p 45), (some 46), none⟩,
    ⟨.call 38 [(.t 40, true), (.p 41, false), (.p 44, false), (.t 46, false)], (some 47), none⟩,
    ⟨.assign (.t 47), (some 6), none⟩]
@[simp] def eq20_5 := id q20_5.eq_1
def q20_6 : List AOper :=
  [⟨.move .take (.t 0), (some 50), none⟩,
    ⟨.move .look (.p 1), (some 51), none⟩,
    ⟨.call 39 [(.t 50, true), (.p 51, false)], (some 52), none⟩,
    ⟨.assign (.t 52), (some 6), none⟩]
@[simp] def eq20_6 := id q20_6.eq_1
def q20_7 : List AOper :=
  [⟨.move .take (.t 0), (some 55), none⟩,
    ⟨.move .look (.p 1), (some 56), none⟩,
    ⟨.fieldAddr 6 (.p 5), (some 57), none⟩,
    ⟨.load .look false 1 (.p 57), (some 58), none⟩,
    ⟨.call 41 [(.t 58, false)], (some 59), none⟩,
    ⟨.call 40 [(.t 55, true), (.p 56, false), (.p 59, false)], (some 60), none⟩,
    ⟨.assign (.t 60), (some 6), none⟩]
@[simp] def eq20_7 := id q20_7.eq_1
def q20_8 : List AOper :=
  [⟨.move .take (.t 0), (some 63), none⟩,
    ⟨.move .look (.p 1), (some 64), none⟩,
    ⟨.fieldAddr 3 (.p 5), (some 65), none⟩,
    ⟨.load .head false 1 (.p 65), (some 66), none⟩,
    ⟨.bin .neq 1 true (.p 66) (.c (.int .i64 0)), (some 67), none⟩,
    ⟨.call 42 [(.t 63, true), (.p 64, false), (.p 67, false)], (some 68), none⟩,
    ⟨.assign (.t 68), (some 6), none⟩]
@[simp] def eq20_8 := id q20_8.eq_1
def q20_9 : List AOper :=
  [⟨.move .take (.t 0), (some 71), none⟩,
    ⟨.move .look (.p 1), (some 72), none⟩,
    ⟨.fieldAddr 3 (.p 5), (some 73), none⟩,
    ⟨.load .look false 1 (.p 73), (some 74), none⟩,
    ⟨.call 43 [(.t 71, true), (.p 72, false), (.p 74, false)], (some 75), none⟩,
    ⟨.assign (.t 75), (some 6), none⟩]
@[simp] def eq20_9 := id q20_9.eq_1
def q20_10 : List AOper :=
  [⟨.move .take (.t 0), (some 78), none⟩,
    ⟨.move .look (.p 1), (some 79), none⟩,
    ⟨.call 44 [(.t 78, true), (.p 79, false)], (some 80), none⟩,
    ⟨.assign (.t 80), (some 6), none⟩]
@[simp] def eq20_10 := id q20_10.eq_1
def q20_11 : List AOper :=
  [⟨.move .take (.t 0), (some 83), none⟩,
    ⟨.move .look (.p 1), (some 84), none⟩,
    ⟨.fieldAddr 1 (.p 5), (some 85), none⟩,
    ⟨.load .look false 1 (.p 85), (some 86), none⟩,
    ⟨.fieldAddr 2 (.p 5), (some 87), none⟩,
    ⟨.load .look false 1 (.p 87), (some 88), none⟩,
    ⟨.call 45 [(.t 83, true), (.p 84, false), (.p 86, false), (.p 88, false)], (some 89), none⟩,
    ⟨.assign (.t 89), (some 6), none⟩]
@[simp] def eq20_11 := id q20_11.eq_1
def q20_12 : List AOper :=
  [⟨.move .take (.t 0), (some 92), none⟩,
    ⟨.move .look (.p 1), (some 93), none⟩,
    ⟨.fieldAddr 1 (.p 5), (some 94), none⟩,
    ⟨.load .look false 1 (.p 94), (some 95), none⟩,
    ⟨.fieldAddr 6 (.p 5), (some 96), none⟩,
    ⟨.load .look false 1 (.p 96), (some 97), none⟩,
    ⟨.call 41 [(.t 97, false)], (some 98), none⟩,
    ⟨.call 46 [(.t 92, true), (.p 93, false), (.p 95, false), (.p 98, false)], (some 99), none⟩,
    ⟨.assign (.t 99), (some 6), none⟩]
@[simp] def eq20_12 := id q20_12.eq_1
def q20_13 : List AOper :=
  [⟨.move .take (.t 0), (some 102), none⟩,
    ⟨.move .look (.p 1), (some 103), none⟩,
    ⟨.fieldAddr 1 (.p 5), (some 104), none⟩,
    ⟨.load .look false 1 (.p 104), (some 105), none⟩,
    ⟨.call 47 [(.t 102, true), (.p 103, false), (.p 105, false)], (some 106), none⟩,
    ⟨.assign (.t 106), (some 6), none⟩]
@[simp] def eq20_13 := id q20_13.eq_1
def q20_14 : List AOper :=
  [⟨.move .take (.t 0), (some 109), none⟩,
    ⟨.move .look (.p 1), (some 110), none⟩,
    ⟨.fieldAddr 1 (.p 5), (some 111), none⟩,
    ⟨.load .look false 1 (.p 111), (some 112), none⟩,
    ⟨.call 48 [(.t 109, true), (.p 110, false), (.p 112, false)], (some 113), none⟩,
    ⟨.assign (.t 113), (some 6), none⟩]
@[simp] def eq20_14 := id q20_14.eq_1
def q20_15 : List AOper :=
  [⟨.move .take (.t 0), (some 116), none⟩,
    ⟨.move .look (.p 1), (some 117), none⟩,
    ⟨.fieldAddr 1 (.p 5), (some 118), none⟩,
    ⟨.load .look false 1 (.p 118), (some 119), none⟩,
    ⟨.load .look true 8 (.p 5), (some 120), none⟩,
    ⟨.call 50 [(.p 120, false)], (some 121), none⟩,
    ⟨.call 49 [(.t 116, true), (.p 117, false), (.p 119, false), (.t 121, false)], (some 122), none⟩,
    ⟨.assign (.t 122), (some 6), none⟩]
@[simp] def eq20_15 := id q20_15.eq_1
def q20_16 : List AOper :=
  [⟨.move .take (.t 0), (some 125), none⟩,
    ⟨.move .look (.p 1), (some 126), none⟩,
    ⟨.fieldAddr 3 (.p 5), (some 127), none⟩,
    ⟨.load .look false 1 (.p 127), (some 128), none⟩,
    ⟨.convInt .i32 (.p 128), (some 129), none⟩,
    ⟨.call 51 [(.t 125, true), (.p 126, false), (.p 129, false)], (some 130), none⟩,
    ⟨.assign (.t 130), (some 6), none⟩]
@[simp] def eq20_16 := id q20_16.eq_1
def q20_17 : List AOper :=
  [⟨.move .take (.t 0), (some 133), none⟩,
    ⟨.move .look (.p 1), (some 134), none⟩,
    ⟨.fieldAddr 4 (.p 5), (some 135), none⟩,
    ⟨.load .look false 1 (.p 135), (some 136), none⟩,
    ⟨.bin .shr 1 true (.p 136) (.c (.int .u64 32)), (some 137), none⟩,
    ⟨.convInt .u32 (.p 137), (some 138), none⟩,
    ⟨.fieldAddr 4 (.p 5), (some 139), none⟩,
    ⟨.load .look false 1 (.p 139), (some 140), none⟩,
    ⟨.convInt .u32 (.p 140), (some 141), none⟩,
    ⟨.call 52 [(.t 133, true), (.p 134, false), (.p 138, false), (.p 141, false)], (some 142), none⟩,
    ⟨.assign (.t 142), (some 6), none⟩]
@[simp] def eq20_17 := id q20_17.eq_1
def q20_18 : List AOper :=
  [⟨.move .take (.t 0), (some 145), none⟩,
    ⟨.move .look (.p 1), (some 146), none⟩,
    ⟨.fieldAddr 3 (.p 5), (some 147), none⟩,
    ⟨.load .look false 1 (.p 147), (some 148), none⟩,
    ⟨.call 53 [(.t 145, true), (.p 146, false), (.p 148, false)], (some 149), none⟩,
    ⟨.assign (.t 149), (some 6), none⟩]
@[simp] def eq20_18 := id q20_18.eq_1
def q20_19 : List AOper :=
  [⟨.move .take (.t 0), (some 152), none⟩,
    ⟨.move .look (.p 1), (some 153), none⟩,
    ⟨.fieldAddr 5 (.p 5), (some 154), none⟩,
    ⟨.load .look false 1 (.p 154), (some 155), none⟩,
    ⟨.fieldAddr 4 (.p 5), (some 156), none⟩,
    ⟨.load .look false 1 (.p 156), (some 157), none⟩,
    ⟨.call 54 [(.t 152, true), (.p 153, false), (.p 155, false), (.p 157, false)], (some 158), none⟩,
    ⟨.assign (.t 158), (some 6), none⟩]
@[simp] def eq20_19 := id q20_19.eq_1
def q20_20 : List AOper :=
  [⟨.move .take (.t 0), (some 161), none⟩,
    ⟨.move .look (.p 1), (some 162), none⟩,
    ⟨.call 55 [(.t 161, true), (.p 162, false)], (some 163), none⟩,
    ⟨.assign (.t 163), (some 6), none⟩]
@[simp] def eq20_20 := id q20_20.eq_1
def q20_21 : List AOper :=
  [⟨.move .take (.t 0), (some 166), none⟩,
    ⟨.move .look (.p 1), (some 167), none⟩,
    ⟨.call 56 [(.t 166, true), (.p 167, false)], (some 168), none⟩,
    ⟨.assign (.t 168), (some 6), none⟩]
@[simp] def eq20_21 := id q20_21.eq_1
def q20_22 : List AOper :=
  [⟨.bin .eql 1 true (.p 8) (.c (.int .i64 255)), (some 165), none⟩,
    ⟨.assign (.p 165), (some 164), none⟩]
@[simp] def eq20_22 := id q20_22.eq_1
def q20_23 : List AOper :=
  [⟨.bin .eql 1 true (.p 8) (.c (.int .i64 127)), (some 160), none⟩,
    ⟨.assign (.p 160), (some 159), none⟩]
@[simp] def eq20_23 := id q20_23.eq_1
def q20_24 : List AOper :=
  [⟨.bin .eql 1 true (.p 8) (.c (.int .i64 19)), (some 151), none⟩,
    ⟨.assign (.p 151), (some 150), none⟩]
@[simp] def eq20_24 := id q20_24.eq_1
def q20_25 : List AOper :=
  [⟨.bin .eql 1 true (.p 8) (.c (.int .i64 18)), (some 144), none⟩,
    ⟨.assign (.p 144), (some 143), none⟩]
@[simp] def eq20_25 := id q20_25.eq_1
def q20_26 : List AOper :=
  [⟨.bin .eql 1 true (.p 8) (.c (.int .i64 17)), (some 132), none⟩,
    ⟨.assign (.p 132), (some 131), none⟩]
@[simp] def eq20_26 := id q20_26.eq_1
def q20_27 : List AOper :=
  [⟨.bin .eql 1 true (.p 8) (.c (.int .i64 16)), (some 124), none⟩,
    ⟨.assign (.p 124), (some 123), none⟩]
@[simp] def eq20_27 := id q20_27.eq_1
def q20_28 : List AOper :=
  [⟨.bin .eql 1 true (.p 8) (.c (.int .i64 15)), (some 115), none⟩,
    ⟨.assign (.p 115), (some 114), none⟩]
@[simp] def eq20_28 := id q20_28.eq_1
def q20_29 : List AOper :=
  [⟨.bin .eql 1 true (.p 8) (.c (.int .i64 14)), (some 108), none⟩,
    ⟨.assign (.p 108), (some 107), none⟩]
@[simp] def eq20_29 := id q20_29.eq_1
def q20_30 : List AOper :=
  [⟨.bin .eql 1 true (.p 8) (.c (.int .i64 13)), (some 101), none⟩,
    ⟨.assign (.p 101), (some 100), none⟩]
@[simp] def eq20_30 := id q20_30.eq_1
def q20_31 : List AOper :=
  [⟨.bin .eql 1 true (.p 8) (.c (.int .i64 12)), (some 91), none⟩,
    ⟨.assign (.p 91), (some 90), none⟩]
@[simp] def eq20_31 := id q20_31.eq_1
def q20_32 : List AOper :=
  [⟨.bin .eql 1 true (.p 8) (.c (.int .i64 11)), (some 82), none⟩,
    ⟨.assign (.p 82), (some 81), none⟩]
@[simp] def eq20_32 := id q20_32.eq_1
def q20_33 : List AOper :=
  [⟨.bin .eql 1 true (.p 8) (.c (.int .i64 10)), (some 77), none⟩,
    ⟨.assign (.p 77), (some 76), none⟩]
@[simp] def eq20_33 := id q20_33.eq_1
def q20_34 : List AOper :=
  [⟨.bin .eql 1 true (.p 8) (.c (.int .i64 9)), (some 70), none⟩,
    ⟨.assign (.p 70), (some 69), none⟩]
@[simp] def eq20_34 := id q20_34.eq_1
def q20_35 : List AOper :=
  [⟨.bin .eql 1 true (.p 8) (.c (.int .i64 8)), (some 62), none⟩,
    ⟨.assign (.p 62), (some 61), none⟩]
@[simp] def eq20_35 := id q20_35.eq_1
def q20_36 : List AOper :=
  [⟨.bin .eql 1 true (.p 8) (.c (.int .i64 7)), (some 54), none⟩,
    ⟨.assign (.p 54), (some 53), none⟩]
@[simp] def eq20_36 := id q20_36.eq_1
def q20_37 : List AOper :=
  [⟨.bin .eql 1 true (.p 8) (.c (.int .i64 6)), (some 49), none⟩,
    ⟨.assign (.p 49), (some 48), none⟩]
@[simp] def eq20_37 := id q20_37.eq_1
def q20_38 : List AOper :=
  [⟨.bin .eql 1 true (.p 8) (.c (.int .i64 5)), (some 39), none⟩,
    ⟨.assign (.p 39), (some 38), none⟩]
@[simp] def eq20_38 := id q20_38.eq_1
def q20_39 : List AOper :=
  [⟨.bin .eql 1 true (.p 8) (.c (.int .i64 4)), (some 32), none⟩,
    ⟨.assign (.p 32), (some 31), none⟩]
@[simp] def eq20_39 := id q20_39.eq_1
def q20_40 : List AOper :=
  [⟨.bin .eql 1 true (.p 8) (.c (.int .i64 3)), (some 25), none⟩,
    ⟨.assign (.p 25), (some 24), none⟩]
@[simp] def eq20_40 := id q20_40.eq_1
def q20_41 : List AOper :=
  [⟨.bin .eql 1 true (.p 8) (.c (.int .i64 2)), (some 18), none⟩,
    ⟨.assign (.p 18), (some 17), none⟩]
@[simp] def eq20_41 := id q20_41.eq_1
def q20_42 : List AOper :=
  [⟨.bin .eql 1 true (.p 8) (.c (.int .i64 1)), (some 10), none⟩,
    ⟨.assign (.p 10), (some 9), none⟩]
@[simp] def eq20_42 := id q20_42.eq_1
def q20_43 : List AOper :=
  [⟨.fieldAddr 0 (.p 5), (some 7), none⟩,
    ⟨.load .head false 1 (.p 7), (some 8), none⟩]
@[simp] def eq20_43 := id q20_43.eq_1
def q20_44 : List AOper :=
  [⟨.box 5 (.p 2), (some 5), none⟩,
    ⟨.assign (.c (.slice .nil 0 1 [])), (some 6), none⟩]
@[simp] def eq20_44 := id q20_44.eq_1
def k20_0 : ACode :=
  .ops q20_0 .ret
@[simp] theorem xk20_0 : GoC fns Q s k20_0 st ↔ GoO fns Q s q20_0 .ret st := goC_ops
def k20_1 : ACode :=
  .ops q20_1 .ret
@[simp] theorem xk20_1 : GoC fns Q s k20_1 st ↔ GoO fns Q s q20_1 .ret st := goC_ops
def k20_2 : ACode :=
  .ops q20_2 .ret
@[simp] theorem xk20_2 : GoC fns Q s k20_2 st ↔ GoO fns Q s q20_2 .ret st := goC_ops
def k20_3 : ACode :=
  .ops q20_3 .ret
@[simp] theorem xk20_3 : GoC fns Q s k20_3 st ↔ GoO fns Q s q20_3 .ret st := goC_ops
def k20_4 : ACode :=
  .ops q20_4 .ret
@[simp] theorem xk20_4 : GoC fns Q s k20_4 st ↔ GoO fns Q s q20_4 .ret st := goC_ops
def k20_5 : ACode :=
  .ops q20_5 .ret
@[simp] theorem xk20_5 : GoC fns Q s k20_5 st ↔ GoO fns Q s q20_5 .ret st := goC_ops
def k20_6 : ACode :=
  .ops q20_6 .ret
@[simp] theorem xk20_6 : GoC fns Q s k20_6 st ↔ GoO fns Q s q20_6 .ret st := goC_ops
def k20_7 : ACode :=
  .ops q20_7 .ret
@[simp] theorem xk20_7 : GoC fns Q s k20_7 st ↔ GoO fns Q s q20_7 .ret st := goC_ops
def k20_8 : ACode :=
  .ops q20_8 .ret
@[simp] theorem xk20_8 : GoC fns Q s k20_8 st ↔ GoO fns Q s q20_8 .ret st := goC_ops
def k20_9 : ACode :=
  .ops q20_9 .ret
@[simp] theorem xk20_9 : GoC fns Q s k20_9 st ↔ GoO fns Q s q20_9 .ret st := goC_ops
def k20_10 : ACode :=
  .ops q20_10 .ret
@[simp] theorem xk20_10 : GoC fns Q s k20_10 st ↔ GoO fns Q s q20_10 .ret st := goC_ops
def k20_11 : ACode :=
  .ops q20_11 .ret
@[simp] theorem xk20_11 : GoC fns Q s k20_11 st ↔ GoO fns Q s q20_11 .ret st := goC_ops
def k20_12 : ACode :=
  .ops q20_12 .ret
@[simp] theorem xk20_12 : GoC fns Q s k20_12 st ↔ GoO fns Q s q20_12 .ret st := goC_ops
def k20_13 : ACode :=
  .ops q20_13 .ret
@[simp] theorem xk20_13 : GoC fns Q s k20_13 st ↔ GoO fns Q s q20_13 .ret st := goC_ops
def k20_14 : ACode :=
  .ops q20_14 .ret
@[simp] theorem xk20_14 : GoC fns Q s k20_14 st ↔ GoO fns Q s q20_14 .ret st := goC_ops
def k20_15 : ACode :=
  .ops q20_15 .ret
@[simp] theorem xk20_15 : GoC fns Q s k20_15 st ↔ GoO fns Q s q20_15 .ret st := goC_ops
def k20_16 : ACode :=
  .ops q20_16 .ret
@[simp] theorem xk20_16 : GoC fns Q s k20_16 st ↔ GoO fns Q s q20_16 .ret st := goC_ops
def k20_17 : ACode :=
  .ops q20_17 .ret
@[simp] theorem xk20_17 : GoC fns Q s k20_17 st ↔ GoO fns Q s q20_17 .ret st := goC_ops
def k20_18 : ACode :=
  .ops q20_18 .ret
@[simp] theorem xk20_18 : GoC fns Q s k20_18 st ↔ GoO fns Q s q20_18 .ret st := goC_ops
def k20_19 : ACode :=
  .ops q20_19 .ret
@[simp] theorem xk20_19 : GoC fns Q s k20_19 st ↔ GoO fns Q s q20_19 .ret st := goC_ops
def k20_20 : ACode :=
  .ops q20_20 .ret
@[simp] theorem xk20_20 : GoC fns Q s k20_20 st ↔ GoO fns Q s q20_20 .ret st := goC_ops
def k20_21 : ACode :=
  .ops q20_21 .ret
@[simp] theorem xk20_21 : GoC fns Q s k20_21 st ↔ GoO fns Q s q20_21 .ret st := goC_ops
def k20_22 : ACode :=
  .cond (.p 164) k20_21 .skip
@[simp] theorem xk20_22 : GoC fns Q s k20_22 st ↔ GB fns Q s (peek st (.p 164)) k20_21 .skip st := goC_cond
def k20_23 : ACode :=
  .ops q20_22 k20_22
@[simp] theorem xk20_23 : GoC fns Q s k20_23 st ↔ GoO fns Q s q20_22 k20_22 st := goC_ops
def k20_24 : ACode :=
  .cond (.p 159) k20_20 k20_23
@[simp] theorem xk20_24 : GoC fns Q s k20_24 st ↔ GB fns Q s (peek st (.p 159)) k20_20 k20_23 st := goC_cond
def k20_25 : ACode :=
  .ops q20_23 k20_24
@[simp] theorem xk20_25 : GoC fns Q s k20_25 st ↔ GoO fns Q s q20_23 k20_24 st := goC_ops
def k20_26 : ACode :=
  .cond (.p 150) k20_19 k20_25
@[simp] theorem xk20_26 : GoC fns Q s k20_26 st ↔ GB fns Q s (peek st (.p 150)) k20_19 k20_25 st := goC_cond
def k20_27 : ACode :=
  .ops q20_24 k20_26
@[simp] theorem xk20_27 : GoC fns Q s k20_27 st ↔ GoO fns Q s q20_24 k20_26 st := goC_ops
def k20_28 : ACode :=
  .cond (.p 143) k20_18 k20_27
@[simp] theorem xk20_28 : GoC fns Q s k20_28 st ↔ GB fns Q s (peek st (.p 143)) k20_18 k20_27 st := goC_cond
def k20_29 : ACode :=
  .ops q20_25 k20_28
@[simp] theorem xk20_29 : GoC fns Q s k20_29 st ↔ GoO fns Q s q20_25 k20_28 st := goC_ops
def k20_30 : ACode :=
  .cond (.p 131) k20_17 k20_29
@[simp] theorem xk20_30 : GoC fns Q s k20_30 st ↔ GB fns Q s (peek st (.p 131)) k20_17 k20_29 st := goC_cond
def k20_31 : ACode :=
  .ops q20_26 k20_30
@[simp] theorem xk20_31 : GoC fns Q s k20_31 st ↔ GoO fns Q s q20_26 k20_30 st := goC_ops
def k20_32 : ACode :=
  .cond (.p 123) k20_16 k20_31
@[simp] theorem xk20_32 : GoC fns Q s k20_32 st ↔ GB fns Q s (peek st (.p 123)) k20_16 k20_31 st := goC_cond
def k20_33 : ACode :=
  .ops q20_27 k20_32
@[simp] theorem xk20_33 : GoC fns Q s k20_33 st ↔ GoO fns Q s q20_27 k20_32 st := goC_ops
def k20_34 : ACode :=
  .cond (.p 114) k20_15 k20_33
@[simp] theorem xk20_34 : GoC fns Q s k20_34 st ↔ GB fns Q s (peek st (.p 114)) k20_15 k20_33 st := goC_cond
def k20_35 : ACode :=
  .ops q20_28 k20_34
@[simp] theorem xk20_35 : GoC fns Q s k20_35 st ↔ GoO fns Q s q20_28 k20_34 st := goC_ops
def k20_36 : ACode :=
  .cond (.p 107) k20_14 k20_35
@[simp] theorem xk20_36 : GoC fns Q s k20_36 st ↔ GB fns Q s (peek st (.p 107)) k20_14 k20_35 st := goC_cond
def k20_37 : ACode :=
  .ops q20_29 k20_36
@[simp] theorem xk20_37 : GoC fns Q s k20_37 st ↔ GoO fns Q s q20_29 k20_36 st := goC_ops
def k20_38 : ACode :=
  .cond (.p 100) k20_13 k20_37
@[simp] theorem xk20_38 : GoC fns Q s k20_38 st ↔ GB fns Q s (peek st (.p 100)) k20_13 k20_37 st := goC_cond
def k20_39 : ACode :=
  .ops q20_30 k20_38
@[simp] theorem xk20_39 : GoC fns Q s k20_39 st ↔ GoO fns Q s q20_30 k20_38 st := goC_ops
def k20_40 : ACode :=
  .cond (.p 90) k20_12 k20_39
@[simp] theorem xk20_40 : GoC fns Q s k20_40 st ↔ GB fns Q s (peek st (.p 90)) k20_12 k20_39 st := goC_cond
def k20_41 : ACode :=
  .ops q20_31 k20_40
@[simp] theorem xk20_41 : GoC fns Q s k20_41 st ↔ GoO fns Q s q20_31 k20_40 st := goC_ops
def k20_42 : ACode :=
  .cond (.p 81) k20_11 k20_41
@[simp] theorem xk20_42 : GoC fns Q s k20_42 st ↔ GB fns Q s (peek st (.p 81)) k20_11 k20_41 st := goC_cond
def k20_43 : ACode :=
  .ops q20_32 k20_42
@[simp] theorem xk20_43 : GoC fns Q s k20_43 st ↔ GoO fns Q s q20_32 k20_42 st := goC_ops
def k20_44 : ACode :=
  .cond (.p 76) k20_10 k20_43
@[simp] theorem xk20_44 : GoC fns Q s k20_44 st ↔ GB fns Q s (peek st (.p 76)) k20_10 k20_43 st := goC_cond
def k20_45 : ACode :=
  .ops q20_33 k20_44
@[simp] theorem xk20_45 : GoC fns Q s k20_45 st ↔ GoO fns Q s q20_33 k20_44 st := goC_ops
def k20_46 : ACode :=
  .cond (.p 69) k20_9 k20_45
@[simp] theorem xk20_46 : GoC fns Q s k20_46 st ↔ GB fns Q s (peek st (.p 69)) k20_9 k20_45 st := goC_cond
def k20_47 : ACode :=
  .ops q20_34 k20_46
@[simp] theorem xk20_47 : GoC fns Q s k20_47 st ↔ GoO fns Q s q20_34 k20_46 st := goC_ops
def k20_48 : ACode :=
  .cond (.p 61) k20_8 k20_47
@[simp] theorem xk20_48 : GoC fns Q s k20_48 st ↔ GB fns Q s (peek st (.p 61)) k20_8 k20_47 st := goC_cond
def k20_49 : ACode :=
  .ops q20_35 k20_48
@[simp] theorem xk20_49 : GoC fns Q s k20_49 st ↔ GoO fns Q s q20_35 k20_48 st := goC_ops
def k20_50 : ACode :=
  .cond (.p 53) k20_7 k20_49
@[simp] theorem xk20_50 : GoC fns Q s k20_50 st ↔ GB fns Q s (peek st (.p 53)) k20_7 k20_49 st := goC_cond
def k20_51 : ACode :=
  .ops q20_36 k20_50
@[simp] theorem xk20_51 : GoC fns Q s k20_51 st ↔ GoO fns Q s q20_36 k20_50 st := goC_ops
def k20_52 : ACode :=
  .cond (.p 48) k20_6 k20_51
@[simp] theorem xk20_52 : GoC fns Q s k20_52 st ↔ GB fns Q s (peek st (.p 48)) k20_6 k20_51 st := goC_cond
def k20_53 : ACode :=
  .ops q20_37 k20_52
@[simp] theorem xk20_53 : GoC fns Q s k20_53 st ↔ GoO fns Q s q20_37 k20_52 st := goC_ops
def k20_54 : ACode :=
  .cond (.p 38) k20_5 k20_53
@[simp] theorem xk20_54 : GoC fns Q s k20_54 st ↔ GB fns Q s (peek st (.p 38)) k20_5 k20_53 st := goC_cond
def k20_55 : ACode :=
  .ops q20_38 k20_54
@[simp] theorem xk20_55 : GoC fns Q s k20_55 st ↔ GoO fns Q s q20_38 k20_54 st := goC_ops
def k20_56 : ACode :=
  .cond (.p 31) k20_4 k20_55
@[simp] theorem xk20_56 : GoC fns Q s k20_56 st ↔ GB fns Q s (peek st (.p 31)) k20_4 k20_55 st := goC_cond
def k20_57 : ACode :=
  .ops q20_39 k20_56
@[simp] theorem xk20_57 : GoC fns Q s k20_57 st ↔ GoO fns Q s q20_39 k20_56 st := goC_ops
def k20_58 : ACode :=
  .cond (.p 24) k20_3 k20_57
@[simp] theorem xk20_58 : GoC fns Q s k20_58 st ↔ GB fns Q s (peek st (.p 24)) k20_3 k20_57 st := goC_cond
def k20_59 : ACode :=
  .ops q20_40 k20_58
@[simp] theorem xk20_59 : GoC fns Q s k20_59 st ↔ GoO fns Q s q20_40 k20_58 st := goC_ops
def k20_60 : ACode :=
  .cond (.p 17) k20_2 k20_59
@[simp] theorem xk20_60 : GoC fns Q s k20_60 st ↔ GB fns Q s (peek st (.p 17)) k20_2 k20_59 st := goC_cond
def k20_61 : ACode :=
  .ops q20_41 k20_60
@[simp] theorem xk20_61 : GoC fns Q s k20_61 st ↔ GoO fns Q s q20_41 k20_60 st := goC_ops
def k20_62 : ACode :=
  .cond (.p 9) k20_1 k20_61
@[simp] theorem xk20_62 : GoC fns Q s k20_62 st ↔ GB fns Q s (peek st (.p 9)) k20_1 k20_61 st := goC_cond
def k20_63 : ACode :=
  .ops q20_42 k20_62
@[simp] theorem xk20_63 : GoC fns Q s k20_63 st ↔ GoO fns Q s q20_42 k20_62 st := goC_ops
def k20_64 : ACode :=
  .block 0 k20_63
@[simp] theorem xk20_64 : GoC fns Q s k20_64 st ↔ GoC fns Q (.bl 0 :: s) k20_63 st := goC_block
def k20_65 : ACode :=
  .seq k20_64 k20_0
@[simp] theorem xk20_65 : GoC fns Q s k20_65 st ↔ GoC fns Q (.sq k20_0 :: s) k20_64 st := goC_seq
def k20_66 : ACode :=
  .ops q20_43 k20_65
@[simp] theorem xk20_66 : GoC fns Q s k20_66 st ↔ GoO fns Q s q20_43 k20_65 st := goC_ops
def k20_67 : ACode :=
  .ops q20_44 k20_66
@[simp] theorem xk20_67 : GoC fns Q s k20_67 st ↔ GoO fns Q s q20_44 k20_66 st := goC_ops
def af20 : AFunc := ⟨170, k20_67, [.tmp 6]⟩

theorem ok20 : ∃ hs, pFunc Try.prog sg hs Try.f20 = some af20 := ⟨fun i => 0, by kernel_rfl⟩
/-- No. 28 -/
def q28_0 : List AOper :=
  [⟨.move .take (.t 0), (some 6), none⟩,
    ⟨.move .look (.p 1), (some 7), none⟩,
    ⟨.call 57 [(.t 6, true), (.c (.int .u8 3), false), (.p 7, false)], (some 8), none⟩,
    ⟨.call 61 [(.t 8, true)], (some 9), none⟩,
    ⟨.extract 9 0, (some 10), none⟩,
    ⟨.extract 9 1, (some 11), none⟩,
    ⟨.assign (.p 10), (some 4), none⟩,
    ⟨.assign (.t 11), (some 5), none⟩]
@[simp] def eq28_0 := id q28_0.eq_1
def q28_1 : List AOper :=
  [⟨.assign (.c (.int .i32 0)), (some 4), none⟩,
    ⟨.assign (.c (.slice .nil 0 1 [])), (some 5), none⟩]
@[simp] def eq28_1 := id q28_1.eq_1
def k28_0 : ACode :=
  .ops q28_0 .ret
@[simp] theorem xk28_0 : GoC fns Q s k28_0 st ↔ GoO fns Q s q28_0 .ret st := goC_ops
def k28_1 : ACode :=
  .ops q28_1 k28_0
@[simp] theorem xk28_1 : GoC fns Q s k28_1 st ↔ GoO fns Q s q28_1 k28_0 st := goC_ops
def af28 : AFunc := ⟨12, k28_1, [.tmp 4, .tmp 5]⟩

theorem ok28 : ∃ hs, pFunc Try.prog sg hs Try.f28 = some af28 := ⟨fun i => 0, by kernel_rfl⟩
/-- No. 29 -/
def q29_0 : List AOper :=
  [⟨.move .take (.t 0), (some 6), none⟩,
    ⟨.move .look (.p 1), (some 7), none⟩,
    ⟨.call 57 [(.t 6, true), (.c (.int .u8 4), false), (.p 7, false)], (some 8), none⟩,
    ⟨.call 62 [(.t 8, true)], (some 9), none⟩,
    ⟨.extract 9 0, (some 10), none⟩,
    ⟨.extract 9 1, (some 11), none⟩,
    ⟨.assign (.p 10), (some 4), none⟩,
    ⟨.assign (.t 11), (some 5), none⟩]
@[simp] def eq29_0 := id q29_0.eq_1
def q29_1 : List AOper :=
  [⟨.assign (.c (.int .i32 0)), (some 4), none⟩,
    ⟨.assign (.c (.slice .nil 0 1 [])), (some 5), none⟩]
@[simp] def eq29_1 := id q29_1.eq_1
def k29_0 : ACode :=
  .ops q29_0 .ret
@[simp] theorem xk29_0 : GoC fns Q s k29_0 st ↔ GoO fns Q s q29_0 .ret st := goC_ops
def k29_1 : ACode :=
  .ops q29_1 k29_0
@[simp] theorem xk29_1 : GoC fns Q s k29_1 st ↔ GoO fns Q s q29_1 k29_0 st := goC_ops
def af29 : AFunc := ⟨12, k29_1, [.tmp 4, .tmp 5]⟩

theorem ok29 : ∃ hs, pFunc Try.prog sg hs Try.f29 = some af29 := ⟨fun i => 0, by kernel_rfl⟩
/-- No. 18 -/
def q18_0 : List AOper :=
  [⟨.move .take (.t 0), (some 74), none⟩,
    ⟨.move .head (.p 12), (some 75), none⟩,
    ⟨.bin .eql 5 true (.p 75) (.c (.nilI)), (some 76), none⟩,
    ⟨.assign (.t 74), (some 6), none⟩,
    ⟨.assign (.p 76), (some 7), none⟩]
@[simp] def eq18_0 := id q18_0.eq_1
def q18_1 : List AOper :=
  [⟨.move .take (.t 0), (some 63), none⟩,
    ⟨.move .look (.p 8), (some 64), none⟩,
    ⟨.hcall 30 [(.t 63, true), (.p 64, false)], (some 65), none⟩,
    ⟨.move .look (.t 65), (some 62), none⟩,
    ⟨.extract 62 0, (some 66), none⟩,
    ⟨.extract 62 1, (some 67), none⟩,
    ⟨.assign (.t 66), (some 0), none⟩,
    ⟨.assign (.p 67), (some 12), none⟩]
@[simp] def eq18_1 := id q18_1.eq_1
def q18_2 : List AOper :=
  [⟨.move .take (.t 0), (some 69), none⟩,
    ⟨.move .look (.p 8), (some 70), none⟩,
    ⟨.hcall 31 [(.t 69, true), (.p 70, false)], (some 71), none⟩,
    ⟨.move .look (.t 71), (some 68), none⟩,
    ⟨.extract 68 0, (some 72), none⟩,
    ⟨.extract 68 1, (some 73), none⟩,
    ⟨.assign (.t 72), (some 0), none⟩,
    ⟨.assign (.p 73), (some 12), none⟩]
@[simp] def eq18_2 := id q18_2.eq_1
def q18_3 : List AOper :=
  [⟨.fieldAddr 0 (.p 5), (some 59), none⟩,
    ⟨.load .head false 1 (.p 59), (some 60), none⟩,
    ⟨.bin .eql 1 true (.p 60) (.c (.int .i64 3)), (some 61), none⟩]
@[simp] def eq18_3 := id q18_3.eq_1
def q18_4 : List AOper :=
  [⟨.bin .add 1 true (.p 43) (.c (.int .i64 1)), (some 58), none⟩,
    ⟨.move .look (.p 58), (some 43), none⟩]
@[simp] def eq18_4 := id q18_4.eq_1
def q18_5 : List AOper :=
  [⟨.assign (.c (.slice .nil 0 1 [])), (some 6), none⟩,
    ⟨.assign (.c (.bool false)), (some 7), none⟩]
@[simp] def eq18_5 := id q18_5.eq_1
def q18_6 : List AOper :=
  [⟨.move .look (.p 11), (some 56), none⟩,
    ⟨.un .not (.p 56), (some 57), none⟩]
@[simp] def eq18_6 := id q18_6.eq_1
def q18_7 : List AOper :=
  [⟨.move .take (.t 0), (some 48), none⟩,
    ⟨.fieldAddr 0 (.p 10), (some 49), none⟩,
    ⟨.load .look false 1 (.p 49), (some 50), none⟩,
    ⟨.fieldAddr 1 (.p 10), (some 51), none⟩,
    ⟨.load .look true 8 (.p 51), (some 52), none⟩,
    ⟨.call 18 [(.t 48, true), (.p 50, false), (.p 52, false)], (some 53), none⟩,
    ⟨.move .look (.t 53), (some 47), none⟩,
    ⟨.extract 47 0, (some 54), none⟩,
    ⟨.extract 47 1, (some 55), none⟩,
    ⟨.assign (.t 54), (some 0), none⟩,
    ⟨.assign (.p 55), (some 11), none⟩]
@[simp] def eq18_7 := id q18_7.eq_1
def q18_8 : List AOper :=
  [⟨.indexAddr 9 (.t 41) (.p 43), (some 45), none⟩,
    ⟨.load .take true 9 (.p 45), (some 46), none⟩,
    ⟨.newbox 10 [.str [], .int .i64 0, .str [], .str [], .int .i64 0, .int .u64 0, .int .u64 0, .slice .nil 0 1 [], .slice .nil 0 1 []], (some 10), none⟩,
    ⟨.store 9 (.p 10) (.p 46), none, none⟩]
@[simp] def eq18_8 := id q18_8.eq_1
def q18_9 : List AOper :=
  [⟨.fieldAddr 7 (.p 5), (some 40), none⟩,
    ⟨.load .head false 1 (.p 40), (some 41), none⟩,
    ⟨.len false (.p 41), (some 42), none⟩,
    ⟨.move .head (.c (.int .i64 0)), (some 43), none⟩]
@[simp] def eq18_9 := id q18_9.eq_1
def q18_10 : List AOper :=
  [⟨.move .take (.t 0), (some 29), none⟩,
    ⟨.move .look (.p 1), (some 30), none⟩,
    ⟨.call 28 [(.t 29, true), (.p 30, false)], (some 31), none⟩,
    ⟨.move .look (.t 31), (some 28), none⟩,
    ⟨.extract 28 0, (some 32), none⟩,
    ⟨.extract 28 1, (some 33), none⟩,
    ⟨.assign (.p 32), (some 8), none⟩,
    ⟨.assign (.t 33), (some 0), none⟩]
@[simp] def eq18_10 := id q18_10.eq_1
def q18_11 : List AOper :=
  [⟨.move .take (.t 0), (some 35), none⟩,
    ⟨.move .look (.p 1), (some 36), none⟩,
    ⟨.call 29 [(.t 35, true), (.p 36, false)], (some 37), none⟩,
    ⟨.move .look (.t 37), (some 34), none⟩,
    ⟨.extract 34 0, (some 38), none⟩,
    ⟨.extract 34 1, (some 39), none⟩,
    ⟨.assign (.p 38), (some 8), none⟩,
    ⟨.assign (.t 39), (some 0), none⟩]
@[simp] def eq18_11 := id q18_11.eq_1
def q18_12 : List AOper :=
  [⟨.fieldAddr 0 (.p 5), (some 25), none⟩,
    ⟨.load .head false 1 (.p 25), (some 26), none⟩,
    ⟨.bin .eql 1 true (.p 26) (.c (.int .i64 3)), (some 27), none⟩]
@[simp] def eq18_12 := id q18_12.eq_1
def q18_13 : List AOper :=
  [⟨.move .take (.t 0), (some 21), none⟩,
    ⟨.move .look (.p 1), (some 22), none⟩,
    ⟨.load .look true 8 (.p 5), (some 23), none⟩,
    ⟨.call 20 [(.t 21, true), (.p 22, false), (.p 23, false)], (some 24), none⟩,
    ⟨.assign (.t 24), (some 6), none⟩,
    ⟨.assign (.c (.bool true)), (some 7), none⟩]
@[simp] def eq18_13 := id q18_13.eq_1
def q18_14 : List AOper :=
  [⟨.fieldAddr 0 (.p 5), (some 13), none⟩,
    ⟨.load .head false 1 (.p 13), (some 14), none⟩,
    ⟨.bin .neq 1 true (.p 14) (.c (.int .i64 3)), (some 15), none⟩,
    ⟨.move .look (.p 15), (some 16), none⟩,
    ⟨.fieldAddr 0 (.p 5), (some 17), (some (16, true))⟩,
    ⟨.load .head false 1 (.p 17), (some 18), (some (16, true))⟩,
    ⟨.bin .neq 1 true (.p 18) (.c (.int .i64 4)), (some 19), (some (16, true))⟩,
    ⟨.pick (.p 16) (.p 19) (.c (.bool false)), (some 20), none⟩]
@[simp] def eq18_14 := id q18_14.eq_1
def q18_15 : List AOper :=
  [⟨.box 5 (.p 2), (some 5), none⟩,
    ⟨.assign (.c (.slice .nil 0 1 [])), (some 6), none⟩,
    ⟨.assign (.c (.bool false)), (some 7), none⟩]
@[simp] def eq18_15 := id q18_15.eq_1
def k18_0 : ACode :=
  .ops q18_0 .ret
@[simp] theorem xk18_0 : GoC fns Q s k18_0 st ↔ GoO fns Q s q18_0 .ret st := goC_ops
def k18_1 : ACode :=
  .ops q18_1 .skip
@[simp] theorem xk18_1 : GoC fns Q s k18_1 st ↔ GoO fns Q s q18_1 .skip st := goC_ops
def k18_2 : ACode :=
  .ops q18_2 .skip
@[simp] theorem xk18_2 : GoC fns Q s k18_2 st ↔ GoO fns Q s q18_2 .skip st := goC_ops
def k18_3 : ACode :=
  .cond (.p 61) k18_1 k18_2
@[simp] theorem xk18_3 : GoC fns Q s k18_3 st ↔ GB fns Q s (peek st (.p 61)) k18_1 k18_2 st := goC_cond
def k18_4 : ACode :=
  .seq k18_3 k18_0
@[simp] theorem xk18_4 : GoC fns Q s k18_4 st ↔ GoC fns Q (.sq k18_0 :: s) k18_3 st := goC_seq
def k18_5 : ACode :=
  .ops q18_3 k18_4
@[simp] theorem xk18_5 : GoC fns Q s k18_5 st ↔ GoO fns Q s q18_3 k18_4 st := goC_ops
def k18_6 : ACode :=
  .ops [⟨.assign (.c (.nilI)), (some 12), none⟩] k18_5
@[simp] theorem xk18_6 : GoC fns Q s k18_6 st ↔ GoO fns Q s [⟨.assign (.c (.nilI)), (some 12), none⟩] k18_5 st := goC_ops
def k18_7 : ACode :=
  .ops q18_4 .skip
@[simp] theorem xk18_7 : GoC fns Q s k18_7 st ↔ GoO fns Q s q18_4 .skip st := goC_ops
def k18_8 : ACode :=
  .ops q18_5 .ret
@[simp] theorem xk18_8 : GoC fns Q s k18_8 st ↔ GoO fns Q s q18_5 .ret st := goC_ops
def k18_9 : ACode :=
  .cond (.p 57) k18_8 .skip
@[simp] theorem xk18_9 : GoC fns Q s k18_9 st ↔ GB fns Q s (peek st (.p 57)) k18_8 .skip st := goC_cond
def k18_10 : ACode :=
  .ops q18_6 k18_9
@[simp] theorem xk18_10 : GoC fns Q s k18_10 st ↔ GoO fns Q s q18_6 k18_9 st := goC_ops
def k18_11 : ACode :=
  .ops q18_7 k18_10
@[simp] theorem xk18_11 : GoC fns Q s k18_11 st ↔ GoO fns Q s q18_7 k18_10 st := goC_ops
def k18_12 : ACode :=
  .ops [⟨.assign (.c (.bool false)), (some 11), none⟩] k18_11
@[simp] theorem xk18_12 : GoC fns Q s k18_12 st ↔ GoO fns Q s [⟨.assign (.c (.bool false)), (some 11), none⟩] k18_11 st := goC_ops
def k18_13 : ACode :=
  .ops q18_8 k18_12
@[simp] theorem xk18_13 : GoC fns Q s k18_13 st ↔ GoO fns Q s q18_8 k18_12 st := goC_ops
def k18_14 : ACode :=
  .block 1 k18_13
@[simp] theorem xk18_14 : GoC fns Q s k18_14 st ↔ GoC fns Q (.bl 1 :: s) k18_13 st := goC_block
def k18_15 : ACode :=
  .seq k18_14 k18_7
@[simp] theorem xk18_15 : GoC fns Q s k18_15 st ↔ GoC fns Q (.sq k18_7 :: s) k18_14 st := goC_seq
def k18_16 : ACode :=
  .cond (.p 44) .skip (.exit 0)
@[simp] theorem xk18_16 : GoC fns Q s k18_16 st ↔ GB fns Q s (peek st (.p 44)) .skip (.exit 0) st := goC_cond
def k18_17 : ACode :=
  .seq k18_16 k18_15
@[simp] theorem xk18_17 : GoC fns Q s k18_17 st ↔ GoC fns Q (.sq k18_15 :: s) k18_16 st := goC_seq
def k18_18 : ACode :=
  .ops [⟨.bin .lss 1 false (.p 43) (.p 42), (some 44), none⟩] k18_17
@[simp] theorem xk18_18 : GoC fns Q s k18_18 st ↔ GoO fns Q s [⟨.bin .lss 1 false (.p 43) (.p 42), (some 44), none⟩] k18_17 st := goC_ops
def lc18_0 : ACode :=
  k18_18
@[simp] theorem xlc18_0 : GoC fns Q s lc18_0 st ↔ GoC fns Q s k18_18 st := Iff.rfl
def k18_20 : ACode :=
  .loop lc18_0
@[simp] theorem xk18_20 : GoC fns Q s k18_20 st ↔ (LoopR fns lc18_0 st fun r => GoE fns Q s r.1 r.2) := goC_loop
def k18_21 : ACode :=
  .block 0 k18_20
@[simp] theorem xk18_21 : GoC fns Q s k18_21 st ↔ GoC fns Q (.bl 0 :: s) k18_20 st := goC_block
def k18_22 : ACode :=
  .seq k18_21 k18_6
@[simp] theorem xk18_22 : GoC fns Q s k18_22 st ↔ GoC fns Q (.sq k18_6 :: s) k18_21 st := goC_seq
def k18_23 : ACode :=
  .ops q18_9 k18_22
@[simp] theorem xk18_23 : GoC fns Q s k18_23 st ↔ GoO fns Q s q18_9 k18_22 st := goC_ops
def k18_24 : ACode :=
  .ops q18_10 .skip
@[simp] theorem xk18_24 : GoC fns Q s k18_24 st ↔ GoO fns Q s q18_10 .skip st := goC_ops
def k18_25 : ACode :=
  .ops q18_11 .skip
@[simp] theorem xk18_25 : GoC fns Q s k18_25 st ↔ GoO fns Q s q18_11 .skip st := goC_ops
def k18_26 : ACode :=
  .cond (.p 27) k18_24 k18_25
@[simp] theorem xk18_26 : GoC fns Q s k18_26 st ↔ GB fns Q s (peek st (.p 27)) k18_24 k18_25 st := goC_cond
def k18_27 : ACode :=
  .seq k18_26 k18_23
@[simp] theorem xk18_27 : GoC fns Q s k18_27 st ↔ GoC fns Q (.sq k18_23 :: s) k18_26 st := goC_seq
def k18_28 : ACode :=
  .ops q18_12 k18_27
@[simp] theorem xk18_28 : GoC fns Q s k18_28 st ↔ GoO fns Q s q18_12 k18_27 st := goC_ops
def k18_29 : ACode :=
  .ops [⟨.assign (.c (.int .i32 0)), (some 8), none⟩] k18_28
@[simp] theorem xk18_29 : GoC fns Q s k18_29 st ↔ GoO fns Q s [⟨.assign (.c (.int .i32 0)), (some 8), none⟩] k18_28 st := goC_ops
def k18_30 : ACode :=
  .ops q18_13 .ret
@[simp] theorem xk18_30 : GoC fns Q s k18_30 st ↔ GoO fns Q s q18_13 .ret st := goC_ops
def k18_31 : ACode :=
  .cond (.p 20) k18_30 .skip
@[simp] theorem xk18_31 : GoC fns Q s k18_31 st ↔ GB fns Q s (peek st (.p 20)) k18_30 .skip st := goC_cond
def k18_32 : ACode :=
  .seq k18_31 k18_29
@[simp] theorem xk18_32 : GoC fns Q s k18_32 st ↔ GoC fns Q (.sq k18_29 :: s) k18_31 st := goC_seq
def k18_33 : ACode :=
  .ops q18_14 k18_32
@[simp] theorem xk18_33 : GoC fns Q s k18_33 st ↔ GoO fns Q s q18_14 k18_32 st := goC_ops
def k18_34 : ACode :=
  .ops q18_15 k18_33
@[simp] theorem xk18_34 : GoC fns Q s k18_34 st ↔ GoO fns Q s q18_15 k18_33 st := goC_ops
def af18 : AFunc := ⟨77, k18_34, [.tmp 6, .tmp 7]⟩

theorem ok18 : ∃ hs, pFunc Try.prog sg hs Try.f18 = some af18 := ⟨fun i => 0, by kernel_rfl⟩
/-- No. 8 -/
def q8_0 : List AOper :=
  [⟨.move .look (.t 0), (some 8), none⟩,
    ⟨.move .look (.p 1), (some 10), none⟩,
    ⟨.load .look true 8 (.p 5), (some 11), none⟩,
    ⟨.call 19 [(.t 8, false)], (some 9), none⟩,
    ⟨.call 18 [(.t 9, true), (.p 10, false), (.p 11, false)], (some 12), none⟩,
    ⟨.extract 12 0, (some 13), none⟩,
    ⟨.extract 12 1, (some 14), none⟩,
    ⟨.assign (.t 13), (some 6), none⟩,
    ⟨.assign (.p 14), (some 7), none⟩]
@[simp] def eq8_0 := id q8_0.eq_1
def q8_1 : List AOper :=
  [⟨.box 5 (.p 2), (some 5), none⟩,
    ⟨.assign (.c (.slice .nil 0 1 [])), (some 6), none⟩,
    ⟨.assign (.c (.bool false)), (some 7), none⟩]
@[simp] def eq8_1 := id q8_1.eq_1
def k8_0 : ACode :=
  .ops q8_0 .ret
@[simp] theorem xk8_0 : GoC fns Q s k8_0 st ↔ GoO fns Q s q8_0 .ret st := goC_ops
def k8_1 : ACode :=
  .ops q8_1 k8_0
@[simp] theorem xk8_1 : GoC fns Q s k8_1 st ↔ GoO fns Q s q8_1 k8_0 st := goC_ops
def af8 : AFunc := ⟨15, k8_1, [.tmp 6, .tmp 7]⟩

theorem ok8 : ∃ hs, pFunc Try.prog sg hs Try.f8 = some af8 := ⟨fun i => 0, by kernel_rfl⟩
/-- No. 10 -/
def q10_0 : List AOper :=
  [⟨.move .look (.t 0), (some 7), none⟩,
    ⟨.move .look (.p 1), (some 9), none⟩,
    ⟨.load .look true 8 (.p 5), (some 10), none⟩,
    ⟨.call 19 [(.t 7, false)], (some 8), none⟩,
    ⟨.call 20 [(.t 8, true), (.p 9, false), (.p 10, false)], (some 11), none⟩,
    ⟨.assign (.t 11), (some 6), none⟩]
@[simp] def eq10_0 := id q10_0.eq_1
def q10_1 : List AOper :=
  [⟨.box 5 (.p 2), (some 5), none⟩,
    ⟨.assign (.c (.slice .nil 0 1 [])), (some 6), none⟩]
@[simp] def eq10_1 := id q10_1.eq_1
def k10_0 : ACode :=
  .ops q10_0 .ret
@[simp] theorem xk10_0 : GoC fns Q s k10_0 st ↔ GoO fns Q s q10_0 .ret st := goC_ops
def k10_1 : ACode :=
  .ops q10_1 k10_0
@[simp] theorem xk10_1 : GoC fns Q s k10_1 st ↔ GoO fns Q s q10_1 k10_0 st := goC_ops
def af10 : AFunc := ⟨12, k10_1, [.tmp 6]⟩

theorem ok10 : ∃ hs, pFunc Try.prog sg hs Try.f10 = some af10 := ⟨fun i => 0, by kernel_rfl⟩
/-- No. 12 -/
def q12_0 : List AOper :=
  [⟨.fieldAddr 0 (.p 1), (some 3), none⟩,
    ⟨.load .look false 1 (.p 3), (some 4), none⟩,
    ⟨.load .look true 8 (.p 1), (some 5), none⟩,
    ⟨.call 17 [(.p 5, false)], (some 6), none⟩,
    ⟨.build [.int .i64 0, .slice .nil 0 1 []] [(0, 1, .p 4), (1, 1, .t 6)], (some 7), none⟩,
    ⟨.store 2 (.p 2) (.p 7), none, none⟩]
@[simp] def eq12_0 := id q12_0.eq_1
def q12_1 : List AOper :=
  [⟨.box 1 (.p 0), (some 1), none⟩,
    ⟨.newbox 2 [.int .i64 0, .slice .nil 0 1 []], (some 2), none⟩]
@[simp] def eq12_1 := id q12_1.eq_1
def k12_0 : ACode :=
  .ops q12_0 .ret
@[simp] theorem xk12_0 : GoC fns Q s k12_0 st ↔ GoO fns Q s q12_0 .ret st := goC_ops
def k12_1 : ACode :=
  .ops q12_1 k12_0
@[simp] theorem xk12_1 : GoC fns Q s k12_1 st ↔ GoO fns Q s q12_1 k12_0 st := goC_ops
def af12 : AFunc := ⟨8, k12_1, [.cell 2 true 2]⟩

theorem ok12 : ∃ hs, pFunc Try.prog sg hs Try.f12 = some af12 := ⟨fun i => 0, by kernel_rfl⟩
/-- No. 22 -/
def q22_0 : List AOper :=
  [⟨.fieldAddr 0 (.p 1), (some 3), none⟩,
    ⟨.load .look false 1 (.p 3), (some 4), none⟩,
    ⟨.convInt .u8 (.p 4), (some 5), none⟩,
    ⟨.fieldAddr 1 (.p 1), (some 6), none⟩,
    ⟨.load .look false 1 (.p 6), (some 7), none⟩,
    ⟨.build [.int .u8 0, .slice .nil 0 1 []] [(0, 1, .p 5), (1, 1, .t 7)], (some 8), none⟩,
    ⟨.store 2 (.p 2) (.p 8), none, none⟩]
@[simp] def eq22_0 := id q22_0.eq_1
def q22_1 : List AOper :=
  [⟨.box 1 (.p 0), (some 1), none⟩,
    ⟨.newbox 2 [.int .u8 0, .slice .nil 0 1 []], (some 2), none⟩]
@[simp] def eq22_1 := id q22_1.eq_1
def k22_0 : ACode :=
  .ops q22_0 .ret
@[simp] theorem xk22_0 : GoC fns Q s k22_0 st ↔ GoO fns Q s q22_0 .ret st := goC_ops
def k22_1 : ACode :=
  .ops q22_1 k22_0
@[simp] theorem xk22_1 : GoC fns Q s k22_1 st ↔ GoO fns Q s q22_1 k22_0 st := goC_ops
def af22 : AFunc := ⟨9, k22_1, [.cell 2 true 2]⟩

theorem ok22 : ∃ hs, pFunc Try.prog sg hs Try.f22 = some af22 := ⟨fun i => 0, by kernel_rfl⟩
/-- No. 21 -/
def q21_0 : List AOper :=
  [⟨.move .take (.t 0), (some 16), none⟩,
    ⟨.assign (.t 16), (some 6), none⟩]
@[simp] def eq21_0 := id q21_0.eq_1
def q21_1 : List AOper :=
  [⟨.move .take (.t 0), (some 12), none⟩,
    ⟨.fieldAddr 1 (.p 5), (some 13), none⟩,
    ⟨.load .look false 1 (.p 13), (some 14), none⟩,
    ⟨.append 5 1 1 false (.t 12) (.p 14), (some 15), none⟩,
    ⟨.assign (.t 15), (some 0), none⟩]
@[simp] def eq21_1 := id q21_1.eq_1
def q21_2 : List AOper :=
  [⟨.move .take (.t 0), (some 7), none⟩,
    ⟨.fieldAddr 0 (.p 5), (some 8), none⟩,
    ⟨.load .look false 1 (.p 8), (some 9), none⟩,
    ⟨.move .look (.p 1), (some 10), none⟩,
    ⟨.call 57 [(.t 7, true), (.p 9, false), (.p 10, false)], (some 11), none⟩,
    ⟨.assign (.t 11), (some 0), none⟩]
@[simp] def eq21_2 := id q21_2.eq_1
def q21_3 : List AOper :=
  [⟨.box 5 (.p 2), (some 5), none⟩,
    ⟨.assign (.c (.slice .nil 0 1 [])), (some 6), none⟩]
@[simp] def eq21_3 := id q21_3.eq_1
def k21_0 : ACode :=
  .ops q21_0 .ret
@[simp] theorem xk21_0 : GoC fns Q s k21_0 st ↔ GoO fns Q s q21_0 .ret st := goC_ops
def k21_1 : ACode :=
  .ops q21_1 k21_0
@[simp] theorem xk21_1 : GoC fns Q s k21_1 st ↔ GoO fns Q s q21_1 k21_0 st := goC_ops
def k21_2 : ACode :=
  .ops q21_2 k21_1
@[simp] theorem xk21_2 : GoC fns Q s k21_2 st ↔ GoO fns Q s q21_2 k21_1 st := goC_ops
def k21_3 : ACode :=
  .ops q21_3 k21_2
@[simp] theorem xk21_3 : GoC fns Q s k21_3 st ↔ GoO fns Q s q21_3 k21_2 st := goC_ops
def af21 : AFunc := ⟨17, k21_3, [.tmp 6]⟩

theorem ok21 : ∃ hs, pFunc Try.prog sg hs Try.f21 = some af21 := ⟨fun i => 0, by kernel_rfl⟩
end
end Go.Proofs.Ytcodfehgnjplcaa.Abs
