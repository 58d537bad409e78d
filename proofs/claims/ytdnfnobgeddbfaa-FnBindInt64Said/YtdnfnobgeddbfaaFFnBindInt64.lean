/- The functions that the law reaches, made ready for the interpreter (printed by a program of this session; the kernel compares each with the given program). -/
import Derived.Test.YtdnfnobgeddbfaaA27
import Derived.Test.YtdnfnobgeddbfaaProg
import Derived.KernelRfl
namespace Go.Proofs.Ytdnfnobgeddbfaa.Abs
set_option linter.all false
open Go.Proofs
def sg : FuncId → Nat → Bool := fun f i => (f == 17 && i == 0) || (f == 18 && i == 0) || (f == 20 && i == 0)
section
variable {fns : FuncId → Option AFunc} {Q : Ex × St → Prop} {s : List Fr} {c : ACode} {st : St}
/-- No. 4 -/
def k4_0 : ACode :=
  .ops [⟨.assign (.c (.bool true)), (some 2), none⟩] .ret
@[simp] theorem xk4_0 : GoC fns Q s k4_0 st ↔ GoO fns Q s [⟨.assign (.c (.bool true)), (some 2), none⟩] .ret st := goC_ops
def k4_1 : ACode :=
  .ops [⟨.assign (.c (.bool false)), (some 2), none⟩] .ret
@[simp] theorem xk4_1 : GoC fns Q s k4_1 st ↔ GoO fns Q s [⟨.assign (.c (.bool false)), (some 2), none⟩] .ret st := goC_ops
def k4_2 : ACode :=
  .cond (.p 18) k4_1 .skip
@[simp] theorem xk4_2 : GoC fns Q s k4_2 st ↔ GB fns Q s (peek st (.p 18)) k4_1 .skip st := goC_cond
def k4_3 : ACode :=
  .seq k4_2 k4_0
@[simp] theorem xk4_3 : GoC fns Q s k4_3 st ↔ GoC fns Q (.sq k4_0 :: s) k4_2 st := goC_seq
def k4_4 : ACode :=
  .ops [⟨.fieldAddr 7 (.p 1), (some 15), none⟩,
    ⟨.load .head false 1 (.p 15), (some 16), none⟩,
    ⟨.len false (.p 16), (some 17), none⟩,
    ⟨.bin .gtr 1 true (.p 17) (.c (.int .i64 2147483647)), (some 18), none⟩] k4_3
@[simp] theorem xk4_4 : GoC fns Q s k4_4 st ↔ GoO fns Q s [⟨.fieldAddr 7 (.p 1), (some 15), none⟩,
    ⟨.load .head false 1 (.p 15), (some 16), none⟩,
    ⟨.len false (.p 16), (some 17), none⟩,
    ⟨.bin .gtr 1 true (.p 17) (.c (.int .i64 2147483647)), (some 18), none⟩] k4_3 st := goC_ops
def k4_5 : ACode :=
  .ops [⟨.assign (.c (.bool false)), (some 2), none⟩] .ret
@[simp] theorem xk4_5 : GoC fns Q s k4_5 st ↔ GoO fns Q s [⟨.assign (.c (.bool false)), (some 2), none⟩] .ret st := goC_ops
def k4_6 : ACode :=
  .cond (.p 14) k4_5 .skip
@[simp] theorem xk4_6 : GoC fns Q s k4_6 st ↔ GB fns Q s (peek st (.p 14)) k4_5 .skip st := goC_cond
def k4_7 : ACode :=
  .seq k4_6 k4_4
@[simp] theorem xk4_7 : GoC fns Q s k4_7 st ↔ GoC fns Q (.sq k4_4 :: s) k4_6 st := goC_seq
def k4_8 : ACode :=
  .ops [⟨.fieldAddr 6 (.p 1), (some 11), none⟩,
    ⟨.load .head false 1 (.p 11), (some 12), none⟩,
    ⟨.len false (.p 12), (some 13), none⟩,
    ⟨.bin .gtr 1 true (.p 13) (.c (.int .i64 2147483647)), (some 14), none⟩] k4_7
@[simp] theorem xk4_8 : GoC fns Q s k4_8 st ↔ GoO fns Q s [⟨.fieldAddr 6 (.p 1), (some 11), none⟩,
    ⟨.load .head false 1 (.p 11), (some 12), none⟩,
    ⟨.len false (.p 12), (some 13), none⟩,
    ⟨.bin .gtr 1 true (.p 13) (.c (.int .i64 2147483647)), (some 14), none⟩] k4_7 st := goC_ops
def k4_9 : ACode :=
  .ops [⟨.assign (.c (.bool false)), (some 2), none⟩] .ret
@[simp] theorem xk4_9 : GoC fns Q s k4_9 st ↔ GoO fns Q s [⟨.assign (.c (.bool false)), (some 2), none⟩] .ret st := goC_ops
def k4_10 : ACode :=
  .cond (.p 10) k4_9 .skip
@[simp] theorem xk4_10 : GoC fns Q s k4_10 st ↔ GB fns Q s (peek st (.p 10)) k4_9 .skip st := goC_cond
def k4_11 : ACode :=
  .seq k4_10 k4_8
@[simp] theorem xk4_11 : GoC fns Q s k4_11 st ↔ GoC fns Q (.sq k4_8 :: s) k4_10 st := goC_seq
def k4_12 : ACode :=
  .ops [⟨.fieldAddr 2 (.p 1), (some 7), none⟩,
    ⟨.load .head false 1 (.p 7), (some 8), none⟩,
    ⟨.len true (.p 8), (some 9), none⟩,
    ⟨.bin .gtr 1 true (.p 9) (.c (.int .i64 2147483647)), (some 10), none⟩] k4_11
@[simp] theorem xk4_12 : GoC fns Q s k4_12 st ↔ GoO fns Q s [⟨.fieldAddr 2 (.p 1), (some 7), none⟩,
    ⟨.load .head false 1 (.p 7), (some 8), none⟩,
    ⟨.len true (.p 8), (some 9), none⟩,
    ⟨.bin .gtr 1 true (.p 9) (.c (.int .i64 2147483647)), (some 10), none⟩] k4_11 st := goC_ops
def k4_13 : ACode :=
  .ops [⟨.assign (.c (.bool false)), (some 2), none⟩] .ret
@[simp] theorem xk4_13 : GoC fns Q s k4_13 st ↔ GoO fns Q s [⟨.assign (.c (.bool false)), (some 2), none⟩] .ret st := goC_ops
def k4_14 : ACode :=
  .cond (.p 6) k4_13 .skip
@[simp] theorem xk4_14 : GoC fns Q s k4_14 st ↔ GB fns Q s (peek st (.p 6)) k4_13 .skip st := goC_cond
def k4_15 : ACode :=
  .seq k4_14 k4_12
@[simp] theorem xk4_15 : GoC fns Q s k4_15 st ↔ GoC fns Q (.sq k4_12 :: s) k4_14 st := goC_seq
def k4_16 : ACode :=
  .ops [⟨.fieldAddr 1 (.p 1), (some 3), none⟩,
    ⟨.load .head false 1 (.p 3), (some 4), none⟩,
    ⟨.len true (.p 4), (some 5), none⟩,
    ⟨.bin .gtr 1 true (.p 5) (.c (.int .i64 2147483647)), (some 6), none⟩] k4_15
@[simp] theorem xk4_16 : GoC fns Q s k4_16 st ↔ GoO fns Q s [⟨.fieldAddr 1 (.p 1), (some 3), none⟩,
    ⟨.load .head false 1 (.p 3), (some 4), none⟩,
    ⟨.len true (.p 4), (some 5), none⟩,
    ⟨.bin .gtr 1 true (.p 5) (.c (.int .i64 2147483647)), (some 6), none⟩] k4_15 st := goC_ops
def k4_17 : ACode :=
  .ops [⟨.box 1 (.p 0), (some 1), none⟩,
    ⟨.assign (.c (.bool false)), (some 2), none⟩] k4_16
@[simp] theorem xk4_17 : GoC fns Q s k4_17 st ↔ GoO fns Q s [⟨.box 1 (.p 0), (some 1), none⟩,
    ⟨.assign (.c (.bool false)), (some 2), none⟩] k4_16 st := goC_ops
def af4 : AFunc := ⟨19, k4_17, [.tmp 2]⟩

theorem ok4 : pFunc Try.prog sg Try.f4 = some af4 := by kernel_rfl
/-- No. 8 -/
def k8_0 : ACode :=
  .ops [⟨.move .take (.p 5), (some 31), none⟩,
    ⟨.assign (.p 31), (some 4), none⟩] .ret
@[simp] theorem xk8_0 : GoC fns Q s k8_0 st ↔ GoO fns Q s [⟨.move .take (.p 5), (some 31), none⟩,
    ⟨.assign (.p 31), (some 4), none⟩] .ret st := goC_ops
def k8_1 : ACode :=
  .ops [⟨.move .look (.p 6), (some 17), none⟩,
    ⟨.bin .add 1 true (.p 17) (.c (.int .i64 1)), (some 18), none⟩,
    ⟨.assign (.p 18), (some 6), none⟩] .skip
@[simp] theorem xk8_1 : GoC fns Q s k8_1 st ↔ GoO fns Q s [⟨.move .look (.p 6), (some 17), none⟩,
    ⟨.bin .add 1 true (.p 17) (.c (.int .i64 1)), (some 18), none⟩,
    ⟨.assign (.p 18), (some 6), none⟩] .skip st := goC_ops
def k8_2 : ACode :=
  .ops [⟨.move .look (.p 5), (some 19), none⟩,
    ⟨.fieldAddr 7 (.p 2), (some 20), none⟩,
    ⟨.load .look false 1 (.p 20), (some 21), none⟩,
    ⟨.move .look (.p 6), (some 22), none⟩,
    ⟨.indexAddr 9 (.t 21) (.p 22), (some 23), none⟩,
    ⟨.fieldAddr 1 (.p 23), (some 24), none⟩,
    ⟨.load .look true 8 (.p 24), (some 25), none⟩,
    ⟨.move .look (.p 1), (some 26), none⟩,
    ⟨.move .look (.p 5), (some 27), none⟩,
    ⟨.bin .sub 1 false (.p 26) (.p 27), (some 28), none⟩,
    ⟨.call 8 [(.p 25, false), (.p 28, false)], (some 29), none⟩,
    ⟨.bin .add 1 false (.p 19) (.p 29), (some 30), none⟩,
    ⟨.assign (.p 30), (some 5), none⟩] .skip
@[simp] theorem xk8_2 : GoC fns Q s k8_2 st ↔ GoO fns Q s [⟨.move .look (.p 5), (some 19), none⟩,
    ⟨.fieldAddr 7 (.p 2), (some 20), none⟩,
    ⟨.load .look false 1 (.p 20), (some 21), none⟩,
    ⟨.move .look (.p 6), (some 22), none⟩,
    ⟨.indexAddr 9 (.t 21) (.p 22), (some 23), none⟩,
    ⟨.fieldAddr 1 (.p 23), (some 24), none⟩,
    ⟨.load .look true 8 (.p 24), (some 25), none⟩,
    ⟨.move .look (.p 1), (some 26), none⟩,
    ⟨.move .look (.p 5), (some 27), none⟩,
    ⟨.bin .sub 1 false (.p 26) (.p 27), (some 28), none⟩,
    ⟨.call 8 [(.p 25, false), (.p 28, false)], (some 29), none⟩,
    ⟨.bin .add 1 false (.p 19) (.p 29), (some 30), none⟩,
    ⟨.assign (.p 30), (some 5), none⟩] .skip st := goC_ops
def k8_3 : ACode :=
  .block 1 k8_2
@[simp] theorem xk8_3 : GoC fns Q s k8_3 st ↔ GoC fns Q (.bl 1 :: s) k8_2 st := goC_block
def k8_4 : ACode :=
  .seq k8_3 k8_1
@[simp] theorem xk8_4 : GoC fns Q s k8_4 st ↔ GoC fns Q (.sq k8_1 :: s) k8_3 st := goC_seq
def k8_5 : ACode :=
  .cond (.p 16) .skip (.exit 0)
@[simp] theorem xk8_5 : GoC fns Q s k8_5 st ↔ GB fns Q s (peek st (.p 16)) .skip (.exit 0) st := goC_cond
def k8_6 : ACode :=
  .seq k8_5 k8_4
@[simp] theorem xk8_6 : GoC fns Q s k8_6 st ↔ GoC fns Q (.sq k8_4 :: s) k8_5 st := goC_seq
def k8_7 : ACode :=
  .ops [⟨.move .look (.p 6), (some 7), none⟩,
    ⟨.fieldAddr 7 (.p 2), (some 8), none⟩,
    ⟨.load .head false 1 (.p 8), (some 9), none⟩,
    ⟨.len false (.p 9), (some 10), none⟩,
    ⟨.bin .lss 1 false (.p 7) (.p 10), (some 11), none⟩,
    ⟨.move .look (.p 11), (some 12), none⟩,
    ⟨.move .look (.p 5), (some 13), (some (12, true))⟩,
    ⟨.move .look (.p 1), (some 14), (some (12, true))⟩,
    ⟨.bin .leq 1 false (.p 13) (.p 14), (some 15), (some (12, true))⟩,
    ⟨.pick (.p 12) (.p 15) (.c (.bool false)), (some 16), none⟩] k8_6
@[simp] theorem xk8_7 : GoC fns Q s k8_7 st ↔ GoO fns Q s [⟨.move .look (.p 6), (some 7), none⟩,
    ⟨.fieldAddr 7 (.p 2), (some 8), none⟩,
    ⟨.load .head false 1 (.p 8), (some 9), none⟩,
    ⟨.len false (.p 9), (some 10), none⟩,
    ⟨.bin .lss 1 false (.p 7) (.p 10), (some 11), none⟩,
    ⟨.move .look (.p 11), (some 12), none⟩,
    ⟨.move .look (.p 5), (some 13), (some (12, true))⟩,
    ⟨.move .look (.p 1), (some 14), (some (12, true))⟩,
    ⟨.bin .leq 1 false (.p 13) (.p 14), (some 15), (some (12, true))⟩,
    ⟨.pick (.p 12) (.p 15) (.c (.bool false)), (some 16), none⟩] k8_6 st := goC_ops
def lc8_0 : ACode :=
  k8_7
@[simp] theorem xlc8_0 : GoC fns Q s lc8_0 st ↔ GoC fns Q s k8_7 st := Iff.rfl
def k8_9 : ACode :=
  .loop lc8_0
@[simp] theorem xk8_9 : GoC fns Q s k8_9 st ↔ (Run (loopω fns lc8_0 st) fun r => GoE fns Q s r.1 r.2) := goC_loop
def k8_10 : ACode :=
  .block 0 k8_9
@[simp] theorem xk8_10 : GoC fns Q s k8_10 st ↔ GoC fns Q (.bl 0 :: s) k8_9 st := goC_block
def k8_11 : ACode :=
  .seq k8_10 k8_0
@[simp] theorem xk8_11 : GoC fns Q s k8_11 st ↔ GoC fns Q (.sq k8_0 :: s) k8_10 st := goC_seq
def k8_12 : ACode :=
  .ops [⟨.assign (.c (.int .i64 0)), (some 6), none⟩] k8_11
@[simp] theorem xk8_12 : GoC fns Q s k8_12 st ↔ GoO fns Q s [⟨.assign (.c (.int .i64 0)), (some 6), none⟩] k8_11 st := goC_ops
def k8_13 : ACode :=
  .ops [⟨.assign (.c (.int .i64 1)), (some 5), none⟩] k8_12
@[simp] theorem xk8_13 : GoC fns Q s k8_13 st ↔ GoO fns Q s [⟨.assign (.c (.int .i64 1)), (some 5), none⟩] k8_12 st := goC_ops
def k8_14 : ACode :=
  .ops [⟨.box 2 (.p 0), (some 2), none⟩,
    ⟨.assign (.c (.int .i64 0)), (some 4), none⟩] k8_13
@[simp] theorem xk8_14 : GoC fns Q s k8_14 st ↔ GoO fns Q s [⟨.box 2 (.p 0), (some 2), none⟩,
    ⟨.assign (.c (.int .i64 0)), (some 4), none⟩] k8_13 st := goC_ops
def af8 : AFunc := ⟨32, k8_14, [.tmp 4]⟩

theorem ok8 : pFunc Try.prog sg Try.f8 = some af8 := by kernel_rfl
/-- No. 21 -/
def k21_0 : ACode :=
  .ops [⟨.move .look (.p 0), (some 3), none⟩,
    ⟨.bin .geq 1 true (.p 3) (.c (.int .i64 1)), (some 4), none⟩,
    ⟨.move .look (.p 4), (some 5), none⟩,
    ⟨.move .look (.p 0), (some 6), (some (5, true))⟩,
    ⟨.bin .leq 1 true (.p 6) (.c (.int .i64 19)), (some 7), (some (5, true))⟩,
    ⟨.pick (.p 5) (.p 7) (.c (.bool false)), (some 8), none⟩,
    ⟨.move .look (.p 8), (some 9), none⟩,
    ⟨.move .head (.p 0), (some 10), (some (9, false))⟩,
    ⟨.bin .eql 1 true (.p 10) (.c (.int .i64 255)), (some 11), (some (9, false))⟩,
    ⟨.pick (.p 9) (.c (.bool true)) (.p 11), (some 12), none⟩,
    ⟨.move .look (.p 12), (some 13), none⟩,
    ⟨.move .head (.p 0), (some 14), (some (13, false))⟩,
    ⟨.bin .eql 1 true (.p 14) (.c (.int .i64 127)), (some 15), (some (13, false))⟩,
    ⟨.pick (.p 13) (.c (.bool true)) (.p 15), (some 16), none⟩,
    ⟨.assign (.p 16), (some 2), none⟩] .ret
@[simp] theorem xk21_0 : GoC fns Q s k21_0 st ↔ GoO fns Q s [⟨.move .look (.p 0), (some 3), none⟩,
    ⟨.bin .geq 1 true (.p 3) (.c (.int .i64 1)), (some 4), none⟩,
    ⟨.move .look (.p 4), (some 5), none⟩,
    ⟨.move .look (.p 0), (some 6), (some (5, true))⟩,
    ⟨.bin .leq 1 true (.p 6) (.c (.int .i64 19)), (some 7), (some (5, true))⟩,
    ⟨.pick (.p 5) (.p 7) (.c (.bool false)), (some 8), none⟩,
    ⟨.move .look (.p 8), (some 9), none⟩,
    ⟨.move .head (.p 0), (some 10), (some (9, false))⟩,
    ⟨.bin .eql 1 true (.p 10) (.c (.int .i64 255)), (some 11), (some (9, false))⟩,
    ⟨.pick (.p 9) (.c (.bool true)) (.p 11), (some 12), none⟩,
    ⟨.move .look (.p 12), (some 13), none⟩,
    ⟨.move .head (.p 0), (some 14), (some (13, false))⟩,
    ⟨.bin .eql 1 true (.p 14) (.c (.int .i64 127)), (some 15), (some (13, false))⟩,
    ⟨.pick (.p 13) (.c (.bool true)) (.p 15), (some 16), none⟩,
    ⟨.assign (.p 16), (some 2), none⟩] .ret st := goC_ops
def k21_1 : ACode :=
  .ops [⟨.assign (.c (.bool false)), (some 2), none⟩] k21_0
@[simp] theorem xk21_1 : GoC fns Q s k21_1 st ↔ GoO fns Q s [⟨.assign (.c (.bool false)), (some 2), none⟩] k21_0 st := goC_ops
def af21 : AFunc := ⟨17, k21_1, [.tmp 2]⟩

theorem ok21 : pFunc Try.prog sg Try.f21 = some af21 := by kernel_rfl
/-- No. 22 -/
def k22_0 : ACode :=
  .ops [⟨.load .take true 8 (.p 1), (some 47), none⟩,
    ⟨.store 8 (.p 2) (.p 47), none, none⟩] .ret
@[simp] theorem xk22_0 : GoC fns Q s k22_0 st ↔ GoO fns Q s [⟨.load .take true 8 (.p 1), (some 47), none⟩,
    ⟨.store 8 (.p 2) (.p 47), none, none⟩] .ret st := goC_ops
def k22_1 : ACode :=
  .ops [⟨.fieldAddr 4 (.p 1), (some 8), none⟩,
    ⟨.store 1 (.p 8) (.c (.int .u64 0)), none, none⟩] .skip
@[simp] theorem xk22_1 : GoC fns Q s k22_1 st ↔ GoO fns Q s [⟨.fieldAddr 4 (.p 1), (some 8), none⟩,
    ⟨.store 1 (.p 8) (.c (.int .u64 0)), none, none⟩] .skip st := goC_ops
def k22_2 : ACode :=
  .ops [⟨.fieldAddr 1 (.p 1), (some 13), none⟩,
    ⟨.store 1 (.p 13) (.c (.str [])), none, none⟩] .skip
@[simp] theorem xk22_2 : GoC fns Q s k22_2 st ↔ GoO fns Q s [⟨.fieldAddr 1 (.p 1), (some 13), none⟩,
    ⟨.store 1 (.p 13) (.c (.str [])), none, none⟩] .skip st := goC_ops
def k22_3 : ACode :=
  .ops [⟨.fieldAddr 7 (.p 1), (some 17), none⟩,
    ⟨.store 1 (.p 17) (.c (.slice .nil 0 1 [])), none, none⟩] .skip
@[simp] theorem xk22_3 : GoC fns Q s k22_3 st ↔ GoO fns Q s [⟨.fieldAddr 7 (.p 1), (some 17), none⟩,
    ⟨.store 1 (.p 17) (.c (.slice .nil 0 1 [])), none, none⟩] .skip st := goC_ops
def k22_4 : ACode :=
  .ops [⟨.fieldAddr 3 (.p 1), (some 20), none⟩,
    ⟨.store 1 (.p 20) (.c (.int .i64 0)), none, none⟩,
    ⟨.fieldAddr 6 (.p 1), (some 21), none⟩,
    ⟨.store 1 (.p 21) (.c (.slice .nil 0 1 [])), none, none⟩] .skip
@[simp] theorem xk22_4 : GoC fns Q s k22_4 st ↔ GoO fns Q s [⟨.fieldAddr 3 (.p 1), (some 20), none⟩,
    ⟨.store 1 (.p 20) (.c (.int .i64 0)), none, none⟩,
    ⟨.fieldAddr 6 (.p 1), (some 21), none⟩,
    ⟨.store 1 (.p 21) (.c (.slice .nil 0 1 [])), none, none⟩] .skip st := goC_ops
def k22_5 : ACode :=
  .ops [⟨.fieldAddr 6 (.p 1), (some 24), none⟩,
    ⟨.store 1 (.p 24) (.c (.slice .nil 0 1 [])), none, none⟩] .skip
@[simp] theorem xk22_5 : GoC fns Q s k22_5 st ↔ GoO fns Q s [⟨.fieldAddr 6 (.p 1), (some 24), none⟩,
    ⟨.store 1 (.p 24) (.c (.slice .nil 0 1 [])), none, none⟩] .skip st := goC_ops
def k22_6 : ACode :=
  .ops [⟨.fieldAddr 3 (.p 1), (some 30), none⟩,
    ⟨.store 1 (.p 30) (.c (.int .i64 0)), none, none⟩] .skip
@[simp] theorem xk22_6 : GoC fns Q s k22_6 st ↔ GoO fns Q s [⟨.fieldAddr 3 (.p 1), (some 30), none⟩,
    ⟨.store 1 (.p 30) (.c (.int .i64 0)), none, none⟩] .skip st := goC_ops
def k22_7 : ACode :=
  .ops [⟨.fieldAddr 1 (.p 1), (some 33), none⟩,
    ⟨.store 1 (.p 33) (.c (.str [])), none, none⟩,
    ⟨.fieldAddr 2 (.p 1), (some 34), none⟩,
    ⟨.store 1 (.p 34) (.c (.str [])), none, none⟩] .skip
@[simp] theorem xk22_7 : GoC fns Q s k22_7 st ↔ GoO fns Q s [⟨.fieldAddr 1 (.p 1), (some 33), none⟩,
    ⟨.store 1 (.p 33) (.c (.str [])), none, none⟩,
    ⟨.fieldAddr 2 (.p 1), (some 34), none⟩,
    ⟨.store 1 (.p 34) (.c (.str [])), none, none⟩] .skip st := goC_ops
def k22_8 : ACode :=
  .ops [⟨.fieldAddr 1 (.p 1), (some 37), none⟩,
    ⟨.store 1 (.p 37) (.c (.str [])), none, none⟩,
    ⟨.fieldAddr 6 (.p 1), (some 38), none⟩,
    ⟨.store 1 (.p 38) (.c (.slice .nil 0 1 [])), none, none⟩] .skip
@[simp] theorem xk22_8 : GoC fns Q s k22_8 st ↔ GoO fns Q s [⟨.fieldAddr 1 (.p 1), (some 37), none⟩,
    ⟨.store 1 (.p 37) (.c (.str [])), none, none⟩,
    ⟨.fieldAddr 6 (.p 1), (some 38), none⟩,
    ⟨.store 1 (.p 38) (.c (.slice .nil 0 1 [])), none, none⟩] .skip st := goC_ops
def k22_9 : ACode :=
  .ops [⟨.fieldAddr 1 (.p 1), (some 41), none⟩,
    ⟨.store 1 (.p 41) (.c (.str [])), none, none⟩,
    ⟨.fieldAddr 7 (.p 1), (some 42), none⟩,
    ⟨.store 1 (.p 42) (.c (.slice .nil 0 1 [])), none, none⟩] .skip
@[simp] theorem xk22_9 : GoC fns Q s k22_9 st ↔ GoO fns Q s [⟨.fieldAddr 1 (.p 1), (some 41), none⟩,
    ⟨.store 1 (.p 41) (.c (.str [])), none, none⟩,
    ⟨.fieldAddr 7 (.p 1), (some 42), none⟩,
    ⟨.store 1 (.p 42) (.c (.slice .nil 0 1 [])), none, none⟩] .skip st := goC_ops
def k22_10 : ACode :=
  .ops [⟨.fieldAddr 4 (.p 1), (some 45), none⟩,
    ⟨.store 1 (.p 45) (.c (.int .u64 0)), none, none⟩,
    ⟨.fieldAddr 5 (.p 1), (some 46), none⟩,
    ⟨.store 1 (.p 46) (.c (.int .u64 0)), none, none⟩] .skip
@[simp] theorem xk22_10 : GoC fns Q s k22_10 st ↔ GoO fns Q s [⟨.fieldAddr 4 (.p 1), (some 45), none⟩,
    ⟨.store 1 (.p 45) (.c (.int .u64 0)), none, none⟩,
    ⟨.fieldAddr 5 (.p 1), (some 46), none⟩,
    ⟨.store 1 (.p 46) (.c (.int .u64 0)), none, none⟩] .skip st := goC_ops
def k22_11 : ACode :=
  .cond (.p 43) k22_10 .skip
@[simp] theorem xk22_11 : GoC fns Q s k22_11 st ↔ GB fns Q s (peek st (.p 43)) k22_10 .skip st := goC_cond
def k22_12 : ACode :=
  .ops [⟨.bin .eql 1 true (.p 4) (.c (.int .i64 19)), (some 44), none⟩,
    ⟨.assign (.p 44), (some 43), none⟩] k22_11
@[simp] theorem xk22_12 : GoC fns Q s k22_12 st ↔ GoO fns Q s [⟨.bin .eql 1 true (.p 4) (.c (.int .i64 19)), (some 44), none⟩,
    ⟨.assign (.p 44), (some 43), none⟩] k22_11 st := goC_ops
def k22_13 : ACode :=
  .cond (.p 39) k22_9 k22_12
@[simp] theorem xk22_13 : GoC fns Q s k22_13 st ↔ GB fns Q s (peek st (.p 39)) k22_9 k22_12 st := goC_cond
def k22_14 : ACode :=
  .ops [⟨.bin .eql 1 true (.p 4) (.c (.int .i64 15)), (some 40), none⟩,
    ⟨.assign (.p 40), (some 39), none⟩] k22_13
@[simp] theorem xk22_14 : GoC fns Q s k22_14 st ↔ GoO fns Q s [⟨.bin .eql 1 true (.p 4) (.c (.int .i64 15)), (some 40), none⟩,
    ⟨.assign (.p 40), (some 39), none⟩] k22_13 st := goC_ops
def k22_15 : ACode :=
  .cond (.p 35) k22_8 k22_14
@[simp] theorem xk22_15 : GoC fns Q s k22_15 st ↔ GB fns Q s (peek st (.p 35)) k22_8 k22_14 st := goC_cond
def k22_16 : ACode :=
  .ops [⟨.bin .eql 1 true (.p 4) (.c (.int .i64 12)), (some 36), none⟩,
    ⟨.assign (.p 36), (some 35), none⟩] k22_15
@[simp] theorem xk22_16 : GoC fns Q s k22_16 st ↔ GoO fns Q s [⟨.bin .eql 1 true (.p 4) (.c (.int .i64 12)), (some 36), none⟩,
    ⟨.assign (.p 36), (some 35), none⟩] k22_15 st := goC_ops
def k22_17 : ACode :=
  .cond (.p 31) k22_7 k22_16
@[simp] theorem xk22_17 : GoC fns Q s k22_17 st ↔ GB fns Q s (peek st (.p 31)) k22_7 k22_16 st := goC_cond
def k22_18 : ACode :=
  .ops [⟨.bin .eql 1 true (.p 4) (.c (.int .i64 11)), (some 32), none⟩,
    ⟨.assign (.p 32), (some 31), none⟩] k22_17
@[simp] theorem xk22_18 : GoC fns Q s k22_18 st ↔ GoO fns Q s [⟨.bin .eql 1 true (.p 4) (.c (.int .i64 11)), (some 32), none⟩,
    ⟨.assign (.p 32), (some 31), none⟩] k22_17 st := goC_ops
def k22_19 : ACode :=
  .cond (.p 25) k22_6 k22_18
@[simp] theorem xk22_19 : GoC fns Q s k22_19 st ↔ GB fns Q s (peek st (.p 25)) k22_6 k22_18 st := goC_cond
def k22_20 : ACode :=
  .ops [⟨.bin .eql 1 true (.p 4) (.c (.int .i64 18)), (some 29), none⟩,
    ⟨.assign (.p 29), (some 25), none⟩] .skip
@[simp] theorem xk22_20 : GoC fns Q s k22_20 st ↔ GoO fns Q s [⟨.bin .eql 1 true (.p 4) (.c (.int .i64 18)), (some 29), none⟩,
    ⟨.assign (.p 29), (some 25), none⟩] .skip st := goC_ops
def k22_21 : ACode :=
  .cond (.p 25) .skip k22_20
@[simp] theorem xk22_21 : GoC fns Q s k22_21 st ↔ GB fns Q s (peek st (.p 25)) .skip k22_20 st := goC_cond
def k22_22 : ACode :=
  .ops [⟨.bin .eql 1 true (.p 4) (.c (.int .i64 16)), (some 28), none⟩,
    ⟨.assign (.p 28), (some 25), none⟩] k22_21
@[simp] theorem xk22_22 : GoC fns Q s k22_22 st ↔ GoO fns Q s [⟨.bin .eql 1 true (.p 4) (.c (.int .i64 16)), (some 28), none⟩,
    ⟨.assign (.p 28), (some 25), none⟩] k22_21 st := goC_ops
def k22_23 : ACode :=
  .cond (.p 25) .skip k22_22
@[simp] theorem xk22_23 : GoC fns Q s k22_23 st ↔ GB fns Q s (peek st (.p 25)) .skip k22_22 st := goC_cond
def k22_24 : ACode :=
  .ops [⟨.bin .eql 1 true (.p 4) (.c (.int .i64 9)), (some 27), none⟩,
    ⟨.assign (.p 27), (some 25), none⟩] k22_23
@[simp] theorem xk22_24 : GoC fns Q s k22_24 st ↔ GoO fns Q s [⟨.bin .eql 1 true (.p 4) (.c (.int .i64 9)), (some 27), none⟩,
    ⟨.assign (.p 27), (some 25), none⟩] k22_23 st := goC_ops
def k22_25 : ACode :=
  .cond (.p 25) .skip k22_24
@[simp] theorem xk22_25 : GoC fns Q s k22_25 st ↔ GB fns Q s (peek st (.p 25)) .skip k22_24 st := goC_cond
def k22_26 : ACode :=
  .seq k22_25 k22_19
@[simp] theorem xk22_26 : GoC fns Q s k22_26 st ↔ GoC fns Q (.sq k22_19 :: s) k22_25 st := goC_seq
def k22_27 : ACode :=
  .ops [⟨.bin .eql 1 true (.p 4) (.c (.int .i64 8)), (some 26), none⟩,
    ⟨.assign (.p 26), (some 25), none⟩] k22_26
@[simp] theorem xk22_27 : GoC fns Q s k22_27 st ↔ GoO fns Q s [⟨.bin .eql 1 true (.p 4) (.c (.int .i64 8)), (some 26), none⟩,
    ⟨.assign (.p 26), (some 25), none⟩] k22_26 st := goC_ops
def k22_28 : ACode :=
  .cond (.p 22) k22_5 k22_27
@[simp] theorem xk22_28 : GoC fns Q s k22_28 st ↔ GB fns Q s (peek st (.p 22)) k22_5 k22_27 st := goC_cond
def k22_29 : ACode :=
  .ops [⟨.bin .eql 1 true (.p 4) (.c (.int .i64 7)), (some 23), none⟩,
    ⟨.assign (.p 23), (some 22), none⟩] k22_28
@[simp] theorem xk22_29 : GoC fns Q s k22_29 st ↔ GoO fns Q s [⟨.bin .eql 1 true (.p 4) (.c (.int .i64 7)), (some 23), none⟩,
    ⟨.assign (.p 23), (some 22), none⟩] k22_28 st := goC_ops
def k22_30 : ACode :=
  .cond (.p 18) k22_4 k22_29
@[simp] theorem xk22_30 : GoC fns Q s k22_30 st ↔ GB fns Q s (peek st (.p 18)) k22_4 k22_29 st := goC_cond
def k22_31 : ACode :=
  .ops [⟨.bin .eql 1 true (.p 4) (.c (.int .i64 5)), (some 19), none⟩,
    ⟨.assign (.p 19), (some 18), none⟩] k22_30
@[simp] theorem xk22_31 : GoC fns Q s k22_31 st ↔ GoO fns Q s [⟨.bin .eql 1 true (.p 4) (.c (.int .i64 5)), (some 19), none⟩,
    ⟨.assign (.p 19), (some 18), none⟩] k22_30 st := goC_ops
def k22_32 : ACode :=
  .cond (.p 14) k22_3 k22_31
@[simp] theorem xk22_32 : GoC fns Q s k22_32 st ↔ GB fns Q s (peek st (.p 14)) k22_3 k22_31 st := goC_cond
def k22_33 : ACode :=
  .ops [⟨.bin .eql 1 true (.p 4) (.c (.int .i64 4)), (some 16), none⟩,
    ⟨.assign (.p 16), (some 14), none⟩] .skip
@[simp] theorem xk22_33 : GoC fns Q s k22_33 st ↔ GoO fns Q s [⟨.bin .eql 1 true (.p 4) (.c (.int .i64 4)), (some 16), none⟩,
    ⟨.assign (.p 16), (some 14), none⟩] .skip st := goC_ops
def k22_34 : ACode :=
  .cond (.p 14) .skip k22_33
@[simp] theorem xk22_34 : GoC fns Q s k22_34 st ↔ GB fns Q s (peek st (.p 14)) .skip k22_33 st := goC_cond
def k22_35 : ACode :=
  .seq k22_34 k22_32
@[simp] theorem xk22_35 : GoC fns Q s k22_35 st ↔ GoC fns Q (.sq k22_32 :: s) k22_34 st := goC_seq
def k22_36 : ACode :=
  .ops [⟨.bin .eql 1 true (.p 4) (.c (.int .i64 3)), (some 15), none⟩,
    ⟨.assign (.p 15), (some 14), none⟩] k22_35
@[simp] theorem xk22_36 : GoC fns Q s k22_36 st ↔ GoO fns Q s [⟨.bin .eql 1 true (.p 4) (.c (.int .i64 3)), (some 15), none⟩,
    ⟨.assign (.p 15), (some 14), none⟩] k22_35 st := goC_ops
def k22_37 : ACode :=
  .cond (.p 9) k22_2 k22_36
@[simp] theorem xk22_37 : GoC fns Q s k22_37 st ↔ GB fns Q s (peek st (.p 9)) k22_2 k22_36 st := goC_cond
def k22_38 : ACode :=
  .ops [⟨.bin .eql 1 true (.p 4) (.c (.int .i64 14)), (some 12), none⟩,
    ⟨.assign (.p 12), (some 9), none⟩] .skip
@[simp] theorem xk22_38 : GoC fns Q s k22_38 st ↔ GoO fns Q s [⟨.bin .eql 1 true (.p 4) (.c (.int .i64 14)), (some 12), none⟩,
    ⟨.assign (.p 12), (some 9), none⟩] .skip st := goC_ops
def k22_39 : ACode :=
  .cond (.p 9) .skip k22_38
@[simp] theorem xk22_39 : GoC fns Q s k22_39 st ↔ GB fns Q s (peek st (.p 9)) .skip k22_38 st := goC_cond
def k22_40 : ACode :=
  .ops [⟨.bin .eql 1 true (.p 4) (.c (.int .i64 13)), (some 11), none⟩,
    ⟨.assign (.p 11), (some 9), none⟩] k22_39
@[simp] theorem xk22_40 : GoC fns Q s k22_40 st ↔ GoO fns Q s [⟨.bin .eql 1 true (.p 4) (.c (.int .i64 13)), (some 11), none⟩,
    ⟨.assign (.p 11), (some 9), none⟩] k22_39 st := goC_ops
def k22_41 : ACode :=
  .cond (.p 9) .skip k22_40
@[simp] theorem xk22_41 : GoC fns Q s k22_41 st ↔ GB fns Q s (peek st (.p 9)) .skip k22_40 st := goC_cond
def k22_42 : ACode :=
  .seq k22_41 k22_37
@[simp] theorem xk22_42 : GoC fns Q s k22_42 st ↔ GoC fns Q (.sq k22_37 :: s) k22_41 st := goC_seq
def k22_43 : ACode :=
  .ops [⟨.bin .eql 1 true (.p 4) (.c (.int .i64 2)), (some 10), none⟩,
    ⟨.assign (.p 10), (some 9), none⟩] k22_42
@[simp] theorem xk22_43 : GoC fns Q s k22_43 st ↔ GoO fns Q s [⟨.bin .eql 1 true (.p 4) (.c (.int .i64 2)), (some 10), none⟩,
    ⟨.assign (.p 10), (some 9), none⟩] k22_42 st := goC_ops
def k22_44 : ACode :=
  .cond (.p 5) k22_1 k22_43
@[simp] theorem xk22_44 : GoC fns Q s k22_44 st ↔ GB fns Q s (peek st (.p 5)) k22_1 k22_43 st := goC_cond
def k22_45 : ACode :=
  .ops [⟨.bin .eql 1 true (.p 4) (.c (.int .i64 17)), (some 7), none⟩,
    ⟨.assign (.p 7), (some 5), none⟩] .skip
@[simp] theorem xk22_45 : GoC fns Q s k22_45 st ↔ GoO fns Q s [⟨.bin .eql 1 true (.p 4) (.c (.int .i64 17)), (some 7), none⟩,
    ⟨.assign (.p 7), (some 5), none⟩] .skip st := goC_ops
def k22_46 : ACode :=
  .cond (.p 5) .skip k22_45
@[simp] theorem xk22_46 : GoC fns Q s k22_46 st ↔ GB fns Q s (peek st (.p 5)) .skip k22_45 st := goC_cond
def k22_47 : ACode :=
  .seq k22_46 k22_44
@[simp] theorem xk22_47 : GoC fns Q s k22_47 st ↔ GoC fns Q (.sq k22_44 :: s) k22_46 st := goC_seq
def k22_48 : ACode :=
  .ops [⟨.bin .eql 1 true (.p 4) (.c (.int .i64 1)), (some 6), none⟩,
    ⟨.assign (.p 6), (some 5), none⟩] k22_47
@[simp] theorem xk22_48 : GoC fns Q s k22_48 st ↔ GoO fns Q s [⟨.bin .eql 1 true (.p 4) (.c (.int .i64 1)), (some 6), none⟩,
    ⟨.assign (.p 6), (some 5), none⟩] k22_47 st := goC_ops
def k22_49 : ACode :=
  .block 0 k22_48
@[simp] theorem xk22_49 : GoC fns Q s k22_49 st ↔ GoC fns Q (.bl 0 :: s) k22_48 st := goC_block
def k22_50 : ACode :=
  .seq k22_49 k22_0
@[simp] theorem xk22_50 : GoC fns Q s k22_50 st ↔ GoC fns Q (.sq k22_0 :: s) k22_49 st := goC_seq
def k22_51 : ACode :=
  .ops [⟨.fieldAddr 0 (.p 1), (some 3), none⟩,
    ⟨.load .head false 1 (.p 3), (some 4), none⟩] k22_50
@[simp] theorem xk22_51 : GoC fns Q s k22_51 st ↔ GoO fns Q s [⟨.fieldAddr 0 (.p 1), (some 3), none⟩,
    ⟨.load .head false 1 (.p 3), (some 4), none⟩] k22_50 st := goC_ops
def k22_52 : ACode :=
  .ops [⟨.box 1 (.p 0), (some 1), none⟩,
    ⟨.newbox 2 [.int .i64 0, .str [], .str [], .int .i64 0, .int .u64 0, .int .u64 0, .slice .nil 0 1 [], .slice .nil 0 1 []], (some 2), none⟩] k22_51
@[simp] theorem xk22_52 : GoC fns Q s k22_52 st ↔ GoO fns Q s [⟨.box 1 (.p 0), (some 1), none⟩,
    ⟨.newbox 2 [.int .i64 0, .str [], .str [], .int .i64 0, .int .u64 0, .int .u64 0, .slice .nil 0 1 [], .slice .nil 0 1 []], (some 2), none⟩] k22_51 st := goC_ops
def af22 : AFunc := ⟨48, k22_52, [.cell 2 true 8]⟩

theorem ok22 : pFunc Try.prog sg Try.f22 = some af22 := by kernel_rfl
/-- No. 23 -/
def k23_0 : ACode :=
  .ops [⟨.assign (.c (.bool true)), (some 2), none⟩] .ret
@[simp] theorem xk23_0 : GoC fns Q s k23_0 st ↔ GoO fns Q s [⟨.assign (.c (.bool true)), (some 2), none⟩] .ret st := goC_ops
def k23_1 : ACode :=
  .ops [⟨.move .look (.p 3), (some 8), none⟩,
    ⟨.bin .add 1 true (.p 8) (.c (.int .i64 1)), (some 9), none⟩,
    ⟨.assign (.p 9), (some 3), none⟩] .skip
@[simp] theorem xk23_1 : GoC fns Q s k23_1 st ↔ GoO fns Q s [⟨.move .look (.p 3), (some 8), none⟩,
    ⟨.bin .add 1 true (.p 8) (.c (.int .i64 1)), (some 9), none⟩,
    ⟨.assign (.p 9), (some 3), none⟩] .skip st := goC_ops
def k23_2 : ACode :=
  .ops [⟨.assign (.c (.bool false)), (some 2), none⟩] .ret
@[simp] theorem xk23_2 : GoC fns Q s k23_2 st ↔ GoO fns Q s [⟨.assign (.c (.bool false)), (some 2), none⟩] .ret st := goC_ops
def k23_3 : ACode :=
  .cond (.p 13) k23_2 .skip
@[simp] theorem xk23_3 : GoC fns Q s k23_3 st ↔ GB fns Q s (peek st (.p 13)) k23_2 .skip st := goC_cond
def k23_4 : ACode :=
  .ops [⟨.move .look (.p 0), (some 10), none⟩,
    ⟨.move .look (.p 3), (some 11), none⟩,
    ⟨.indexStr (.p 10) (.p 11), (some 12), none⟩,
    ⟨.bin .eql 1 true (.p 12) (.c (.int .u8 0)), (some 13), none⟩] k23_3
@[simp] theorem xk23_4 : GoC fns Q s k23_4 st ↔ GoO fns Q s [⟨.move .look (.p 0), (some 10), none⟩,
    ⟨.move .look (.p 3), (some 11), none⟩,
    ⟨.indexStr (.p 10) (.p 11), (some 12), none⟩,
    ⟨.bin .eql 1 true (.p 12) (.c (.int .u8 0)), (some 13), none⟩] k23_3 st := goC_ops
def k23_5 : ACode :=
  .block 1 k23_4
@[simp] theorem xk23_5 : GoC fns Q s k23_5 st ↔ GoC fns Q (.bl 1 :: s) k23_4 st := goC_block
def k23_6 : ACode :=
  .seq k23_5 k23_1
@[simp] theorem xk23_6 : GoC fns Q s k23_6 st ↔ GoC fns Q (.sq k23_1 :: s) k23_5 st := goC_seq
def k23_7 : ACode :=
  .cond (.p 7) .skip (.exit 0)
@[simp] theorem xk23_7 : GoC fns Q s k23_7 st ↔ GB fns Q s (peek st (.p 7)) .skip (.exit 0) st := goC_cond
def k23_8 : ACode :=
  .seq k23_7 k23_6
@[simp] theorem xk23_8 : GoC fns Q s k23_8 st ↔ GoC fns Q (.sq k23_6 :: s) k23_7 st := goC_seq
def k23_9 : ACode :=
  .ops [⟨.move .look (.p 3), (some 4), none⟩,
    ⟨.move .head (.p 0), (some 5), none⟩,
    ⟨.len true (.p 5), (some 6), none⟩,
    ⟨.bin .lss 1 false (.p 4) (.p 6), (some 7), none⟩] k23_8
@[simp] theorem xk23_9 : GoC fns Q s k23_9 st ↔ GoO fns Q s [⟨.move .look (.p 3), (some 4), none⟩,
    ⟨.move .head (.p 0), (some 5), none⟩,
    ⟨.len true (.p 5), (some 6), none⟩,
    ⟨.bin .lss 1 false (.p 4) (.p 6), (some 7), none⟩] k23_8 st := goC_ops
def lc23_0 : ACode :=
  k23_9
@[simp] theorem xlc23_0 : GoC fns Q s lc23_0 st ↔ GoC fns Q s k23_9 st := Iff.rfl
def k23_11 : ACode :=
  .loop lc23_0
@[simp] theorem xk23_11 : GoC fns Q s k23_11 st ↔ (Run (loopω fns lc23_0 st) fun r => GoE fns Q s r.1 r.2) := goC_loop
def k23_12 : ACode :=
  .block 0 k23_11
@[simp] theorem xk23_12 : GoC fns Q s k23_12 st ↔ GoC fns Q (.bl 0 :: s) k23_11 st := goC_block
def k23_13 : ACode :=
  .seq k23_12 k23_0
@[simp] theorem xk23_13 : GoC fns Q s k23_13 st ↔ GoC fns Q (.sq k23_0 :: s) k23_12 st := goC_seq
def k23_14 : ACode :=
  .ops [⟨.assign (.c (.int .i64 0)), (some 3), none⟩] k23_13
@[simp] theorem xk23_14 : GoC fns Q s k23_14 st ↔ GoO fns Q s [⟨.assign (.c (.int .i64 0)), (some 3), none⟩] k23_13 st := goC_ops
def k23_15 : ACode :=
  .ops [⟨.assign (.c (.bool false)), (some 2), none⟩] k23_14
@[simp] theorem xk23_15 : GoC fns Q s k23_15 st ↔ GoO fns Q s [⟨.assign (.c (.bool false)), (some 2), none⟩] k23_14 st := goC_ops
def af23 : AFunc := ⟨14, k23_15, [.tmp 2]⟩

theorem ok23 : pFunc Try.prog sg Try.f23 = some af23 := by kernel_rfl
/-- No. 24 -/
def k24_0 : ACode :=
  .ops [⟨.move .look (.p 0), (some 10), none⟩,
    ⟨.bin .quo 1 true (.p 10) (.c (.int .i64 10)), (some 11), none⟩,
    ⟨.move .look (.p 0), (some 13), none⟩,
    ⟨.bin .rem 1 true (.p 13) (.c (.int .i64 10)), (some 14), none⟩,
    ⟨.bin .add 1 true (.c (.int .i64 48)) (.p 14), (some 15), none⟩,
    ⟨.convInt .u8 (.p 15), (some 16), none⟩,
    ⟨.buildSl 5 1 [.int .u8 0] [(0, 1, .p 16)], (some 17), none⟩,
    ⟨.convBS (.t 17), (some 18), none⟩,
    ⟨.call 24 [(.p 11, false)], (some 12), none⟩,
    ⟨.bin .add 2 false (.p 12) (.p 18), (some 19), none⟩,
    ⟨.assign (.p 19), (some 2), none⟩] .ret
@[simp] theorem xk24_0 : GoC fns Q s k24_0 st ↔ GoO fns Q s [⟨.move .look (.p 0), (some 10), none⟩,
    ⟨.bin .quo 1 true (.p 10) (.c (.int .i64 10)), (some 11), none⟩,
    ⟨.move .look (.p 0), (some 13), none⟩,
    ⟨.bin .rem 1 true (.p 13) (.c (.int .i64 10)), (some 14), none⟩,
    ⟨.bin .add 1 true (.c (.int .i64 48)) (.p 14), (some 15), none⟩,
    ⟨.convInt .u8 (.p 15), (some 16), none⟩,
    ⟨.buildSl 5 1 [.int .u8 0] [(0, 1, .p 16)], (some 17), none⟩,
    ⟨.convBS (.t 17), (some 18), none⟩,
    ⟨.call 24 [(.p 11, false)], (some 12), none⟩,
    ⟨.bin .add 2 false (.p 12) (.p 18), (some 19), none⟩,
    ⟨.assign (.p 19), (some 2), none⟩] .ret st := goC_ops
def k24_1 : ACode :=
  .ops [⟨.move .look (.p 0), (some 5), none⟩,
    ⟨.bin .add 1 true (.c (.int .i64 48)) (.p 5), (some 6), none⟩,
    ⟨.convInt .u8 (.p 6), (some 7), none⟩,
    ⟨.buildSl 5 1 [.int .u8 0] [(0, 1, .p 7)], (some 8), none⟩,
    ⟨.convBS (.t 8), (some 9), none⟩,
    ⟨.assign (.p 9), (some 2), none⟩] .ret
@[simp] theorem xk24_1 : GoC fns Q s k24_1 st ↔ GoO fns Q s [⟨.move .look (.p 0), (some 5), none⟩,
    ⟨.bin .add 1 true (.c (.int .i64 48)) (.p 5), (some 6), none⟩,
    ⟨.convInt .u8 (.p 6), (some 7), none⟩,
    ⟨.buildSl 5 1 [.int .u8 0] [(0, 1, .p 7)], (some 8), none⟩,
    ⟨.convBS (.t 8), (some 9), none⟩,
    ⟨.assign (.p 9), (some 2), none⟩] .ret st := goC_ops
def k24_2 : ACode :=
  .cond (.p 4) k24_1 .skip
@[simp] theorem xk24_2 : GoC fns Q s k24_2 st ↔ GB fns Q s (peek st (.p 4)) k24_1 .skip st := goC_cond
def k24_3 : ACode :=
  .seq k24_2 k24_0
@[simp] theorem xk24_3 : GoC fns Q s k24_3 st ↔ GoC fns Q (.sq k24_0 :: s) k24_2 st := goC_seq
def k24_4 : ACode :=
  .ops [⟨.move .look (.p 0), (some 3), none⟩,
    ⟨.bin .lss 1 true (.p 3) (.c (.int .i64 10)), (some 4), none⟩] k24_3
@[simp] theorem xk24_4 : GoC fns Q s k24_4 st ↔ GoO fns Q s [⟨.move .look (.p 0), (some 3), none⟩,
    ⟨.bin .lss 1 true (.p 3) (.c (.int .i64 10)), (some 4), none⟩] k24_3 st := goC_ops
def k24_5 : ACode :=
  .ops [⟨.assign (.c (.str [])), (some 2), none⟩] k24_4
@[simp] theorem xk24_5 : GoC fns Q s k24_5 st ↔ GoO fns Q s [⟨.assign (.c (.str [])), (some 2), none⟩] k24_4 st := goC_ops
def af24 : AFunc := ⟨20, k24_5, [.tmp 2]⟩

theorem ok24 : pFunc Try.prog sg Try.f24 = some af24 := by kernel_rfl
/-- No. 14 -/
def rg14_4 : List AOper :=
  [⟨.fieldAddr 1 (.p 5), (some 18), none⟩,
    ⟨.load .head false 1 (.p 18), (some 19), none⟩,
    ⟨.bin .neq 2 true (.p 19) (.c (.str [])), (some 20), none⟩,
    ⟨.move .look (.p 20), (some 21), none⟩,
    ⟨.fieldAddr 2 (.p 5), (some 22), (some (21, false))⟩,
    ⟨.load .head false 1 (.p 22), (some 23), (some (21, false))⟩,
    ⟨.bin .neq 2 true (.p 23) (.c (.str [])), (some 24), (some (21, false))⟩,
    ⟨.pick (.p 21) (.c (.bool true)) (.p 24), (some 25), none⟩,
    ⟨.move .look (.p 25), (some 26), none⟩,
    ⟨.fieldAddr 3 (.p 5), (some 27), (some (26, false))⟩,
    ⟨.load .head false 1 (.p 27), (some 28), (some (26, false))⟩,
    ⟨.bin .neq 1 true (.p 28) (.c (.int .i64 0)), (some 29), (some (26, false))⟩,
    ⟨.pick (.p 26) (.c (.bool true)) (.p 29), (some 30), none⟩,
    ⟨.move .look (.p 30), (some 31), none⟩,
    ⟨.fieldAddr 4 (.p 5), (some 32), (some (31, false))⟩,
    ⟨.load .head false 1 (.p 32), (some 33), (some (31, false))⟩,
    ⟨.bin .neq 1 true (.p 33) (.c (.int .u64 0)), (some 34), (some (31, false))⟩,
    ⟨.pick (.p 31) (.c (.bool true)) (.p 34), (some 35), none⟩,
    ⟨.move .look (.p 35), (some 36), none⟩,
    ⟨.fieldAddr 5 (.p 5), (some 37), (some (36, false))⟩,
    ⟨.load .head false 1 (.p 37), (some 38), (some (36, false))⟩,
    ⟨.bin .neq 1 true (.p 38) (.c (.int .u64 0)), (some 39), (some (36, false))⟩,
    ⟨.pick (.p 36) (.c (.bool true)) (.p 39), (some 40), none⟩,
    ⟨.move .look (.p 40), (some 41), none⟩,
    ⟨.fieldAddr 6 (.p 5), (some 42), (some (41, false))⟩,
    ⟨.load .head false 1 (.p 42), (some 43), (some (41, false))⟩,
    ⟨.len false (.p 43), (some 44), (some (41, false))⟩,
    ⟨.bin .neq 1 true (.p 44) (.c (.int .i64 0)), (some 45), (some (41, false))⟩,
    ⟨.pick (.p 41) (.c (.bool true)) (.p 45), (some 46), none⟩,
    ⟨.move .look (.p 46), (some 47), none⟩,
    ⟨.fieldAddr 7 (.p 5), (some 48), (some (47, false))⟩,
    ⟨.load .head false 1 (.p 48), (some 49), (some (47, false))⟩,
    ⟨.len false (.p 49), (some 50), (some (47, false))⟩,
    ⟨.bin .neq 1 true (.p 50) (.c (.int .i64 0)), (some 51), (some (47, false))⟩,
    ⟨.pick (.p 47) (.c (.bool true)) (.p 51), (some 52), none⟩]
theorem org14_4 : GoO fns Q s rg14_4 c st ↔ GoO fns Q s [⟨.fieldAddr 1 (.p 5), (some 18), none⟩,
    ⟨.load .head false 1 (.p 18), (some 19), none⟩,
    ⟨.bin .neq 2 true (.p 19) (.c (.str [])), (some 20), none⟩,
    ⟨.move .look (.p 20), (some 21), none⟩,
    ⟨.fieldAddr 2 (.p 5), (some 22), (some (21, false))⟩,
    ⟨.load .head false 1 (.p 22), (some 23), (some (21, false))⟩,
    ⟨.bin .neq 2 true (.p 23) (.c (.str [])), (some 24), (some (21, false))⟩,
    ⟨.pick (.p 21) (.c (.bool true)) (.p 24), (some 25), none⟩,
    ⟨.move .look (.p 25), (some 26), none⟩,
    ⟨.fieldAddr 3 (.p 5), (some 27), (some (26, false))⟩,
    ⟨.load .head false 1 (.p 27), (some 28), (some (26, false))⟩,
    ⟨.bin .neq 1 true (.p 28) (.c (.int .i64 0)), (some 29), (some (26, false))⟩,
    ⟨.pick (.p 26) (.c (.bool true)) (.p 29), (some 30), none⟩,
    ⟨.move .look (.p 30), (some 31), none⟩,
    ⟨.fieldAddr 4 (.p 5), (some 32), (some (31, false))⟩,
    ⟨.load .head false 1 (.p 32), (some 33), (some (31, false))⟩,
    ⟨.bin .neq 1 true (.p 33) (.c (.int .u64 0)), (some 34), (some (31, false))⟩,
    ⟨.pick (.p 31) (.c (.bool true)) (.p 34), (some 35), none⟩,
    ⟨.move .look (.p 35), (some 36), none⟩,
    ⟨.fieldAddr 5 (.p 5), (some 37), (some (36, false))⟩,
    ⟨.load .head false 1 (.p 37), (some 38), (some (36, false))⟩,
    ⟨.bin .neq 1 true (.p 38) (.c (.int .u64 0)), (some 39), (some (36, false))⟩,
    ⟨.pick (.p 36) (.c (.bool true)) (.p 39), (some 40), none⟩,
    ⟨.move .look (.p 40), (some 41), none⟩,
    ⟨.fieldAddr 6 (.p 5), (some 42), (some (41, false))⟩,
    ⟨.load .head false 1 (.p 42), (some 43), (some (41, false))⟩,
    ⟨.len false (.p 43), (some 44), (some (41, false))⟩,
    ⟨.bin .neq 1 true (.p 44) (.c (.int .i64 0)), (some 45), (some (41, false))⟩,
    ⟨.pick (.p 41) (.c (.bool true)) (.p 45), (some 46), none⟩,
    ⟨.move .look (.p 46), (some 47), none⟩,
    ⟨.fieldAddr 7 (.p 5), (some 48), (some (47, false))⟩,
    ⟨.load .head false 1 (.p 48), (some 49), (some (47, false))⟩,
    ⟨.len false (.p 49), (some 50), (some (47, false))⟩,
    ⟨.bin .neq 1 true (.p 50) (.c (.int .i64 0)), (some 51), (some (47, false))⟩,
    ⟨.pick (.p 47) (.c (.bool true)) (.p 51), (some 52), none⟩] c st := Iff.rfl
def k14_0 : ACode :=
  .ops [⟨.assign (.c (.bool true)), (some 4), none⟩] .ret
@[simp] theorem xk14_0 : GoC fns Q s k14_0 st ↔ GoO fns Q s [⟨.assign (.c (.bool true)), (some 4), none⟩] .ret st := goC_ops
def k14_1 : ACode :=
  .ops [⟨.move .look (.p 6), (some 107), none⟩,
    ⟨.bin .add 1 true (.p 107) (.c (.int .i64 1)), (some 108), none⟩,
    ⟨.assign (.p 108), (some 6), none⟩] .skip
@[simp] theorem xk14_1 : GoC fns Q s k14_1 st ↔ GoO fns Q s [⟨.move .look (.p 6), (some 107), none⟩,
    ⟨.bin .add 1 true (.p 107) (.c (.int .i64 1)), (some 108), none⟩,
    ⟨.assign (.p 108), (some 6), none⟩] .skip st := goC_ops
def k14_2 : ACode :=
  .ops [⟨.assign (.c (.bool false)), (some 4), none⟩] .ret
@[simp] theorem xk14_2 : GoC fns Q s k14_2 st ↔ GoO fns Q s [⟨.assign (.c (.bool false)), (some 4), none⟩] .ret st := goC_ops
def k14_3 : ACode :=
  .cond (.p 137) k14_2 .skip
@[simp] theorem xk14_3 : GoC fns Q s k14_3 st ↔ GB fns Q s (peek st (.p 137)) k14_2 .skip st := goC_cond
def k14_4 : ACode :=
  .ops [⟨.fieldAddr 0 (.p 7), (some 114), none⟩,
    ⟨.load .look false 1 (.p 114), (some 115), none⟩,
    ⟨.call 23 [(.p 115, false)], (some 116), none⟩,
    ⟨.un .not (.p 116), (some 117), none⟩,
    ⟨.move .look (.p 117), (some 118), none⟩,
    ⟨.fieldAddr 0 (.p 2), (some 119), (some (118, false))⟩,
    ⟨.load .head false 1 (.p 119), (some 120), (some (118, false))⟩,
    ⟨.bin .eql 1 true (.p 120) (.c (.int .i64 4)), (some 121), (some (118, false))⟩,
    ⟨.move .look (.p 121), (some 122), (some (118, false))⟩,
    ⟨.fieldAddr 0 (.p 7), (some 123), (some (122, true))⟩,
    ⟨.load .head false 1 (.p 123), (some 124), (some (122, true))⟩,
    ⟨.move .look (.p 6), (some 125), (some (122, true))⟩,
    ⟨.call 24 [(.p 125, false)], (some 126), (some (122, true))⟩,
    ⟨.bin .neq 2 false (.p 124) (.p 126), (some 127), (some (122, true))⟩,
    ⟨.pick (.p 122) (.p 127) (.c (.bool false)), (some 128), (some (118, false))⟩,
    ⟨.pick (.p 118) (.c (.bool true)) (.p 128), (some 129), none⟩,
    ⟨.move .look (.p 129), (some 130), none⟩,
    ⟨.fieldAddr 1 (.p 7), (some 131), (some (130, false))⟩,
    ⟨.load .look true 8 (.p 131), (some 132), (some (130, false))⟩,
    ⟨.move .look (.p 1), (some 133), (some (130, false))⟩,
    ⟨.bin .sub 1 true (.p 133) (.c (.int .i64 1)), (some 134), (some (130, false))⟩,
    ⟨.call 14 [(.p 132, false), (.p 134, false)], (some 135), (some (130, false))⟩,
    ⟨.un .not (.p 135), (some 136), (some (130, false))⟩,
    ⟨.pick (.p 130) (.c (.bool true)) (.p 136), (some 137), none⟩] k14_3
@[simp] theorem xk14_4 : GoC fns Q s k14_4 st ↔ GoO fns Q s [⟨.fieldAddr 0 (.p 7), (some 114), none⟩,
    ⟨.load .look false 1 (.p 114), (some 115), none⟩,
    ⟨.call 23 [(.p 115, false)], (some 116), none⟩,
    ⟨.un .not (.p 116), (some 117), none⟩,
    ⟨.move .look (.p 117), (some 118), none⟩,
    ⟨.fieldAddr 0 (.p 2), (some 119), (some (118, false))⟩,
    ⟨.load .head false 1 (.p 119), (some 120), (some (118, false))⟩,
    ⟨.bin .eql 1 true (.p 120) (.c (.int .i64 4)), (some 121), (some (118, false))⟩,
    ⟨.move .look (.p 121), (some 122), (some (118, false))⟩,
    ⟨.fieldAddr 0 (.p 7), (some 123), (some (122, true))⟩,
    ⟨.load .head false 1 (.p 123), (some 124), (some (122, true))⟩,
    ⟨.move .look (.p 6), (some 125), (some (122, true))⟩,
    ⟨.call 24 [(.p 125, false)], (some 126), (some (122, true))⟩,
    ⟨.bin .neq 2 false (.p 124) (.p 126), (some 127), (some (122, true))⟩,
    ⟨.pick (.p 122) (.p 127) (.c (.bool false)), (some 128), (some (118, false))⟩,
    ⟨.pick (.p 118) (.c (.bool true)) (.p 128), (some 129), none⟩,
    ⟨.move .look (.p 129), (some 130), none⟩,
    ⟨.fieldAddr 1 (.p 7), (some 131), (some (130, false))⟩,
    ⟨.load .look true 8 (.p 131), (some 132), (some (130, false))⟩,
    ⟨.move .look (.p 1), (some 133), (some (130, false))⟩,
    ⟨.bin .sub 1 true (.p 133) (.c (.int .i64 1)), (some 134), (some (130, false))⟩,
    ⟨.call 14 [(.p 132, false), (.p 134, false)], (some 135), (some (130, false))⟩,
    ⟨.un .not (.p 135), (some 136), (some (130, false))⟩,
    ⟨.pick (.p 130) (.c (.bool true)) (.p 136), (some 137), none⟩] k14_3 st := goC_ops
def k14_5 : ACode :=
  .ops [⟨.fieldAddr 7 (.p 2), (some 109), none⟩,
    ⟨.load .look false 1 (.p 109), (some 110), none⟩,
    ⟨.move .look (.p 6), (some 111), none⟩,
    ⟨.indexAddr 9 (.t 110) (.p 111), (some 112), none⟩,
    ⟨.load .take true 9 (.p 112), (some 113), none⟩,
    ⟨.newbox 7 [.str [], .int .i64 0, .str [], .str [], .int .i64 0, .int .u64 0, .int .u64 0, .slice .nil 0 1 [], .slice .nil 0 1 []], (some 7), none⟩,
    ⟨.store 9 (.p 7) (.p 113), none, none⟩] k14_4
@[simp] theorem xk14_5 : GoC fns Q s k14_5 st ↔ GoO fns Q s [⟨.fieldAddr 7 (.p 2), (some 109), none⟩,
    ⟨.load .look false 1 (.p 109), (some 110), none⟩,
    ⟨.move .look (.p 6), (some 111), none⟩,
    ⟨.indexAddr 9 (.t 110) (.p 111), (some 112), none⟩,
    ⟨.load .take true 9 (.p 112), (some 113), none⟩,
    ⟨.newbox 7 [.str [], .int .i64 0, .str [], .str [], .int .i64 0, .int .u64 0, .int .u64 0, .slice .nil 0 1 [], .slice .nil 0 1 []], (some 7), none⟩,
    ⟨.store 9 (.p 7) (.p 113), none, none⟩] k14_4 st := goC_ops
def k14_6 : ACode :=
  .block 2 k14_5
@[simp] theorem xk14_6 : GoC fns Q s k14_6 st ↔ GoC fns Q (.bl 2 :: s) k14_5 st := goC_block
def k14_7 : ACode :=
  .seq k14_6 k14_1
@[simp] theorem xk14_7 : GoC fns Q s k14_7 st ↔ GoC fns Q (.sq k14_1 :: s) k14_6 st := goC_seq
def k14_8 : ACode :=
  .cond (.p 106) .skip (.exit 1)
@[simp] theorem xk14_8 : GoC fns Q s k14_8 st ↔ GB fns Q s (peek st (.p 106)) .skip (.exit 1) st := goC_cond
def k14_9 : ACode :=
  .seq k14_8 k14_7
@[simp] theorem xk14_9 : GoC fns Q s k14_9 st ↔ GoC fns Q (.sq k14_7 :: s) k14_8 st := goC_seq
def k14_10 : ACode :=
  .ops [⟨.move .look (.p 6), (some 102), none⟩,
    ⟨.fieldAddr 7 (.p 2), (some 103), none⟩,
    ⟨.load .head false 1 (.p 103), (some 104), none⟩,
    ⟨.len false (.p 104), (some 105), none⟩,
    ⟨.bin .lss 1 false (.p 102) (.p 105), (some 106), none⟩] k14_9
@[simp] theorem xk14_10 : GoC fns Q s k14_10 st ↔ GoO fns Q s [⟨.move .look (.p 6), (some 102), none⟩,
    ⟨.fieldAddr 7 (.p 2), (some 103), none⟩,
    ⟨.load .head false 1 (.p 103), (some 104), none⟩,
    ⟨.len false (.p 104), (some 105), none⟩,
    ⟨.bin .lss 1 false (.p 102) (.p 105), (some 106), none⟩] k14_9 st := goC_ops
def lc14_0 : ACode :=
  k14_10
@[simp] theorem xlc14_0 : GoC fns Q s lc14_0 st ↔ GoC fns Q s k14_10 st := Iff.rfl
def k14_12 : ACode :=
  .loop lc14_0
@[simp] theorem xk14_12 : GoC fns Q s k14_12 st ↔ (Run (loopω fns lc14_0 st) fun r => GoE fns Q s r.1 r.2) := goC_loop
def k14_13 : ACode :=
  .block 1 k14_12
@[simp] theorem xk14_13 : GoC fns Q s k14_13 st ↔ GoC fns Q (.bl 1 :: s) k14_12 st := goC_block
def k14_14 : ACode :=
  .seq k14_13 k14_0
@[simp] theorem xk14_14 : GoC fns Q s k14_14 st ↔ GoC fns Q (.sq k14_0 :: s) k14_13 st := goC_seq
def k14_15 : ACode :=
  .ops [⟨.assign (.c (.int .i64 0)), (some 6), none⟩] k14_14
@[simp] theorem xk14_15 : GoC fns Q s k14_15 st ↔ GoO fns Q s [⟨.assign (.c (.int .i64 0)), (some 6), none⟩] k14_14 st := goC_ops
def k14_16 : ACode :=
  .ops [⟨.fieldAddr 3 (.p 2), (some 57), none⟩,
    ⟨.load .look false 1 (.p 57), (some 58), none⟩,
    ⟨.bin .geq 1 true (.p 58) (.c (.int .i64 0)), (some 59), none⟩,
    ⟨.move .look (.p 59), (some 60), none⟩,
    ⟨.fieldAddr 3 (.p 2), (some 61), (some (60, true))⟩,
    ⟨.load .look false 1 (.p 61), (some 62), (some (60, true))⟩,
    ⟨.bin .leq 1 true (.p 62) (.c (.int .i64 255)), (some 63), (some (60, true))⟩,
    ⟨.pick (.p 60) (.p 63) (.c (.bool false)), (some 64), none⟩,
    ⟨.assign (.p 64), (some 4), none⟩] .ret
@[simp] theorem xk14_16 : GoC fns Q s k14_16 st ↔ GoO fns Q s [⟨.fieldAddr 3 (.p 2), (some 57), none⟩,
    ⟨.load .look false 1 (.p 57), (some 58), none⟩,
    ⟨.bin .geq 1 true (.p 58) (.c (.int .i64 0)), (some 59), none⟩,
    ⟨.move .look (.p 59), (some 60), none⟩,
    ⟨.fieldAddr 3 (.p 2), (some 61), (some (60, true))⟩,
    ⟨.load .look false 1 (.p 61), (some 62), (some (60, true))⟩,
    ⟨.bin .leq 1 true (.p 62) (.c (.int .i64 255)), (some 63), (some (60, true))⟩,
    ⟨.pick (.p 60) (.p 63) (.c (.bool false)), (some 64), none⟩,
    ⟨.assign (.p 64), (some 4), none⟩] .ret st := goC_ops
def k14_17 : ACode :=
  .ops [⟨.fieldAddr 6 (.p 2), (some 68), none⟩,
    ⟨.load .head false 1 (.p 68), (some 69), none⟩,
    ⟨.len false (.p 69), (some 70), none⟩,
    ⟨.bin .eql 1 true (.p 70) (.c (.int .i64 12)), (some 71), none⟩,
    ⟨.assign (.p 71), (some 4), none⟩] .ret
@[simp] theorem xk14_17 : GoC fns Q s k14_17 st ↔ GoO fns Q s [⟨.fieldAddr 6 (.p 2), (some 68), none⟩,
    ⟨.load .head false 1 (.p 68), (some 69), none⟩,
    ⟨.len false (.p 69), (some 70), none⟩,
    ⟨.bin .eql 1 true (.p 70) (.c (.int .i64 12)), (some 71), none⟩,
    ⟨.assign (.p 71), (some 4), none⟩] .ret st := goC_ops
def k14_18 : ACode :=
  .ops [⟨.fieldAddr 3 (.p 2), (some 74), none⟩,
    ⟨.load .head false 1 (.p 74), (some 75), none⟩,
    ⟨.bin .eql 1 true (.p 75) (.c (.int .i64 0)), (some 76), none⟩,
    ⟨.move .look (.p 76), (some 77), none⟩,
    ⟨.fieldAddr 3 (.p 2), (some 78), (some (77, false))⟩,
    ⟨.load .head false 1 (.p 78), (some 79), (some (77, false))⟩,
    ⟨.bin .eql 1 true (.p 79) (.c (.int .i64 1)), (some 80), (some (77, false))⟩,
    ⟨.pick (.p 77) (.c (.bool true)) (.p 80), (some 81), none⟩,
    ⟨.assign (.p 81), (some 4), none⟩] .ret
@[simp] theorem xk14_18 : GoC fns Q s k14_18 st ↔ GoO fns Q s [⟨.fieldAddr 3 (.p 2), (some 74), none⟩,
    ⟨.load .head false 1 (.p 74), (some 75), none⟩,
    ⟨.bin .eql 1 true (.p 75) (.c (.int .i64 0)), (some 76), none⟩,
    ⟨.move .look (.p 76), (some 77), none⟩,
    ⟨.fieldAddr 3 (.p 2), (some 78), (some (77, false))⟩,
    ⟨.load .head false 1 (.p 78), (some 79), (some (77, false))⟩,
    ⟨.bin .eql 1 true (.p 79) (.c (.int .i64 1)), (some 80), (some (77, false))⟩,
    ⟨.pick (.p 77) (.c (.bool true)) (.p 80), (some 81), none⟩,
    ⟨.assign (.p 81), (some 4), none⟩] .ret st := goC_ops
def k14_19 : ACode :=
  .ops [⟨.fieldAddr 3 (.p 2), (some 84), none⟩,
    ⟨.load .look false 1 (.p 84), (some 85), none⟩,
    ⟨.bin .geq 1 true (.p 85) (.c (.int .i64 (-2147483648))), (some 86), none⟩,
    ⟨.move .look (.p 86), (some 87), none⟩,
    ⟨.fieldAddr 3 (.p 2), (some 88), (some (87, true))⟩,
    ⟨.load .look false 1 (.p 88), (some 89), (some (87, true))⟩,
    ⟨.bin .lss 1 true (.p 89) (.c (.int .i64 2147483648)), (some 90), (some (87, true))⟩,
    ⟨.pick (.p 87) (.p 90) (.c (.bool false)), (some 91), none⟩,
    ⟨.assign (.p 91), (some 4), none⟩] .ret
@[simp] theorem xk14_19 : GoC fns Q s k14_19 st ↔ GoO fns Q s [⟨.fieldAddr 3 (.p 2), (some 84), none⟩,
    ⟨.load .look false 1 (.p 84), (some 85), none⟩,
    ⟨.bin .geq 1 true (.p 85) (.c (.int .i64 (-2147483648))), (some 86), none⟩,
    ⟨.move .look (.p 86), (some 87), none⟩,
    ⟨.fieldAddr 3 (.p 2), (some 88), (some (87, true))⟩,
    ⟨.load .look false 1 (.p 88), (some 89), (some (87, true))⟩,
    ⟨.bin .lss 1 true (.p 89) (.c (.int .i64 2147483648)), (some 90), (some (87, true))⟩,
    ⟨.pick (.p 87) (.p 90) (.c (.bool false)), (some 91), none⟩,
    ⟨.assign (.p 91), (some 4), none⟩] .ret st := goC_ops
def k14_20 : ACode :=
  .ops [⟨.fieldAddr 1 (.p 2), (some 94), none⟩,
    ⟨.load .look false 1 (.p 94), (some 95), none⟩,
    ⟨.call 23 [(.p 95, false)], (some 96), none⟩,
    ⟨.move .look (.p 96), (some 97), none⟩,
    ⟨.fieldAddr 2 (.p 2), (some 98), (some (97, true))⟩,
    ⟨.load .look false 1 (.p 98), (some 99), (some (97, true))⟩,
    ⟨.call 23 [(.p 99, false)], (some 100), (some (97, true))⟩,
    ⟨.pick (.p 97) (.p 100) (.c (.bool false)), (some 101), none⟩,
    ⟨.assign (.p 101), (some 4), none⟩] .ret
@[simp] theorem xk14_20 : GoC fns Q s k14_20 st ↔ GoO fns Q s [⟨.fieldAddr 1 (.p 2), (some 94), none⟩,
    ⟨.load .look false 1 (.p 94), (some 95), none⟩,
    ⟨.call 23 [(.p 95, false)], (some 96), none⟩,
    ⟨.move .look (.p 96), (some 97), none⟩,
    ⟨.fieldAddr 2 (.p 2), (some 98), (some (97, true))⟩,
    ⟨.load .look false 1 (.p 98), (some 99), (some (97, true))⟩,
    ⟨.call 23 [(.p 99, false)], (some 100), (some (97, true))⟩,
    ⟨.pick (.p 97) (.p 100) (.c (.bool false)), (some 101), none⟩,
    ⟨.assign (.p 101), (some 4), none⟩] .ret st := goC_ops
def k14_21 : ACode :=
  .cond (.p 92) k14_20 .skip
@[simp] theorem xk14_21 : GoC fns Q s k14_21 st ↔ GB fns Q s (peek st (.p 92)) k14_20 .skip st := goC_cond
def k14_22 : ACode :=
  .ops [⟨.bin .eql 1 true (.p 54) (.c (.int .i64 11)), (some 93), none⟩,
    ⟨.assign (.p 93), (some 92), none⟩] k14_21
@[simp] theorem xk14_22 : GoC fns Q s k14_22 st ↔ GoO fns Q s [⟨.bin .eql 1 true (.p 54) (.c (.int .i64 11)), (some 93), none⟩,
    ⟨.assign (.p 93), (some 92), none⟩] k14_21 st := goC_ops
def k14_23 : ACode :=
  .cond (.p 82) k14_19 k14_22
@[simp] theorem xk14_23 : GoC fns Q s k14_23 st ↔ GB fns Q s (peek st (.p 82)) k14_19 k14_22 st := goC_cond
def k14_24 : ACode :=
  .ops [⟨.bin .eql 1 true (.p 54) (.c (.int .i64 16)), (some 83), none⟩,
    ⟨.assign (.p 83), (some 82), none⟩] k14_23
@[simp] theorem xk14_24 : GoC fns Q s k14_24 st ↔ GoO fns Q s [⟨.bin .eql 1 true (.p 54) (.c (.int .i64 16)), (some 83), none⟩,
    ⟨.assign (.p 83), (some 82), none⟩] k14_23 st := goC_ops
def k14_25 : ACode :=
  .cond (.p 72) k14_18 k14_24
@[simp] theorem xk14_25 : GoC fns Q s k14_25 st ↔ GB fns Q s (peek st (.p 72)) k14_18 k14_24 st := goC_cond
def k14_26 : ACode :=
  .ops [⟨.bin .eql 1 true (.p 54) (.c (.int .i64 8)), (some 73), none⟩,
    ⟨.assign (.p 73), (some 72), none⟩] k14_25
@[simp] theorem xk14_26 : GoC fns Q s k14_26 st ↔ GoO fns Q s [⟨.bin .eql 1 true (.p 54) (.c (.int .i64 8)), (some 73), none⟩,
    ⟨.assign (.p 73), (some 72), none⟩] k14_25 st := goC_ops
def k14_27 : ACode :=
  .cond (.p 65) k14_17 k14_26
@[simp] theorem xk14_27 : GoC fns Q s k14_27 st ↔ GB fns Q s (peek st (.p 65)) k14_17 k14_26 st := goC_cond
def k14_28 : ACode :=
  .ops [⟨.bin .eql 1 true (.p 54) (.c (.int .i64 12)), (some 67), none⟩,
    ⟨.assign (.p 67), (some 65), none⟩] .skip
@[simp] theorem xk14_28 : GoC fns Q s k14_28 st ↔ GoO fns Q s [⟨.bin .eql 1 true (.p 54) (.c (.int .i64 12)), (some 67), none⟩,
    ⟨.assign (.p 67), (some 65), none⟩] .skip st := goC_ops
def k14_29 : ACode :=
  .cond (.p 65) .skip k14_28
@[simp] theorem xk14_29 : GoC fns Q s k14_29 st ↔ GB fns Q s (peek st (.p 65)) .skip k14_28 st := goC_cond
def k14_30 : ACode :=
  .seq k14_29 k14_27
@[simp] theorem xk14_30 : GoC fns Q s k14_30 st ↔ GoC fns Q (.sq k14_27 :: s) k14_29 st := goC_seq
def k14_31 : ACode :=
  .ops [⟨.bin .eql 1 true (.p 54) (.c (.int .i64 7)), (some 66), none⟩,
    ⟨.assign (.p 66), (some 65), none⟩] k14_30
@[simp] theorem xk14_31 : GoC fns Q s k14_31 st ↔ GoO fns Q s [⟨.bin .eql 1 true (.p 54) (.c (.int .i64 7)), (some 66), none⟩,
    ⟨.assign (.p 66), (some 65), none⟩] k14_30 st := goC_ops
def k14_32 : ACode :=
  .cond (.p 55) k14_16 k14_31
@[simp] theorem xk14_32 : GoC fns Q s k14_32 st ↔ GB fns Q s (peek st (.p 55)) k14_16 k14_31 st := goC_cond
def k14_33 : ACode :=
  .ops [⟨.bin .eql 1 true (.p 54) (.c (.int .i64 5)), (some 56), none⟩,
    ⟨.assign (.p 56), (some 55), none⟩] k14_32
@[simp] theorem xk14_33 : GoC fns Q s k14_33 st ↔ GoO fns Q s [⟨.bin .eql 1 true (.p 54) (.c (.int .i64 5)), (some 56), none⟩,
    ⟨.assign (.p 56), (some 55), none⟩] k14_32 st := goC_ops
def k14_34 : ACode :=
  .block 0 k14_33
@[simp] theorem xk14_34 : GoC fns Q s k14_34 st ↔ GoC fns Q (.bl 0 :: s) k14_33 st := goC_block
def k14_35 : ACode :=
  .seq k14_34 k14_15
@[simp] theorem xk14_35 : GoC fns Q s k14_35 st ↔ GoC fns Q (.sq k14_15 :: s) k14_34 st := goC_seq
def k14_36 : ACode :=
  .ops [⟨.fieldAddr 0 (.p 2), (some 53), none⟩,
    ⟨.load .head false 1 (.p 53), (some 54), none⟩] k14_35
@[simp] theorem xk14_36 : GoC fns Q s k14_36 st ↔ GoO fns Q s [⟨.fieldAddr 0 (.p 2), (some 53), none⟩,
    ⟨.load .head false 1 (.p 53), (some 54), none⟩] k14_35 st := goC_ops
def k14_37 : ACode :=
  .ops [⟨.assign (.c (.bool false)), (some 4), none⟩] .ret
@[simp] theorem xk14_37 : GoC fns Q s k14_37 st ↔ GoO fns Q s [⟨.assign (.c (.bool false)), (some 4), none⟩] .ret st := goC_ops
def k14_38 : ACode :=
  .cond (.p 52) k14_37 .skip
@[simp] theorem xk14_38 : GoC fns Q s k14_38 st ↔ GB fns Q s (peek st (.p 52)) k14_37 .skip st := goC_cond
def k14_39 : ACode :=
  .seq k14_38 k14_36
@[simp] theorem xk14_39 : GoC fns Q s k14_39 st ↔ GoC fns Q (.sq k14_36 :: s) k14_38 st := goC_seq
def k14_40 : ACode :=
  .ops rg14_4 k14_39
@[simp] theorem xk14_40 : GoC fns Q s k14_40 st ↔ GoO fns Q s rg14_4 k14_39 st := goC_ops
def k14_41 : ACode :=
  .ops [⟨.load .look true 8 (.p 2), (some 16), none⟩,
    ⟨.call 22 [(.p 16, false)], (some 17), none⟩,
    ⟨.newbox 5 [.int .i64 0, .str [], .str [], .int .i64 0, .int .u64 0, .int .u64 0, .slice .nil 0 1 [], .slice .nil 0 1 []], (some 5), none⟩,
    ⟨.store 8 (.p 5) (.p 17), none, none⟩] k14_40
@[simp] theorem xk14_41 : GoC fns Q s k14_41 st ↔ GoO fns Q s [⟨.load .look true 8 (.p 2), (some 16), none⟩,
    ⟨.call 22 [(.p 16, false)], (some 17), none⟩,
    ⟨.newbox 5 [.int .i64 0, .str [], .str [], .int .i64 0, .int .u64 0, .int .u64 0, .slice .nil 0 1 [], .slice .nil 0 1 []], (some 5), none⟩,
    ⟨.store 8 (.p 5) (.p 17), none, none⟩] k14_40 st := goC_ops
def k14_42 : ACode :=
  .ops [⟨.assign (.c (.bool false)), (some 4), none⟩] .ret
@[simp] theorem xk14_42 : GoC fns Q s k14_42 st ↔ GoO fns Q s [⟨.assign (.c (.bool false)), (some 4), none⟩] .ret st := goC_ops
def k14_43 : ACode :=
  .cond (.p 15) k14_42 .skip
@[simp] theorem xk14_43 : GoC fns Q s k14_43 st ↔ GB fns Q s (peek st (.p 15)) k14_42 .skip st := goC_cond
def k14_44 : ACode :=
  .seq k14_43 k14_41
@[simp] theorem xk14_44 : GoC fns Q s k14_44 st ↔ GoC fns Q (.sq k14_41 :: s) k14_43 st := goC_seq
def k14_45 : ACode :=
  .ops [⟨.fieldAddr 0 (.p 2), (some 8), none⟩,
    ⟨.load .look false 1 (.p 8), (some 9), none⟩,
    ⟨.call 21 [(.p 9, false)], (some 10), none⟩,
    ⟨.un .not (.p 10), (some 11), none⟩,
    ⟨.move .look (.p 11), (some 12), none⟩,
    ⟨.move .head (.p 1), (some 13), (some (12, false))⟩,
    ⟨.bin .eql 1 true (.p 13) (.c (.int .i64 0)), (some 14), (some (12, false))⟩,
    ⟨.pick (.p 12) (.c (.bool true)) (.p 14), (some 15), none⟩] k14_44
@[simp] theorem xk14_45 : GoC fns Q s k14_45 st ↔ GoO fns Q s [⟨.fieldAddr 0 (.p 2), (some 8), none⟩,
    ⟨.load .look false 1 (.p 8), (some 9), none⟩,
    ⟨.call 21 [(.p 9, false)], (some 10), none⟩,
    ⟨.un .not (.p 10), (some 11), none⟩,
    ⟨.move .look (.p 11), (some 12), none⟩,
    ⟨.move .head (.p 1), (some 13), (some (12, false))⟩,
    ⟨.bin .eql 1 true (.p 13) (.c (.int .i64 0)), (some 14), (some (12, false))⟩,
    ⟨.pick (.p 12) (.c (.bool true)) (.p 14), (some 15), none⟩] k14_44 st := goC_ops
def k14_46 : ACode :=
  .ops [⟨.box 2 (.p 0), (some 2), none⟩,
    ⟨.assign (.c (.bool false)), (some 4), none⟩] k14_45
@[simp] theorem xk14_46 : GoC fns Q s k14_46 st ↔ GoO fns Q s [⟨.box 2 (.p 0), (some 2), none⟩,
    ⟨.assign (.c (.bool false)), (some 4), none⟩] k14_45 st := goC_ops
def af14 : AFunc := ⟨138, k14_46, [.tmp 4]⟩

theorem ok14 : pFunc Try.prog sg Try.f14 = some af14 := by kernel_rfl
/-- No. 9 -/
def k9_0 : ACode :=
  .ops [⟨.load .look true 8 (.p 1), (some 3), none⟩,
    ⟨.call 14 [(.p 3, false), (.c (.int .i64 200), false)], (some 4), none⟩,
    ⟨.assign (.p 4), (some 2), none⟩] .ret
@[simp] theorem xk9_0 : GoC fns Q s k9_0 st ↔ GoO fns Q s [⟨.load .look true 8 (.p 1), (some 3), none⟩,
    ⟨.call 14 [(.p 3, false), (.c (.int .i64 200), false)], (some 4), none⟩,
    ⟨.assign (.p 4), (some 2), none⟩] .ret st := goC_ops
def k9_1 : ACode :=
  .ops [⟨.box 1 (.p 0), (some 1), none⟩,
    ⟨.assign (.c (.bool false)), (some 2), none⟩] k9_0
@[simp] theorem xk9_1 : GoC fns Q s k9_1 st ↔ GoO fns Q s [⟨.box 1 (.p 0), (some 1), none⟩,
    ⟨.assign (.c (.bool false)), (some 2), none⟩] k9_0 st := goC_ops
def af9 : AFunc := ⟨5, k9_1, [.tmp 2]⟩

theorem ok9 : pFunc Try.prog sg Try.f9 = some af9 := by kernel_rfl
/-- No. 10 -/
def k10_0 : ACode :=
  .ops [⟨.move .take (.p 3), (some 40), none⟩,
    ⟨.assign (.p 40), (some 2), none⟩] .ret
@[simp] theorem xk10_0 : GoC fns Q s k10_0 st ↔ GoO fns Q s [⟨.move .take (.p 3), (some 40), none⟩,
    ⟨.assign (.p 40), (some 2), none⟩] .ret st := goC_ops
def k10_1 : ACode :=
  .ops [⟨.move .look (.p 4), (some 21), none⟩,
    ⟨.bin .add 1 true (.p 21) (.c (.int .i64 1)), (some 22), none⟩,
    ⟨.assign (.p 22), (some 4), none⟩] .skip
@[simp] theorem xk10_1 : GoC fns Q s k10_1 st ↔ GoO fns Q s [⟨.move .look (.p 4), (some 21), none⟩,
    ⟨.bin .add 1 true (.p 21) (.c (.int .i64 1)), (some 22), none⟩,
    ⟨.assign (.p 22), (some 4), none⟩] .skip st := goC_ops
def k10_2 : ACode :=
  .ops [⟨.move .look (.p 3), (some 23), none⟩,
    ⟨.fieldAddr 7 (.p 1), (some 24), none⟩,
    ⟨.load .look false 1 (.p 24), (some 25), none⟩,
    ⟨.move .look (.p 4), (some 26), none⟩,
    ⟨.indexAddr 9 (.t 25) (.p 26), (some 27), none⟩,
    ⟨.fieldAddr 0 (.p 27), (some 28), none⟩,
    ⟨.load .head false 1 (.p 28), (some 29), none⟩,
    ⟨.len true (.p 29), (some 30), none⟩,
    ⟨.bin .add 1 false (.p 23) (.p 30), (some 31), none⟩,
    ⟨.fieldAddr 7 (.p 1), (some 32), none⟩,
    ⟨.load .look false 1 (.p 32), (some 33), none⟩,
    ⟨.move .look (.p 4), (some 34), none⟩,
    ⟨.indexAddr 9 (.t 33) (.p 34), (some 35), none⟩,
    ⟨.fieldAddr 1 (.p 35), (some 36), none⟩,
    ⟨.load .look true 8 (.p 36), (some 37), none⟩,
    ⟨.call 10 [(.p 37, false)], (some 38), none⟩,
    ⟨.bin .add 1 false (.p 31) (.p 38), (some 39), none⟩,
    ⟨.assign (.p 39), (some 3), none⟩] .skip
@[simp] theorem xk10_2 : GoC fns Q s k10_2 st ↔ GoO fns Q s [⟨.move .look (.p 3), (some 23), none⟩,
    ⟨.fieldAddr 7 (.p 1), (some 24), none⟩,
    ⟨.load .look false 1 (.p 24), (some 25), none⟩,
    ⟨.move .look (.p 4), (some 26), none⟩,
    ⟨.indexAddr 9 (.t 25) (.p 26), (some 27), none⟩,
    ⟨.fieldAddr 0 (.p 27), (some 28), none⟩,
    ⟨.load .head false 1 (.p 28), (some 29), none⟩,
    ⟨.len true (.p 29), (some 30), none⟩,
    ⟨.bin .add 1 false (.p 23) (.p 30), (some 31), none⟩,
    ⟨.fieldAddr 7 (.p 1), (some 32), none⟩,
    ⟨.load .look false 1 (.p 32), (some 33), none⟩,
    ⟨.move .look (.p 4), (some 34), none⟩,
    ⟨.indexAddr 9 (.t 33) (.p 34), (some 35), none⟩,
    ⟨.fieldAddr 1 (.p 35), (some 36), none⟩,
    ⟨.load .look true 8 (.p 36), (some 37), none⟩,
    ⟨.call 10 [(.p 37, false)], (some 38), none⟩,
    ⟨.bin .add 1 false (.p 31) (.p 38), (some 39), none⟩,
    ⟨.assign (.p 39), (some 3), none⟩] .skip st := goC_ops
def k10_3 : ACode :=
  .block 1 k10_2
@[simp] theorem xk10_3 : GoC fns Q s k10_3 st ↔ GoC fns Q (.bl 1 :: s) k10_2 st := goC_block
def k10_4 : ACode :=
  .seq k10_3 k10_1
@[simp] theorem xk10_4 : GoC fns Q s k10_4 st ↔ GoC fns Q (.sq k10_1 :: s) k10_3 st := goC_seq
def k10_5 : ACode :=
  .cond (.p 20) .skip (.exit 0)
@[simp] theorem xk10_5 : GoC fns Q s k10_5 st ↔ GB fns Q s (peek st (.p 20)) .skip (.exit 0) st := goC_cond
def k10_6 : ACode :=
  .seq k10_5 k10_4
@[simp] theorem xk10_6 : GoC fns Q s k10_6 st ↔ GoC fns Q (.sq k10_4 :: s) k10_5 st := goC_seq
def k10_7 : ACode :=
  .ops [⟨.move .look (.p 4), (some 16), none⟩,
    ⟨.fieldAddr 7 (.p 1), (some 17), none⟩,
    ⟨.load .head false 1 (.p 17), (some 18), none⟩,
    ⟨.len false (.p 18), (some 19), none⟩,
    ⟨.bin .lss 1 false (.p 16) (.p 19), (some 20), none⟩] k10_6
@[simp] theorem xk10_7 : GoC fns Q s k10_7 st ↔ GoO fns Q s [⟨.move .look (.p 4), (some 16), none⟩,
    ⟨.fieldAddr 7 (.p 1), (some 17), none⟩,
    ⟨.load .head false 1 (.p 17), (some 18), none⟩,
    ⟨.len false (.p 18), (some 19), none⟩,
    ⟨.bin .lss 1 false (.p 16) (.p 19), (some 20), none⟩] k10_6 st := goC_ops
def lc10_0 : ACode :=
  k10_7
@[simp] theorem xlc10_0 : GoC fns Q s lc10_0 st ↔ GoC fns Q s k10_7 st := Iff.rfl
def k10_9 : ACode :=
  .loop lc10_0
@[simp] theorem xk10_9 : GoC fns Q s k10_9 st ↔ (Run (loopω fns lc10_0 st) fun r => GoE fns Q s r.1 r.2) := goC_loop
def k10_10 : ACode :=
  .block 0 k10_9
@[simp] theorem xk10_10 : GoC fns Q s k10_10 st ↔ GoC fns Q (.bl 0 :: s) k10_9 st := goC_block
def k10_11 : ACode :=
  .seq k10_10 k10_0
@[simp] theorem xk10_11 : GoC fns Q s k10_11 st ↔ GoC fns Q (.sq k10_0 :: s) k10_10 st := goC_seq
def k10_12 : ACode :=
  .ops [⟨.assign (.c (.int .i64 0)), (some 4), none⟩] k10_11
@[simp] theorem xk10_12 : GoC fns Q s k10_12 st ↔ GoO fns Q s [⟨.assign (.c (.int .i64 0)), (some 4), none⟩] k10_11 st := goC_ops
def k10_13 : ACode :=
  .ops [⟨.fieldAddr 1 (.p 1), (some 5), none⟩,
    ⟨.load .head false 1 (.p 5), (some 6), none⟩,
    ⟨.len true (.p 6), (some 7), none⟩,
    ⟨.fieldAddr 2 (.p 1), (some 8), none⟩,
    ⟨.load .head false 1 (.p 8), (some 9), none⟩,
    ⟨.len true (.p 9), (some 10), none⟩,
    ⟨.bin .add 1 false (.p 7) (.p 10), (some 11), none⟩,
    ⟨.fieldAddr 6 (.p 1), (some 12), none⟩,
    ⟨.load .head false 1 (.p 12), (some 13), none⟩,
    ⟨.len false (.p 13), (some 14), none⟩,
    ⟨.bin .add 1 false (.p 11) (.p 14), (some 15), none⟩,
    ⟨.assign (.p 15), (some 3), none⟩] k10_12
@[simp] theorem xk10_13 : GoC fns Q s k10_13 st ↔ GoO fns Q s [⟨.fieldAddr 1 (.p 1), (some 5), none⟩,
    ⟨.load .head false 1 (.p 5), (some 6), none⟩,
    ⟨.len true (.p 6), (some 7), none⟩,
    ⟨.fieldAddr 2 (.p 1), (some 8), none⟩,
    ⟨.load .head false 1 (.p 8), (some 9), none⟩,
    ⟨.len true (.p 9), (some 10), none⟩,
    ⟨.bin .add 1 false (.p 7) (.p 10), (some 11), none⟩,
    ⟨.fieldAddr 6 (.p 1), (some 12), none⟩,
    ⟨.load .head false 1 (.p 12), (some 13), none⟩,
    ⟨.len false (.p 13), (some 14), none⟩,
    ⟨.bin .add 1 false (.p 11) (.p 14), (some 15), none⟩,
    ⟨.assign (.p 15), (some 3), none⟩] k10_12 st := goC_ops
def k10_14 : ACode :=
  .ops [⟨.box 1 (.p 0), (some 1), none⟩,
    ⟨.assign (.c (.int .i64 0)), (some 2), none⟩] k10_13
@[simp] theorem xk10_14 : GoC fns Q s k10_14 st ↔ GoO fns Q s [⟨.box 1 (.p 0), (some 1), none⟩,
    ⟨.assign (.c (.int .i64 0)), (some 2), none⟩] k10_13 st := goC_ops
def af10 : AFunc := ⟨41, k10_14, [.tmp 2]⟩

theorem ok10 : pFunc Try.prog sg Try.f10 = some af10 := by kernel_rfl
/-- No. 5 -/
def k5_0 : ACode :=
  .ops [⟨.load .look true 8 (.p 1), (some 3), none⟩,
    ⟨.call 8 [(.p 3, false), (.c (.int .i64 1000), false)], (some 4), none⟩,
    ⟨.bin .leq 1 true (.p 4) (.c (.int .i64 1000)), (some 5), none⟩,
    ⟨.move .look (.p 5), (some 6), none⟩,
    ⟨.load .look true 8 (.p 1), (some 7), (some (6, true))⟩,
    ⟨.call 9 [(.p 7, false)], (some 8), (some (6, true))⟩,
    ⟨.pick (.p 6) (.p 8) (.c (.bool false)), (some 9), none⟩,
    ⟨.move .look (.p 9), (some 10), none⟩,
    ⟨.load .look true 8 (.p 1), (some 11), (some (10, true))⟩,
    ⟨.call 10 [(.p 11, false)], (some 12), (some (10, true))⟩,
    ⟨.bin .leq 1 true (.p 12) (.c (.int .i64 65536)), (some 13), (some (10, true))⟩,
    ⟨.pick (.p 10) (.p 13) (.c (.bool false)), (some 14), none⟩,
    ⟨.assign (.p 14), (some 2), none⟩] .ret
@[simp] theorem xk5_0 : GoC fns Q s k5_0 st ↔ GoO fns Q s [⟨.load .look true 8 (.p 1), (some 3), none⟩,
    ⟨.call 8 [(.p 3, false), (.c (.int .i64 1000), false)], (some 4), none⟩,
    ⟨.bin .leq 1 true (.p 4) (.c (.int .i64 1000)), (some 5), none⟩,
    ⟨.move .look (.p 5), (some 6), none⟩,
    ⟨.load .look true 8 (.p 1), (some 7), (some (6, true))⟩,
    ⟨.call 9 [(.p 7, false)], (some 8), (some (6, true))⟩,
    ⟨.pick (.p 6) (.p 8) (.c (.bool false)), (some 9), none⟩,
    ⟨.move .look (.p 9), (some 10), none⟩,
    ⟨.load .look true 8 (.p 1), (some 11), (some (10, true))⟩,
    ⟨.call 10 [(.p 11, false)], (some 12), (some (10, true))⟩,
    ⟨.bin .leq 1 true (.p 12) (.c (.int .i64 65536)), (some 13), (some (10, true))⟩,
    ⟨.pick (.p 10) (.p 13) (.c (.bool false)), (some 14), none⟩,
    ⟨.assign (.p 14), (some 2), none⟩] .ret st := goC_ops
def k5_1 : ACode :=
  .ops [⟨.box 1 (.p 0), (some 1), none⟩,
    ⟨.assign (.c (.bool false)), (some 2), none⟩] k5_0
@[simp] theorem xk5_1 : GoC fns Q s k5_1 st ↔ GoO fns Q s [⟨.box 1 (.p 0), (some 1), none⟩,
    ⟨.assign (.c (.bool false)), (some 2), none⟩] k5_0 st := goC_ops
def af5 : AFunc := ⟨15, k5_1, [.tmp 2]⟩

theorem ok5 : pFunc Try.prog sg Try.f5 = some af5 := by kernel_rfl
/-- No. 17 -/
def k17_0 : ACode :=
  .ops [⟨.move .take (.t 0), (some 17), none⟩,
    ⟨.assign (.t 17), (some 4), none⟩] .ret
@[simp] theorem xk17_0 : GoC fns Q s k17_0 st ↔ GoO fns Q s [⟨.move .take (.t 0), (some 17), none⟩,
    ⟨.assign (.t 17), (some 4), none⟩] .ret st := goC_ops
def k17_1 : ACode :=
  .ops [⟨.move .look (.p 5), (some 8), none⟩,
    ⟨.bin .add 1 true (.p 8) (.c (.int .i64 8)), (some 9), none⟩,
    ⟨.assign (.p 9), (some 5), none⟩] .skip
@[simp] theorem xk17_1 : GoC fns Q s k17_1 st ↔ GoO fns Q s [⟨.move .look (.p 5), (some 8), none⟩,
    ⟨.bin .add 1 true (.p 8) (.c (.int .i64 8)), (some 9), none⟩,
    ⟨.assign (.p 9), (some 5), none⟩] .skip st := goC_ops
def k17_2 : ACode :=
  .ops [⟨.move .take (.t 0), (some 10), none⟩,
    ⟨.move .look (.p 1), (some 11), none⟩,
    ⟨.move .look (.p 5), (some 12), none⟩,
    ⟨.bin .shr 1 false (.p 11) (.p 12), (some 13), none⟩,
    ⟨.convInt .u8 (.p 13), (some 14), none⟩,
    ⟨.buildSl 5 1 [.int .u8 0] [(0, 1, .p 14)], (some 15), none⟩,
    ⟨.append 5 1 1 false (.t 10) (.p 15), (some 16), none⟩,
    ⟨.assign (.t 16), (some 0), none⟩] .skip
@[simp] theorem xk17_2 : GoC fns Q s k17_2 st ↔ GoO fns Q s [⟨.move .take (.t 0), (some 10), none⟩,
    ⟨.move .look (.p 1), (some 11), none⟩,
    ⟨.move .look (.p 5), (some 12), none⟩,
    ⟨.bin .shr 1 false (.p 11) (.p 12), (some 13), none⟩,
    ⟨.convInt .u8 (.p 13), (some 14), none⟩,
    ⟨.buildSl 5 1 [.int .u8 0] [(0, 1, .p 14)], (some 15), none⟩,
    ⟨.append 5 1 1 false (.t 10) (.p 15), (some 16), none⟩,
    ⟨.assign (.t 16), (some 0), none⟩] .skip st := goC_ops
def k17_3 : ACode :=
  .block 1 k17_2
@[simp] theorem xk17_3 : GoC fns Q s k17_3 st ↔ GoC fns Q (.bl 1 :: s) k17_2 st := goC_block
def k17_4 : ACode :=
  .seq k17_3 k17_1
@[simp] theorem xk17_4 : GoC fns Q s k17_4 st ↔ GoC fns Q (.sq k17_1 :: s) k17_3 st := goC_seq
def k17_5 : ACode :=
  .cond (.p 7) .skip (.exit 0)
@[simp] theorem xk17_5 : GoC fns Q s k17_5 st ↔ GB fns Q s (peek st (.p 7)) .skip (.exit 0) st := goC_cond
def k17_6 : ACode :=
  .seq k17_5 k17_4
@[simp] theorem xk17_6 : GoC fns Q s k17_6 st ↔ GoC fns Q (.sq k17_4 :: s) k17_5 st := goC_seq
def k17_7 : ACode :=
  .ops [⟨.move .look (.p 5), (some 6), none⟩,
    ⟨.bin .lss 1 true (.p 6) (.c (.int .i64 64)), (some 7), none⟩] k17_6
@[simp] theorem xk17_7 : GoC fns Q s k17_7 st ↔ GoO fns Q s [⟨.move .look (.p 5), (some 6), none⟩,
    ⟨.bin .lss 1 true (.p 6) (.c (.int .i64 64)), (some 7), none⟩] k17_6 st := goC_ops
def lc17_0 : ACode :=
  k17_7
@[simp] theorem xlc17_0 : GoC fns Q s lc17_0 st ↔ GoC fns Q s k17_7 st := Iff.rfl
def k17_9 : ACode :=
  .loop lc17_0
@[simp] theorem xk17_9 : GoC fns Q s k17_9 st ↔ (Run (loopω fns lc17_0 st) fun r => GoE fns Q s r.1 r.2) := goC_loop
def k17_10 : ACode :=
  .block 0 k17_9
@[simp] theorem xk17_10 : GoC fns Q s k17_10 st ↔ GoC fns Q (.bl 0 :: s) k17_9 st := goC_block
def k17_11 : ACode :=
  .seq k17_10 k17_0
@[simp] theorem xk17_11 : GoC fns Q s k17_11 st ↔ GoC fns Q (.sq k17_0 :: s) k17_10 st := goC_seq
def k17_12 : ACode :=
  .ops [⟨.assign (.c (.int .i64 0)), (some 5), none⟩] k17_11
@[simp] theorem xk17_12 : GoC fns Q s k17_12 st ↔ GoO fns Q s [⟨.assign (.c (.int .i64 0)), (some 5), none⟩] k17_11 st := goC_ops
def k17_13 : ACode :=
  .ops [⟨.assign (.c (.slice .nil 0 1 [])), (some 4), none⟩] k17_12
@[simp] theorem xk17_13 : GoC fns Q s k17_13 st ↔ GoO fns Q s [⟨.assign (.c (.slice .nil 0 1 [])), (some 4), none⟩] k17_12 st := goC_ops
def af17 : AFunc := ⟨18, k17_13, [.tmp 4]⟩

theorem ok17 : pFunc Try.prog sg Try.f17 = some af17 := by kernel_rfl
/-- No. 20 -/
def k20_0 : ACode :=
  .ops [⟨.move .take (.t 0), (some 5), none⟩,
    ⟨.move .look (.p 1), (some 6), none⟩,
    ⟨.convInt .u8 (.p 6), (some 7), none⟩,
    ⟨.move .look (.p 1), (some 8), none⟩,
    ⟨.bin .shr 1 true (.p 8) (.c (.int .u64 8)), (some 9), none⟩,
    ⟨.convInt .u8 (.p 9), (some 10), none⟩,
    ⟨.move .look (.p 1), (some 11), none⟩,
    ⟨.bin .shr 1 true (.p 11) (.c (.int .u64 16)), (some 12), none⟩,
    ⟨.convInt .u8 (.p 12), (some 13), none⟩,
    ⟨.move .look (.p 1), (some 14), none⟩,
    ⟨.bin .shr 1 true (.p 14) (.c (.int .u64 24)), (some 15), none⟩,
    ⟨.convInt .u8 (.p 15), (some 16), none⟩,
    ⟨.buildSl 5 1 [.int .u8 0, .int .u8 0, .int .u8 0, .int .u8 0] [(0, 1, .p 7), (1, 1, .p 10), (2, 1, .p 13), (3, 1, .p 16)], (some 17), none⟩,
    ⟨.append 5 1 1 false (.t 5) (.p 17), (some 18), none⟩,
    ⟨.assign (.t 18), (some 4), none⟩] .ret
@[simp] theorem xk20_0 : GoC fns Q s k20_0 st ↔ GoO fns Q s [⟨.move .take (.t 0), (some 5), none⟩,
    ⟨.move .look (.p 1), (some 6), none⟩,
    ⟨.convInt .u8 (.p 6), (some 7), none⟩,
    ⟨.move .look (.p 1), (some 8), none⟩,
    ⟨.bin .shr 1 true (.p 8) (.c (.int .u64 8)), (some 9), none⟩,
    ⟨.convInt .u8 (.p 9), (some 10), none⟩,
    ⟨.move .look (.p 1), (some 11), none⟩,
    ⟨.bin .shr 1 true (.p 11) (.c (.int .u64 16)), (some 12), none⟩,
    ⟨.convInt .u8 (.p 12), (some 13), none⟩,
    ⟨.move .look (.p 1), (some 14), none⟩,
    ⟨.bin .shr 1 true (.p 14) (.c (.int .u64 24)), (some 15), none⟩,
    ⟨.convInt .u8 (.p 15), (some 16), none⟩,
    ⟨.buildSl 5 1 [.int .u8 0, .int .u8 0, .int .u8 0, .int .u8 0] [(0, 1, .p 7), (1, 1, .p 10), (2, 1, .p 13), (3, 1, .p 16)], (some 17), none⟩,
    ⟨.append 5 1 1 false (.t 5) (.p 17), (some 18), none⟩,
    ⟨.assign (.t 18), (some 4), none⟩] .ret st := goC_ops
def k20_1 : ACode :=
  .ops [⟨.assign (.c (.slice .nil 0 1 [])), (some 4), none⟩] k20_0
@[simp] theorem xk20_1 : GoC fns Q s k20_1 st ↔ GoO fns Q s [⟨.assign (.c (.slice .nil 0 1 [])), (some 4), none⟩] k20_0 st := goC_ops
def af20 : AFunc := ⟨19, k20_1, [.tmp 4]⟩

theorem ok20 : pFunc Try.prog sg Try.f20 = some af20 := by kernel_rfl
/-- No. 18 -/
def k18_0 : ACode :=
  .ops [⟨.move .take (.t 0), (some 13), none⟩,
    ⟨.buildSl 5 1 [.int .u8 0] [(0, 1, .c (.int .u8 0))], (some 14), none⟩,
    ⟨.append 5 1 1 false (.t 13) (.p 14), (some 15), none⟩,
    ⟨.assign (.t 15), (some 4), none⟩] .ret
@[simp] theorem xk18_0 : GoC fns Q s k18_0 st ↔ GoO fns Q s [⟨.move .take (.t 0), (some 13), none⟩,
    ⟨.buildSl 5 1 [.int .u8 0] [(0, 1, .c (.int .u8 0))], (some 14), none⟩,
    ⟨.append 5 1 1 false (.t 13) (.p 14), (some 15), none⟩,
    ⟨.assign (.t 15), (some 4), none⟩] .ret st := goC_ops
def k18_1 : ACode :=
  .ops [⟨.move .take (.t 0), (some 10), none⟩,
    ⟨.move .look (.p 1), (some 11), none⟩,
    ⟨.append 5 1 1 true (.t 10) (.p 11), (some 12), none⟩,
    ⟨.assign (.t 12), (some 0), none⟩] k18_0
@[simp] theorem xk18_1 : GoC fns Q s k18_1 st ↔ GoO fns Q s [⟨.move .take (.t 0), (some 10), none⟩,
    ⟨.move .look (.p 1), (some 11), none⟩,
    ⟨.append 5 1 1 true (.t 10) (.p 11), (some 12), none⟩,
    ⟨.assign (.t 12), (some 0), none⟩] k18_0 st := goC_ops
def k18_2 : ACode :=
  .ops [⟨.move .take (.t 0), (some 5), none⟩,
    ⟨.move .head (.p 1), (some 6), none⟩,
    ⟨.len true (.p 6), (some 7), none⟩,
    ⟨.bin .add 1 true (.p 7) (.c (.int .i64 1)), (some 8), none⟩,
    ⟨.call 20 [(.t 5, true), (.p 8, false)], (some 9), none⟩,
    ⟨.assign (.t 9), (some 0), none⟩] k18_1
@[simp] theorem xk18_2 : GoC fns Q s k18_2 st ↔ GoO fns Q s [⟨.move .take (.t 0), (some 5), none⟩,
    ⟨.move .head (.p 1), (some 6), none⟩,
    ⟨.len true (.p 6), (some 7), none⟩,
    ⟨.bin .add 1 true (.p 7) (.c (.int .i64 1)), (some 8), none⟩,
    ⟨.call 20 [(.t 5, true), (.p 8, false)], (some 9), none⟩,
    ⟨.assign (.t 9), (some 0), none⟩] k18_1 st := goC_ops
def k18_3 : ACode :=
  .ops [⟨.assign (.c (.slice .nil 0 1 [])), (some 4), none⟩] k18_2
@[simp] theorem xk18_3 : GoC fns Q s k18_3 st ↔ GoO fns Q s [⟨.assign (.c (.slice .nil 0 1 [])), (some 4), none⟩] k18_2 st := goC_ops
def af18 : AFunc := ⟨16, k18_3, [.tmp 4]⟩

theorem ok18 : pFunc Try.prog sg Try.f18 = some af18 := by kernel_rfl
/-- No. 34 -/
def k34_0 : ACode :=
  .ops [⟨.move .take (.t 5), (some 11), none⟩,
    ⟨.buildSl 5 1 [.int .u8 0] [(0, 1, .c (.int .u8 0))], (some 12), none⟩,
    ⟨.append 5 1 1 false (.t 11) (.p 12), (some 13), none⟩,
    ⟨.assign (.t 13), (some 4), none⟩] .ret
@[simp] theorem xk34_0 : GoC fns Q s k34_0 st ↔ GoO fns Q s [⟨.move .take (.t 5), (some 11), none⟩,
    ⟨.buildSl 5 1 [.int .u8 0] [(0, 1, .c (.int .u8 0))], (some 12), none⟩,
    ⟨.append 5 1 1 false (.t 11) (.p 12), (some 13), none⟩,
    ⟨.assign (.t 13), (some 4), none⟩] .ret st := goC_ops
def k34_1 : ACode :=
  .ops [⟨.move .look (.p 0), (some 6), none⟩,
    ⟨.convInt .u8 (.p 6), (some 7), none⟩,
    ⟨.buildSl 5 1 [.int .u8 0] [(0, 1, .p 7)], (some 8), none⟩,
    ⟨.move .look (.p 1), (some 9), none⟩,
    ⟨.append 5 1 1 true (.t 8) (.p 9), (some 10), none⟩,
    ⟨.assign (.t 10), (some 5), none⟩] k34_0
@[simp] theorem xk34_1 : GoC fns Q s k34_1 st ↔ GoO fns Q s [⟨.move .look (.p 0), (some 6), none⟩,
    ⟨.convInt .u8 (.p 6), (some 7), none⟩,
    ⟨.buildSl 5 1 [.int .u8 0] [(0, 1, .p 7)], (some 8), none⟩,
    ⟨.move .look (.p 1), (some 9), none⟩,
    ⟨.append 5 1 1 true (.t 8) (.p 9), (some 10), none⟩,
    ⟨.assign (.t 10), (some 5), none⟩] k34_0 st := goC_ops
def k34_2 : ACode :=
  .ops [⟨.assign (.c (.slice .nil 0 1 [])), (some 4), none⟩] k34_1
@[simp] theorem xk34_2 : GoC fns Q s k34_2 st ↔ GoO fns Q s [⟨.assign (.c (.slice .nil 0 1 [])), (some 4), none⟩] k34_1 st := goC_ops
def af34 : AFunc := ⟨14, k34_2, [.tmp 4]⟩

theorem ok34 : pFunc Try.prog sg Try.f34 = some af34 := by kernel_rfl
/-- No. 29 -/
def k29_0 : ACode :=
  .ops [⟨.fieldAddr 1 (.p 1), (some 3), none⟩,
    ⟨.fieldAddr 0 (.p 3), (some 4), none⟩,
    ⟨.load .look false 1 (.p 4), (some 5), none⟩,
    ⟨.fieldAddr 0 (.p 1), (some 6), none⟩,
    ⟨.load .look false 1 (.p 6), (some 7), none⟩,
    ⟨.fieldAddr 1 (.p 1), (some 9), none⟩,
    ⟨.load .look true 8 (.p 9), (some 10), none⟩,
    ⟨.call 34 [(.p 5, false), (.p 7, false)], (some 8), none⟩,
    ⟨.call 13 [(.p 10, false)], (some 11), none⟩,
    ⟨.append 5 1 1 false (.t 8) (.p 11), (some 12), none⟩,
    ⟨.assign (.t 12), (some 2), none⟩] .ret
@[simp] theorem xk29_0 : GoC fns Q s k29_0 st ↔ GoO fns Q s [⟨.fieldAddr 1 (.p 1), (some 3), none⟩,
    ⟨.fieldAddr 0 (.p 3), (some 4), none⟩,
    ⟨.load .look false 1 (.p 4), (some 5), none⟩,
    ⟨.fieldAddr 0 (.p 1), (some 6), none⟩,
    ⟨.load .look false 1 (.p 6), (some 7), none⟩,
    ⟨.fieldAddr 1 (.p 1), (some 9), none⟩,
    ⟨.load .look true 8 (.p 9), (some 10), none⟩,
    ⟨.call 34 [(.p 5, false), (.p 7, false)], (some 8), none⟩,
    ⟨.call 13 [(.p 10, false)], (some 11), none⟩,
    ⟨.append 5 1 1 false (.t 8) (.p 11), (some 12), none⟩,
    ⟨.assign (.t 12), (some 2), none⟩] .ret st := goC_ops
def k29_1 : ACode :=
  .ops [⟨.box 1 (.p 0), (some 1), none⟩,
    ⟨.assign (.c (.slice .nil 0 1 [])), (some 2), none⟩] k29_0
@[simp] theorem xk29_1 : GoC fns Q s k29_1 st ↔ GoO fns Q s [⟨.box 1 (.p 0), (some 1), none⟩,
    ⟨.assign (.c (.slice .nil 0 1 [])), (some 2), none⟩] k29_0 st := goC_ops
def af29 : AFunc := ⟨13, k29_1, [.tmp 2]⟩

theorem ok29 : pFunc Try.prog sg Try.f29 = some af29 := by kernel_rfl
/-- No. 19 -/
def k19_0 : ACode :=
  .ops [⟨.move .take (.t 5), (some 26), none⟩,
    ⟨.buildSl 5 1 [.int .u8 0] [(0, 1, .c (.int .u8 0))], (some 27), none⟩,
    ⟨.append 5 1 1 false (.t 26) (.p 27), (some 28), none⟩,
    ⟨.assign (.t 28), (some 2), none⟩] .ret
@[simp] theorem xk19_0 : GoC fns Q s k19_0 st ↔ GoO fns Q s [⟨.move .take (.t 5), (some 26), none⟩,
    ⟨.buildSl 5 1 [.int .u8 0] [(0, 1, .c (.int .u8 0))], (some 27), none⟩,
    ⟨.append 5 1 1 false (.t 26) (.p 27), (some 28), none⟩,
    ⟨.assign (.t 28), (some 2), none⟩] .ret st := goC_ops
def k19_1 : ACode :=
  .ops [⟨.move .take (.t 5), (some 23), none⟩,
    ⟨.move .look (.t 3), (some 24), none⟩,
    ⟨.append 5 1 1 false (.t 23) (.p 24), (some 25), none⟩,
    ⟨.assign (.t 25), (some 5), none⟩] k19_0
@[simp] theorem xk19_1 : GoC fns Q s k19_1 st ↔ GoO fns Q s [⟨.move .take (.t 5), (some 23), none⟩,
    ⟨.move .look (.t 3), (some 24), none⟩,
    ⟨.append 5 1 1 false (.t 23) (.p 24), (some 25), none⟩,
    ⟨.assign (.t 25), (some 5), none⟩] k19_0 st := goC_ops
def k19_2 : ACode :=
  .ops [⟨.move .head (.t 3), (some 19), none⟩,
    ⟨.len false (.p 19), (some 20), none⟩,
    ⟨.bin .add 1 true (.p 20) (.c (.int .i64 5)), (some 21), none⟩,
    ⟨.call 20 [(.c (.slice .nil 0 1 []), true), (.p 21, false)], (some 22), none⟩,
    ⟨.assign (.t 22), (some 5), none⟩] k19_1
@[simp] theorem xk19_2 : GoC fns Q s k19_2 st ↔ GoO fns Q s [⟨.move .head (.t 3), (some 19), none⟩,
    ⟨.len false (.p 19), (some 20), none⟩,
    ⟨.bin .add 1 true (.p 20) (.c (.int .i64 5)), (some 21), none⟩,
    ⟨.call 20 [(.c (.slice .nil 0 1 []), true), (.p 21, false)], (some 22), none⟩,
    ⟨.assign (.t 22), (some 5), none⟩] k19_1 st := goC_ops
def k19_3 : ACode :=
  .ops [⟨.move .look (.p 4), (some 10), none⟩,
    ⟨.bin .add 1 true (.p 10) (.c (.int .i64 1)), (some 11), none⟩,
    ⟨.assign (.p 11), (some 4), none⟩] .skip
@[simp] theorem xk19_3 : GoC fns Q s k19_3 st ↔ GoO fns Q s [⟨.move .look (.p 4), (some 10), none⟩,
    ⟨.bin .add 1 true (.p 10) (.c (.int .i64 1)), (some 11), none⟩,
    ⟨.assign (.p 11), (some 4), none⟩] .skip st := goC_ops
def k19_4 : ACode :=
  .ops [⟨.move .take (.t 3), (some 12), none⟩,
    ⟨.move .look (.t 0), (some 13), none⟩,
    ⟨.move .look (.p 4), (some 14), none⟩,
    ⟨.indexAddr 9 (.t 13) (.p 14), (some 15), none⟩,
    ⟨.load .look true 9 (.p 15), (some 16), none⟩,
    ⟨.call 29 [(.p 16, false)], (some 17), none⟩,
    ⟨.append 5 1 1 false (.t 12) (.p 17), (some 18), none⟩,
    ⟨.assign (.t 18), (some 3), none⟩] .skip
@[simp] theorem xk19_4 : GoC fns Q s k19_4 st ↔ GoO fns Q s [⟨.move .take (.t 3), (some 12), none⟩,
    ⟨.move .look (.t 0), (some 13), none⟩,
    ⟨.move .look (.p 4), (some 14), none⟩,
    ⟨.indexAddr 9 (.t 13) (.p 14), (some 15), none⟩,
    ⟨.load .look true 9 (.p 15), (some 16), none⟩,
    ⟨.call 29 [(.p 16, false)], (some 17), none⟩,
    ⟨.append 5 1 1 false (.t 12) (.p 17), (some 18), none⟩,
    ⟨.assign (.t 18), (some 3), none⟩] .skip st := goC_ops
def k19_5 : ACode :=
  .block 1 k19_4
@[simp] theorem xk19_5 : GoC fns Q s k19_5 st ↔ GoC fns Q (.bl 1 :: s) k19_4 st := goC_block
def k19_6 : ACode :=
  .seq k19_5 k19_3
@[simp] theorem xk19_6 : GoC fns Q s k19_6 st ↔ GoC fns Q (.sq k19_3 :: s) k19_5 st := goC_seq
def k19_7 : ACode :=
  .cond (.p 9) .skip (.exit 0)
@[simp] theorem xk19_7 : GoC fns Q s k19_7 st ↔ GB fns Q s (peek st (.p 9)) .skip (.exit 0) st := goC_cond
def k19_8 : ACode :=
  .seq k19_7 k19_6
@[simp] theorem xk19_8 : GoC fns Q s k19_8 st ↔ GoC fns Q (.sq k19_6 :: s) k19_7 st := goC_seq
def k19_9 : ACode :=
  .ops [⟨.move .look (.p 4), (some 6), none⟩,
    ⟨.move .head (.t 0), (some 7), none⟩,
    ⟨.len false (.p 7), (some 8), none⟩,
    ⟨.bin .lss 1 false (.p 6) (.p 8), (some 9), none⟩] k19_8
@[simp] theorem xk19_9 : GoC fns Q s k19_9 st ↔ GoO fns Q s [⟨.move .look (.p 4), (some 6), none⟩,
    ⟨.move .head (.t 0), (some 7), none⟩,
    ⟨.len false (.p 7), (some 8), none⟩,
    ⟨.bin .lss 1 false (.p 6) (.p 8), (some 9), none⟩] k19_8 st := goC_ops
def lc19_0 : ACode :=
  k19_9
@[simp] theorem xlc19_0 : GoC fns Q s lc19_0 st ↔ GoC fns Q s k19_9 st := Iff.rfl
def k19_11 : ACode :=
  .loop lc19_0
@[simp] theorem xk19_11 : GoC fns Q s k19_11 st ↔ (Run (loopω fns lc19_0 st) fun r => GoE fns Q s r.1 r.2) := goC_loop
def k19_12 : ACode :=
  .block 0 k19_11
@[simp] theorem xk19_12 : GoC fns Q s k19_12 st ↔ GoC fns Q (.bl 0 :: s) k19_11 st := goC_block
def k19_13 : ACode :=
  .seq k19_12 k19_2
@[simp] theorem xk19_13 : GoC fns Q s k19_13 st ↔ GoC fns Q (.sq k19_2 :: s) k19_12 st := goC_seq
def k19_14 : ACode :=
  .ops [⟨.assign (.c (.int .i64 0)), (some 4), none⟩] k19_13
@[simp] theorem xk19_14 : GoC fns Q s k19_14 st ↔ GoO fns Q s [⟨.assign (.c (.int .i64 0)), (some 4), none⟩] k19_13 st := goC_ops
def k19_15 : ACode :=
  .ops [⟨.assign (.c (.slice .nil 0 1 [])), (some 3), none⟩] k19_14
@[simp] theorem xk19_15 : GoC fns Q s k19_15 st ↔ GoO fns Q s [⟨.assign (.c (.slice .nil 0 1 [])), (some 3), none⟩] k19_14 st := goC_ops
def k19_16 : ACode :=
  .ops [⟨.assign (.c (.slice .nil 0 1 [])), (some 2), none⟩] k19_15
@[simp] theorem xk19_16 : GoC fns Q s k19_16 st ↔ GoO fns Q s [⟨.assign (.c (.slice .nil 0 1 [])), (some 2), none⟩] k19_15 st := goC_ops
def af19 : AFunc := ⟨29, k19_16, [.tmp 2]⟩

theorem ok19 : pFunc Try.prog sg Try.f19 = some af19 := by kernel_rfl
/-- No. 13 -/
def k13_0 : ACode :=
  .ops [⟨.move .take (.t 3), (some 147), none⟩,
    ⟨.assign (.t 147), (some 2), none⟩] .ret
@[simp] theorem xk13_0 : GoC fns Q s k13_0 st ↔ GoO fns Q s [⟨.move .take (.t 3), (some 147), none⟩,
    ⟨.assign (.t 147), (some 2), none⟩] .ret st := goC_ops
def k13_1 : ACode :=
  .ops [⟨.move .take (.t 3), (some 12), none⟩,
    ⟨.fieldAddr 4 (.p 1), (some 13), none⟩,
    ⟨.load .look false 1 (.p 13), (some 14), none⟩,
    ⟨.call 17 [(.t 12, true), (.p 14, false)], (some 15), none⟩,
    ⟨.assign (.t 15), (some 3), none⟩] .skip
@[simp] theorem xk13_1 : GoC fns Q s k13_1 st ↔ GoO fns Q s [⟨.move .take (.t 3), (some 12), none⟩,
    ⟨.fieldAddr 4 (.p 1), (some 13), none⟩,
    ⟨.load .look false 1 (.p 13), (some 14), none⟩,
    ⟨.call 17 [(.t 12, true), (.p 14, false)], (some 15), none⟩,
    ⟨.assign (.t 15), (some 3), none⟩] .skip st := goC_ops
def k13_2 : ACode :=
  .ops [⟨.move .take (.t 3), (some 20), none⟩,
    ⟨.fieldAddr 1 (.p 1), (some 21), none⟩,
    ⟨.load .look false 1 (.p 21), (some 22), none⟩,
    ⟨.call 18 [(.t 20, true), (.p 22, false)], (some 23), none⟩,
    ⟨.assign (.t 23), (some 3), none⟩] .skip
@[simp] theorem xk13_2 : GoC fns Q s k13_2 st ↔ GoO fns Q s [⟨.move .take (.t 3), (some 20), none⟩,
    ⟨.fieldAddr 1 (.p 1), (some 21), none⟩,
    ⟨.load .look false 1 (.p 21), (some 22), none⟩,
    ⟨.call 18 [(.t 20, true), (.p 22, false)], (some 23), none⟩,
    ⟨.assign (.t 23), (some 3), none⟩] .skip st := goC_ops
def k13_3 : ACode :=
  .ops [⟨.fieldAddr 7 (.p 1), (some 27), none⟩,
    ⟨.load .look false 1 (.p 27), (some 28), none⟩,
    ⟨.call 19 [(.t 28, false)], (some 29), none⟩,
    ⟨.assign (.t 29), (some 3), none⟩] .skip
@[simp] theorem xk13_3 : GoC fns Q s k13_3 st ↔ GoO fns Q s [⟨.fieldAddr 7 (.p 1), (some 27), none⟩,
    ⟨.load .look false 1 (.p 27), (some 28), none⟩,
    ⟨.call 19 [(.t 28, false)], (some 29), none⟩,
    ⟨.assign (.t 29), (some 3), none⟩] .skip st := goC_ops
def k13_4 : ACode :=
  .ops [⟨.move .take (.t 3), (some 57), none⟩,
    ⟨.fieldAddr 6 (.p 1), (some 58), none⟩,
    ⟨.load .look false 1 (.p 58), (some 59), none⟩,
    ⟨.append 5 1 1 false (.t 57) (.p 59), (some 60), none⟩,
    ⟨.assign (.t 60), (some 3), none⟩] .skip
@[simp] theorem xk13_4 : GoC fns Q s k13_4 st ↔ GoO fns Q s [⟨.move .take (.t 3), (some 57), none⟩,
    ⟨.fieldAddr 6 (.p 1), (some 58), none⟩,
    ⟨.load .look false 1 (.p 58), (some 59), none⟩,
    ⟨.append 5 1 1 false (.t 57) (.p 59), (some 60), none⟩,
    ⟨.assign (.t 60), (some 3), none⟩] .skip st := goC_ops
def k13_5 : ACode :=
  .ops [⟨.move .take (.t 3), (some 45), none⟩,
    ⟨.move .look (.p 4), (some 46), none⟩,
    ⟨.call 20 [(.t 45, true), (.p 46, false)], (some 47), none⟩,
    ⟨.assign (.t 47), (some 3), none⟩] .skip
@[simp] theorem xk13_5 : GoC fns Q s k13_5 st ↔ GoO fns Q s [⟨.move .take (.t 3), (some 45), none⟩,
    ⟨.move .look (.p 4), (some 46), none⟩,
    ⟨.call 20 [(.t 45, true), (.p 46, false)], (some 47), none⟩,
    ⟨.assign (.t 47), (some 3), none⟩] .skip st := goC_ops
def k13_6 : ACode :=
  .ops [⟨.move .take (.t 3), (some 42), none⟩,
    ⟨.buildSl 5 1 [.int .u8 0] [(0, 1, .c (.int .u8 2))], (some 43), none⟩,
    ⟨.append 5 1 1 false (.t 42) (.p 43), (some 44), none⟩,
    ⟨.assign (.t 44), (some 3), none⟩] k13_5
@[simp] theorem xk13_6 : GoC fns Q s k13_6 st ↔ GoO fns Q s [⟨.move .take (.t 3), (some 42), none⟩,
    ⟨.buildSl 5 1 [.int .u8 0] [(0, 1, .c (.int .u8 2))], (some 43), none⟩,
    ⟨.append 5 1 1 false (.t 42) (.p 43), (some 44), none⟩,
    ⟨.assign (.t 44), (some 3), none⟩] k13_5 st := goC_ops
def k13_7 : ACode :=
  .ops [⟨.move .take (.t 3), (some 38), none⟩,
    ⟨.move .look (.p 4), (some 39), none⟩,
    ⟨.bin .add 1 true (.p 39) (.c (.int .i64 4)), (some 40), none⟩,
    ⟨.call 20 [(.t 38, true), (.p 40, false)], (some 41), none⟩,
    ⟨.assign (.t 41), (some 3), none⟩] k13_6
@[simp] theorem xk13_7 : GoC fns Q s k13_7 st ↔ GoO fns Q s [⟨.move .take (.t 3), (some 38), none⟩,
    ⟨.move .look (.p 4), (some 39), none⟩,
    ⟨.bin .add 1 true (.p 39) (.c (.int .i64 4)), (some 40), none⟩,
    ⟨.call 20 [(.t 38, true), (.p 40, false)], (some 41), none⟩,
    ⟨.assign (.t 41), (some 3), none⟩] k13_6 st := goC_ops
def k13_8 : ACode :=
  .ops [⟨.move .take (.t 3), (some 51), none⟩,
    ⟨.fieldAddr 3 (.p 1), (some 52), none⟩,
    ⟨.load .look false 1 (.p 52), (some 53), none⟩,
    ⟨.convInt .u8 (.p 53), (some 54), none⟩,
    ⟨.buildSl 5 1 [.int .u8 0] [(0, 1, .p 54)], (some 55), none⟩,
    ⟨.append 5 1 1 false (.t 51) (.p 55), (some 56), none⟩,
    ⟨.assign (.t 56), (some 3), none⟩] .skip
@[simp] theorem xk13_8 : GoC fns Q s k13_8 st ↔ GoO fns Q s [⟨.move .take (.t 3), (some 51), none⟩,
    ⟨.fieldAddr 3 (.p 1), (some 52), none⟩,
    ⟨.load .look false 1 (.p 52), (some 53), none⟩,
    ⟨.convInt .u8 (.p 53), (some 54), none⟩,
    ⟨.buildSl 5 1 [.int .u8 0] [(0, 1, .p 54)], (some 55), none⟩,
    ⟨.append 5 1 1 false (.t 51) (.p 55), (some 56), none⟩,
    ⟨.assign (.t 56), (some 3), none⟩] .skip st := goC_ops
def k13_9 : ACode :=
  .ops [⟨.move .take (.t 3), (some 48), none⟩,
    ⟨.move .look (.p 4), (some 49), none⟩,
    ⟨.call 20 [(.t 48, true), (.p 49, false)], (some 50), none⟩,
    ⟨.assign (.t 50), (some 3), none⟩] k13_8
@[simp] theorem xk13_9 : GoC fns Q s k13_9 st ↔ GoO fns Q s [⟨.move .take (.t 3), (some 48), none⟩,
    ⟨.move .look (.p 4), (some 49), none⟩,
    ⟨.call 20 [(.t 48, true), (.p 49, false)], (some 50), none⟩,
    ⟨.assign (.t 50), (some 3), none⟩] k13_8 st := goC_ops
def k13_10 : ACode :=
  .cond (.p 37) k13_7 k13_9
@[simp] theorem xk13_10 : GoC fns Q s k13_10 st ↔ GB fns Q s (peek st (.p 37)) k13_7 k13_9 st := goC_cond
def k13_11 : ACode :=
  .seq k13_10 k13_4
@[simp] theorem xk13_11 : GoC fns Q s k13_11 st ↔ GoC fns Q (.sq k13_4 :: s) k13_10 st := goC_seq
def k13_12 : ACode :=
  .ops [⟨.fieldAddr 3 (.p 1), (some 35), none⟩,
    ⟨.load .head false 1 (.p 35), (some 36), none⟩,
    ⟨.bin .eql 1 true (.p 36) (.c (.int .i64 2)), (some 37), none⟩] k13_11
@[simp] theorem xk13_12 : GoC fns Q s k13_12 st ↔ GoO fns Q s [⟨.fieldAddr 3 (.p 1), (some 35), none⟩,
    ⟨.load .head false 1 (.p 35), (some 36), none⟩,
    ⟨.bin .eql 1 true (.p 36) (.c (.int .i64 2)), (some 37), none⟩] k13_11 st := goC_ops
def k13_13 : ACode :=
  .ops [⟨.fieldAddr 6 (.p 1), (some 32), none⟩,
    ⟨.load .head false 1 (.p 32), (some 33), none⟩,
    ⟨.len false (.p 33), (some 34), none⟩,
    ⟨.assign (.p 34), (some 4), none⟩] k13_12
@[simp] theorem xk13_13 : GoC fns Q s k13_13 st ↔ GoO fns Q s [⟨.fieldAddr 6 (.p 1), (some 32), none⟩,
    ⟨.load .head false 1 (.p 32), (some 33), none⟩,
    ⟨.len false (.p 33), (some 34), none⟩,
    ⟨.assign (.p 34), (some 4), none⟩] k13_12 st := goC_ops
def k13_14 : ACode :=
  .ops [⟨.move .take (.t 3), (some 63), none⟩,
    ⟨.fieldAddr 6 (.p 1), (some 64), none⟩,
    ⟨.load .look false 1 (.p 64), (some 65), none⟩,
    ⟨.append 5 1 1 false (.t 63) (.p 65), (some 66), none⟩,
    ⟨.assign (.t 66), (some 3), none⟩] .skip
@[simp] theorem xk13_14 : GoC fns Q s k13_14 st ↔ GoO fns Q s [⟨.move .take (.t 3), (some 63), none⟩,
    ⟨.fieldAddr 6 (.p 1), (some 64), none⟩,
    ⟨.load .look false 1 (.p 64), (some 65), none⟩,
    ⟨.append 5 1 1 false (.t 63) (.p 65), (some 66), none⟩,
    ⟨.assign (.t 66), (some 3), none⟩] .skip st := goC_ops
def k13_15 : ACode :=
  .ops [⟨.move .take (.t 3), (some 69), none⟩,
    ⟨.fieldAddr 3 (.p 1), (some 70), none⟩,
    ⟨.load .look false 1 (.p 70), (some 71), none⟩,
    ⟨.convInt .u8 (.p 71), (some 72), none⟩,
    ⟨.buildSl 5 1 [.int .u8 0] [(0, 1, .p 72)], (some 73), none⟩,
    ⟨.append 5 1 1 false (.t 69) (.p 73), (some 74), none⟩,
    ⟨.assign (.t 74), (some 3), none⟩] .skip
@[simp] theorem xk13_15 : GoC fns Q s k13_15 st ↔ GoO fns Q s [⟨.move .take (.t 3), (some 69), none⟩,
    ⟨.fieldAddr 3 (.p 1), (some 70), none⟩,
    ⟨.load .look false 1 (.p 70), (some 71), none⟩,
    ⟨.convInt .u8 (.p 71), (some 72), none⟩,
    ⟨.buildSl 5 1 [.int .u8 0] [(0, 1, .p 72)], (some 73), none⟩,
    ⟨.append 5 1 1 false (.t 69) (.p 73), (some 74), none⟩,
    ⟨.assign (.t 74), (some 3), none⟩] .skip st := goC_ops
def k13_16 : ACode :=
  .ops [⟨.move .take (.t 3), (some 78), none⟩,
    ⟨.fieldAddr 3 (.p 1), (some 79), none⟩,
    ⟨.load .look false 1 (.p 79), (some 80), none⟩,
    ⟨.convInt .u64 (.p 80), (some 81), none⟩,
    ⟨.call 17 [(.t 78, true), (.p 81, false)], (some 82), none⟩,
    ⟨.assign (.t 82), (some 3), none⟩] .skip
@[simp] theorem xk13_16 : GoC fns Q s k13_16 st ↔ GoO fns Q s [⟨.move .take (.t 3), (some 78), none⟩,
    ⟨.fieldAddr 3 (.p 1), (some 79), none⟩,
    ⟨.load .look false 1 (.p 79), (some 80), none⟩,
    ⟨.convInt .u64 (.p 80), (some 81), none⟩,
    ⟨.call 17 [(.t 78, true), (.p 81, false)], (some 82), none⟩,
    ⟨.assign (.t 82), (some 3), none⟩] .skip st := goC_ops
def k13_17 : ACode :=
  .ops [⟨.move .take (.t 3), (some 85), none⟩,
    ⟨.fieldAddr 3 (.p 1), (some 86), none⟩,
    ⟨.load .look false 1 (.p 86), (some 87), none⟩,
    ⟨.call 20 [(.t 85, true), (.p 87, false)], (some 88), none⟩,
    ⟨.assign (.t 88), (some 3), none⟩] .skip
@[simp] theorem xk13_17 : GoC fns Q s k13_17 st ↔ GoO fns Q s [⟨.move .take (.t 3), (some 85), none⟩,
    ⟨.fieldAddr 3 (.p 1), (some 86), none⟩,
    ⟨.load .look false 1 (.p 86), (some 87), none⟩,
    ⟨.call 20 [(.t 85, true), (.p 87, false)], (some 88), none⟩,
    ⟨.assign (.t 88), (some 3), none⟩] .skip st := goC_ops
def k13_18 : ACode :=
  .ops [⟨.move .take (.t 3), (some 102), none⟩,
    ⟨.buildSl 5 1 [.int .u8 0] [(0, 1, .c (.int .u8 0))], (some 103), none⟩,
    ⟨.append 5 1 1 false (.t 102) (.p 103), (some 104), none⟩,
    ⟨.assign (.t 104), (some 3), none⟩] .skip
@[simp] theorem xk13_18 : GoC fns Q s k13_18 st ↔ GoO fns Q s [⟨.move .take (.t 3), (some 102), none⟩,
    ⟨.buildSl 5 1 [.int .u8 0] [(0, 1, .c (.int .u8 0))], (some 103), none⟩,
    ⟨.append 5 1 1 false (.t 102) (.p 103), (some 104), none⟩,
    ⟨.assign (.t 104), (some 3), none⟩] .skip st := goC_ops
def k13_19 : ACode :=
  .ops [⟨.move .take (.t 3), (some 98), none⟩,
    ⟨.fieldAddr 2 (.p 1), (some 99), none⟩,
    ⟨.load .look false 1 (.p 99), (some 100), none⟩,
    ⟨.append 5 1 1 true (.t 98) (.p 100), (some 101), none⟩,
    ⟨.assign (.t 101), (some 3), none⟩] k13_18
@[simp] theorem xk13_19 : GoC fns Q s k13_19 st ↔ GoO fns Q s [⟨.move .take (.t 3), (some 98), none⟩,
    ⟨.fieldAddr 2 (.p 1), (some 99), none⟩,
    ⟨.load .look false 1 (.p 99), (some 100), none⟩,
    ⟨.append 5 1 1 true (.t 98) (.p 100), (some 101), none⟩,
    ⟨.assign (.t 101), (some 3), none⟩] k13_18 st := goC_ops
def k13_20 : ACode :=
  .ops [⟨.move .take (.t 3), (some 95), none⟩,
    ⟨.buildSl 5 1 [.int .u8 0] [(0, 1, .c (.int .u8 0))], (some 96), none⟩,
    ⟨.append 5 1 1 false (.t 95) (.p 96), (some 97), none⟩,
    ⟨.assign (.t 97), (some 3), none⟩] k13_19
@[simp] theorem xk13_20 : GoC fns Q s k13_20 st ↔ GoO fns Q s [⟨.move .take (.t 3), (some 95), none⟩,
    ⟨.buildSl 5 1 [.int .u8 0] [(0, 1, .c (.int .u8 0))], (some 96), none⟩,
    ⟨.append 5 1 1 false (.t 95) (.p 96), (some 97), none⟩,
    ⟨.assign (.t 97), (some 3), none⟩] k13_19 st := goC_ops
def k13_21 : ACode :=
  .ops [⟨.move .take (.t 3), (some 91), none⟩,
    ⟨.fieldAddr 1 (.p 1), (some 92), none⟩,
    ⟨.load .look false 1 (.p 92), (some 93), none⟩,
    ⟨.append 5 1 1 true (.t 91) (.p 93), (some 94), none⟩,
    ⟨.assign (.t 94), (some 3), none⟩] k13_20
@[simp] theorem xk13_21 : GoC fns Q s k13_21 st ↔ GoO fns Q s [⟨.move .take (.t 3), (some 91), none⟩,
    ⟨.fieldAddr 1 (.p 1), (some 92), none⟩,
    ⟨.load .look false 1 (.p 92), (some 93), none⟩,
    ⟨.append 5 1 1 true (.t 91) (.p 93), (some 94), none⟩,
    ⟨.assign (.t 94), (some 3), none⟩] k13_20 st := goC_ops
def k13_22 : ACode :=
  .ops [⟨.move .take (.t 3), (some 111), none⟩,
    ⟨.fieldAddr 6 (.p 1), (some 112), none⟩,
    ⟨.load .look false 1 (.p 112), (some 113), none⟩,
    ⟨.append 5 1 1 false (.t 111) (.p 113), (some 114), none⟩,
    ⟨.assign (.t 114), (some 3), none⟩] .skip
@[simp] theorem xk13_22 : GoC fns Q s k13_22 st ↔ GoO fns Q s [⟨.move .take (.t 3), (some 111), none⟩,
    ⟨.fieldAddr 6 (.p 1), (some 112), none⟩,
    ⟨.load .look false 1 (.p 112), (some 113), none⟩,
    ⟨.append 5 1 1 false (.t 111) (.p 113), (some 114), none⟩,
    ⟨.assign (.t 114), (some 3), none⟩] .skip st := goC_ops
def k13_23 : ACode :=
  .ops [⟨.move .take (.t 3), (some 107), none⟩,
    ⟨.fieldAddr 1 (.p 1), (some 108), none⟩,
    ⟨.load .look false 1 (.p 108), (some 109), none⟩,
    ⟨.call 18 [(.t 107, true), (.p 109, false)], (some 110), none⟩,
    ⟨.assign (.t 110), (some 3), none⟩] k13_22
@[simp] theorem xk13_23 : GoC fns Q s k13_23 st ↔ GoO fns Q s [⟨.move .take (.t 3), (some 107), none⟩,
    ⟨.fieldAddr 1 (.p 1), (some 108), none⟩,
    ⟨.load .look false 1 (.p 108), (some 109), none⟩,
    ⟨.call 18 [(.t 107, true), (.p 109, false)], (some 110), none⟩,
    ⟨.assign (.t 110), (some 3), none⟩] k13_22 st := goC_ops
def k13_24 : ACode :=
  .ops [⟨.move .take (.t 3), (some 134), none⟩,
    ⟨.move .look (.t 6), (some 135), none⟩,
    ⟨.append 5 1 1 false (.t 134) (.p 135), (some 136), none⟩,
    ⟨.assign (.t 136), (some 3), none⟩] .skip
@[simp] theorem xk13_24 : GoC fns Q s k13_24 st ↔ GoO fns Q s [⟨.move .take (.t 3), (some 134), none⟩,
    ⟨.move .look (.t 6), (some 135), none⟩,
    ⟨.append 5 1 1 false (.t 134) (.p 135), (some 136), none⟩,
    ⟨.assign (.t 136), (some 3), none⟩] .skip st := goC_ops
def k13_25 : ACode :=
  .ops [⟨.move .take (.t 3), (some 131), none⟩,
    ⟨.move .look (.t 5), (some 132), none⟩,
    ⟨.append 5 1 1 false (.t 131) (.p 132), (some 133), none⟩,
    ⟨.assign (.t 133), (some 3), none⟩] k13_24
@[simp] theorem xk13_25 : GoC fns Q s k13_25 st ↔ GoO fns Q s [⟨.move .take (.t 3), (some 131), none⟩,
    ⟨.move .look (.t 5), (some 132), none⟩,
    ⟨.append 5 1 1 false (.t 131) (.p 132), (some 133), none⟩,
    ⟨.assign (.t 133), (some 3), none⟩] k13_24 st := goC_ops
def k13_26 : ACode :=
  .ops [⟨.move .take (.t 3), (some 123), none⟩,
    ⟨.move .head (.t 5), (some 124), none⟩,
    ⟨.len false (.p 124), (some 125), none⟩,
    ⟨.bin .add 1 true (.c (.int .i64 4)) (.p 125), (some 126), none⟩,
    ⟨.move .head (.t 6), (some 127), none⟩,
    ⟨.len false (.p 127), (some 128), none⟩,
    ⟨.bin .add 1 false (.p 126) (.p 128), (some 129), none⟩,
    ⟨.call 20 [(.t 123, true), (.p 129, false)], (some 130), none⟩,
    ⟨.assign (.t 130), (some 3), none⟩] k13_25
@[simp] theorem xk13_26 : GoC fns Q s k13_26 st ↔ GoO fns Q s [⟨.move .take (.t 3), (some 123), none⟩,
    ⟨.move .head (.t 5), (some 124), none⟩,
    ⟨.len false (.p 124), (some 125), none⟩,
    ⟨.bin .add 1 true (.c (.int .i64 4)) (.p 125), (some 126), none⟩,
    ⟨.move .head (.t 6), (some 127), none⟩,
    ⟨.len false (.p 127), (some 128), none⟩,
    ⟨.bin .add 1 false (.p 126) (.p 128), (some 129), none⟩,
    ⟨.call 20 [(.t 123, true), (.p 129, false)], (some 130), none⟩,
    ⟨.assign (.t 130), (some 3), none⟩] k13_25 st := goC_ops
def k13_27 : ACode :=
  .ops [⟨.fieldAddr 7 (.p 1), (some 120), none⟩,
    ⟨.load .look false 1 (.p 120), (some 121), none⟩,
    ⟨.call 19 [(.t 121, false)], (some 122), none⟩,
    ⟨.assign (.t 122), (some 6), none⟩] k13_26
@[simp] theorem xk13_27 : GoC fns Q s k13_27 st ↔ GoO fns Q s [⟨.fieldAddr 7 (.p 1), (some 120), none⟩,
    ⟨.load .look false 1 (.p 120), (some 121), none⟩,
    ⟨.call 19 [(.t 121, false)], (some 122), none⟩,
    ⟨.assign (.t 122), (some 6), none⟩] k13_26 st := goC_ops
def k13_28 : ACode :=
  .ops [⟨.fieldAddr 1 (.p 1), (some 117), none⟩,
    ⟨.load .look false 1 (.p 117), (some 118), none⟩,
    ⟨.call 18 [(.c (.slice .nil 0 1 []), true), (.p 118, false)], (some 119), none⟩,
    ⟨.assign (.t 119), (some 5), none⟩] k13_27
@[simp] theorem xk13_28 : GoC fns Q s k13_28 st ↔ GoO fns Q s [⟨.fieldAddr 1 (.p 1), (some 117), none⟩,
    ⟨.load .look false 1 (.p 117), (some 118), none⟩,
    ⟨.call 18 [(.c (.slice .nil 0 1 []), true), (.p 118, false)], (some 119), none⟩,
    ⟨.assign (.t 119), (some 5), none⟩] k13_27 st := goC_ops
def k13_29 : ACode :=
  .ops [⟨.move .take (.t 3), (some 143), none⟩,
    ⟨.fieldAddr 5 (.p 1), (some 144), none⟩,
    ⟨.load .look false 1 (.p 144), (some 145), none⟩,
    ⟨.call 17 [(.t 143, true), (.p 145, false)], (some 146), none⟩,
    ⟨.assign (.t 146), (some 3), none⟩] .skip
@[simp] theorem xk13_29 : GoC fns Q s k13_29 st ↔ GoO fns Q s [⟨.move .take (.t 3), (some 143), none⟩,
    ⟨.fieldAddr 5 (.p 1), (some 144), none⟩,
    ⟨.load .look false 1 (.p 144), (some 145), none⟩,
    ⟨.call 17 [(.t 143, true), (.p 145, false)], (some 146), none⟩,
    ⟨.assign (.t 146), (some 3), none⟩] .skip st := goC_ops
def k13_30 : ACode :=
  .ops [⟨.move .take (.t 3), (some 139), none⟩,
    ⟨.fieldAddr 4 (.p 1), (some 140), none⟩,
    ⟨.load .look false 1 (.p 140), (some 141), none⟩,
    ⟨.call 17 [(.t 139, true), (.p 141, false)], (some 142), none⟩,
    ⟨.assign (.t 142), (some 3), none⟩] k13_29
@[simp] theorem xk13_30 : GoC fns Q s k13_30 st ↔ GoO fns Q s [⟨.move .take (.t 3), (some 139), none⟩,
    ⟨.fieldAddr 4 (.p 1), (some 140), none⟩,
    ⟨.load .look false 1 (.p 140), (some 141), none⟩,
    ⟨.call 17 [(.t 139, true), (.p 141, false)], (some 142), none⟩,
    ⟨.assign (.t 142), (some 3), none⟩] k13_29 st := goC_ops
def k13_31 : ACode :=
  .cond (.p 137) k13_30 .skip
@[simp] theorem xk13_31 : GoC fns Q s k13_31 st ↔ GB fns Q s (peek st (.p 137)) k13_30 .skip st := goC_cond
def k13_32 : ACode :=
  .ops [⟨.bin .eql 1 true (.p 8) (.c (.int .i64 19)), (some 138), none⟩,
    ⟨.assign (.p 138), (some 137), none⟩] k13_31
@[simp] theorem xk13_32 : GoC fns Q s k13_32 st ↔ GoO fns Q s [⟨.bin .eql 1 true (.p 8) (.c (.int .i64 19)), (some 138), none⟩,
    ⟨.assign (.p 138), (some 137), none⟩] k13_31 st := goC_ops
def k13_33 : ACode :=
  .cond (.p 115) k13_28 k13_32
@[simp] theorem xk13_33 : GoC fns Q s k13_33 st ↔ GB fns Q s (peek st (.p 115)) k13_28 k13_32 st := goC_cond
def k13_34 : ACode :=
  .ops [⟨.bin .eql 1 true (.p 8) (.c (.int .i64 15)), (some 116), none⟩,
    ⟨.assign (.p 116), (some 115), none⟩] k13_33
@[simp] theorem xk13_34 : GoC fns Q s k13_34 st ↔ GoO fns Q s [⟨.bin .eql 1 true (.p 8) (.c (.int .i64 15)), (some 116), none⟩,
    ⟨.assign (.p 116), (some 115), none⟩] k13_33 st := goC_ops
def k13_35 : ACode :=
  .cond (.p 105) k13_23 k13_34
@[simp] theorem xk13_35 : GoC fns Q s k13_35 st ↔ GB fns Q s (peek st (.p 105)) k13_23 k13_34 st := goC_cond
def k13_36 : ACode :=
  .ops [⟨.bin .eql 1 true (.p 8) (.c (.int .i64 12)), (some 106), none⟩,
    ⟨.assign (.p 106), (some 105), none⟩] k13_35
@[simp] theorem xk13_36 : GoC fns Q s k13_36 st ↔ GoO fns Q s [⟨.bin .eql 1 true (.p 8) (.c (.int .i64 12)), (some 106), none⟩,
    ⟨.assign (.p 106), (some 105), none⟩] k13_35 st := goC_ops
def k13_37 : ACode :=
  .cond (.p 89) k13_21 k13_36
@[simp] theorem xk13_37 : GoC fns Q s k13_37 st ↔ GB fns Q s (peek st (.p 89)) k13_21 k13_36 st := goC_cond
def k13_38 : ACode :=
  .ops [⟨.bin .eql 1 true (.p 8) (.c (.int .i64 11)), (some 90), none⟩,
    ⟨.assign (.p 90), (some 89), none⟩] k13_37
@[simp] theorem xk13_38 : GoC fns Q s k13_38 st ↔ GoO fns Q s [⟨.bin .eql 1 true (.p 8) (.c (.int .i64 11)), (some 90), none⟩,
    ⟨.assign (.p 90), (some 89), none⟩] k13_37 st := goC_ops
def k13_39 : ACode :=
  .cond (.p 83) k13_17 k13_38
@[simp] theorem xk13_39 : GoC fns Q s k13_39 st ↔ GB fns Q s (peek st (.p 83)) k13_17 k13_38 st := goC_cond
def k13_40 : ACode :=
  .ops [⟨.bin .eql 1 true (.p 8) (.c (.int .i64 16)), (some 84), none⟩,
    ⟨.assign (.p 84), (some 83), none⟩] k13_39
@[simp] theorem xk13_40 : GoC fns Q s k13_40 st ↔ GoO fns Q s [⟨.bin .eql 1 true (.p 8) (.c (.int .i64 16)), (some 84), none⟩,
    ⟨.assign (.p 84), (some 83), none⟩] k13_39 st := goC_ops
def k13_41 : ACode :=
  .cond (.p 75) k13_16 k13_40
@[simp] theorem xk13_41 : GoC fns Q s k13_41 st ↔ GB fns Q s (peek st (.p 75)) k13_16 k13_40 st := goC_cond
def k13_42 : ACode :=
  .ops [⟨.bin .eql 1 true (.p 8) (.c (.int .i64 18)), (some 77), none⟩,
    ⟨.assign (.p 77), (some 75), none⟩] .skip
@[simp] theorem xk13_42 : GoC fns Q s k13_42 st ↔ GoO fns Q s [⟨.bin .eql 1 true (.p 8) (.c (.int .i64 18)), (some 77), none⟩,
    ⟨.assign (.p 77), (some 75), none⟩] .skip st := goC_ops
def k13_43 : ACode :=
  .cond (.p 75) .skip k13_42
@[simp] theorem xk13_43 : GoC fns Q s k13_43 st ↔ GB fns Q s (peek st (.p 75)) .skip k13_42 st := goC_cond
def k13_44 : ACode :=
  .seq k13_43 k13_41
@[simp] theorem xk13_44 : GoC fns Q s k13_44 st ↔ GoC fns Q (.sq k13_41 :: s) k13_43 st := goC_seq
def k13_45 : ACode :=
  .ops [⟨.bin .eql 1 true (.p 8) (.c (.int .i64 9)), (some 76), none⟩,
    ⟨.assign (.p 76), (some 75), none⟩] k13_44
@[simp] theorem xk13_45 : GoC fns Q s k13_45 st ↔ GoO fns Q s [⟨.bin .eql 1 true (.p 8) (.c (.int .i64 9)), (some 76), none⟩,
    ⟨.assign (.p 76), (some 75), none⟩] k13_44 st := goC_ops
def k13_46 : ACode :=
  .cond (.p 67) k13_15 k13_45
@[simp] theorem xk13_46 : GoC fns Q s k13_46 st ↔ GB fns Q s (peek st (.p 67)) k13_15 k13_45 st := goC_cond
def k13_47 : ACode :=
  .ops [⟨.bin .eql 1 true (.p 8) (.c (.int .i64 8)), (some 68), none⟩,
    ⟨.assign (.p 68), (some 67), none⟩] k13_46
@[simp] theorem xk13_47 : GoC fns Q s k13_47 st ↔ GoO fns Q s [⟨.bin .eql 1 true (.p 8) (.c (.int .i64 8)), (some 68), none⟩,
    ⟨.assign (.p 68), (some 67), none⟩] k13_46 st := goC_ops
def k13_48 : ACode :=
  .cond (.p 61) k13_14 k13_47
@[simp] theorem xk13_48 : GoC fns Q s k13_48 st ↔ GB fns Q s (peek st (.p 61)) k13_14 k13_47 st := goC_cond
def k13_49 : ACode :=
  .ops [⟨.bin .eql 1 true (.p 8) (.c (.int .i64 7)), (some 62), none⟩,
    ⟨.assign (.p 62), (some 61), none⟩] k13_48
@[simp] theorem xk13_49 : GoC fns Q s k13_49 st ↔ GoO fns Q s [⟨.bin .eql 1 true (.p 8) (.c (.int .i64 7)), (some 62), none⟩,
    ⟨.assign (.p 62), (some 61), none⟩] k13_48 st := goC_ops
def k13_50 : ACode :=
  .cond (.p 30) k13_13 k13_49
@[simp] theorem xk13_50 : GoC fns Q s k13_50 st ↔ GB fns Q s (peek st (.p 30)) k13_13 k13_49 st := goC_cond
def k13_51 : ACode :=
  .ops [⟨.bin .eql 1 true (.p 8) (.c (.int .i64 5)), (some 31), none⟩,
    ⟨.assign (.p 31), (some 30), none⟩] k13_50
@[simp] theorem xk13_51 : GoC fns Q s k13_51 st ↔ GoO fns Q s [⟨.bin .eql 1 true (.p 8) (.c (.int .i64 5)), (some 31), none⟩,
    ⟨.assign (.p 31), (some 30), none⟩] k13_50 st := goC_ops
def k13_52 : ACode :=
  .cond (.p 24) k13_3 k13_51
@[simp] theorem xk13_52 : GoC fns Q s k13_52 st ↔ GB fns Q s (peek st (.p 24)) k13_3 k13_51 st := goC_cond
def k13_53 : ACode :=
  .ops [⟨.bin .eql 1 true (.p 8) (.c (.int .i64 4)), (some 26), none⟩,
    ⟨.assign (.p 26), (some 24), none⟩] .skip
@[simp] theorem xk13_53 : GoC fns Q s k13_53 st ↔ GoO fns Q s [⟨.bin .eql 1 true (.p 8) (.c (.int .i64 4)), (some 26), none⟩,
    ⟨.assign (.p 26), (some 24), none⟩] .skip st := goC_ops
def k13_54 : ACode :=
  .cond (.p 24) .skip k13_53
@[simp] theorem xk13_54 : GoC fns Q s k13_54 st ↔ GB fns Q s (peek st (.p 24)) .skip k13_53 st := goC_cond
def k13_55 : ACode :=
  .seq k13_54 k13_52
@[simp] theorem xk13_55 : GoC fns Q s k13_55 st ↔ GoC fns Q (.sq k13_52 :: s) k13_54 st := goC_seq
def k13_56 : ACode :=
  .ops [⟨.bin .eql 1 true (.p 8) (.c (.int .i64 3)), (some 25), none⟩,
    ⟨.assign (.p 25), (some 24), none⟩] k13_55
@[simp] theorem xk13_56 : GoC fns Q s k13_56 st ↔ GoO fns Q s [⟨.bin .eql 1 true (.p 8) (.c (.int .i64 3)), (some 25), none⟩,
    ⟨.assign (.p 25), (some 24), none⟩] k13_55 st := goC_ops
def k13_57 : ACode :=
  .cond (.p 16) k13_2 k13_56
@[simp] theorem xk13_57 : GoC fns Q s k13_57 st ↔ GB fns Q s (peek st (.p 16)) k13_2 k13_56 st := goC_cond
def k13_58 : ACode :=
  .ops [⟨.bin .eql 1 true (.p 8) (.c (.int .i64 14)), (some 19), none⟩,
    ⟨.assign (.p 19), (some 16), none⟩] .skip
@[simp] theorem xk13_58 : GoC fns Q s k13_58 st ↔ GoO fns Q s [⟨.bin .eql 1 true (.p 8) (.c (.int .i64 14)), (some 19), none⟩,
    ⟨.assign (.p 19), (some 16), none⟩] .skip st := goC_ops
def k13_59 : ACode :=
  .cond (.p 16) .skip k13_58
@[simp] theorem xk13_59 : GoC fns Q s k13_59 st ↔ GB fns Q s (peek st (.p 16)) .skip k13_58 st := goC_cond
def k13_60 : ACode :=
  .ops [⟨.bin .eql 1 true (.p 8) (.c (.int .i64 13)), (some 18), none⟩,
    ⟨.assign (.p 18), (some 16), none⟩] k13_59
@[simp] theorem xk13_60 : GoC fns Q s k13_60 st ↔ GoO fns Q s [⟨.bin .eql 1 true (.p 8) (.c (.int .i64 13)), (some 18), none⟩,
    ⟨.assign (.p 18), (some 16), none⟩] k13_59 st := goC_ops
def k13_61 : ACode :=
  .cond (.p 16) .skip k13_60
@[simp] theorem xk13_61 : GoC fns Q s k13_61 st ↔ GB fns Q s (peek st (.p 16)) .skip k13_60 st := goC_cond
def k13_62 : ACode :=
  .seq k13_61 k13_57
@[simp] theorem xk13_62 : GoC fns Q s k13_62 st ↔ GoC fns Q (.sq k13_57 :: s) k13_61 st := goC_seq
def k13_63 : ACode :=
  .ops [⟨.bin .eql 1 true (.p 8) (.c (.int .i64 2)), (some 17), none⟩,
    ⟨.assign (.p 17), (some 16), none⟩] k13_62
@[simp] theorem xk13_63 : GoC fns Q s k13_63 st ↔ GoO fns Q s [⟨.bin .eql 1 true (.p 8) (.c (.int .i64 2)), (some 17), none⟩,
    ⟨.assign (.p 17), (some 16), none⟩] k13_62 st := goC_ops
def k13_64 : ACode :=
  .cond (.p 9) k13_1 k13_63
@[simp] theorem xk13_64 : GoC fns Q s k13_64 st ↔ GB fns Q s (peek st (.p 9)) k13_1 k13_63 st := goC_cond
def k13_65 : ACode :=
  .ops [⟨.bin .eql 1 true (.p 8) (.c (.int .i64 17)), (some 11), none⟩,
    ⟨.assign (.p 11), (some 9), none⟩] .skip
@[simp] theorem xk13_65 : GoC fns Q s k13_65 st ↔ GoO fns Q s [⟨.bin .eql 1 true (.p 8) (.c (.int .i64 17)), (some 11), none⟩,
    ⟨.assign (.p 11), (some 9), none⟩] .skip st := goC_ops
def k13_66 : ACode :=
  .cond (.p 9) .skip k13_65
@[simp] theorem xk13_66 : GoC fns Q s k13_66 st ↔ GB fns Q s (peek st (.p 9)) .skip k13_65 st := goC_cond
def k13_67 : ACode :=
  .seq k13_66 k13_64
@[simp] theorem xk13_67 : GoC fns Q s k13_67 st ↔ GoC fns Q (.sq k13_64 :: s) k13_66 st := goC_seq
def k13_68 : ACode :=
  .ops [⟨.bin .eql 1 true (.p 8) (.c (.int .i64 1)), (some 10), none⟩,
    ⟨.assign (.p 10), (some 9), none⟩] k13_67
@[simp] theorem xk13_68 : GoC fns Q s k13_68 st ↔ GoO fns Q s [⟨.bin .eql 1 true (.p 8) (.c (.int .i64 1)), (some 10), none⟩,
    ⟨.assign (.p 10), (some 9), none⟩] k13_67 st := goC_ops
def k13_69 : ACode :=
  .block 0 k13_68
@[simp] theorem xk13_69 : GoC fns Q s k13_69 st ↔ GoC fns Q (.bl 0 :: s) k13_68 st := goC_block
def k13_70 : ACode :=
  .seq k13_69 k13_0
@[simp] theorem xk13_70 : GoC fns Q s k13_70 st ↔ GoC fns Q (.sq k13_0 :: s) k13_69 st := goC_seq
def k13_71 : ACode :=
  .ops [⟨.fieldAddr 0 (.p 1), (some 7), none⟩,
    ⟨.load .head false 1 (.p 7), (some 8), none⟩] k13_70
@[simp] theorem xk13_71 : GoC fns Q s k13_71 st ↔ GoO fns Q s [⟨.fieldAddr 0 (.p 1), (some 7), none⟩,
    ⟨.load .head false 1 (.p 7), (some 8), none⟩] k13_70 st := goC_ops
def k13_72 : ACode :=
  .ops [⟨.assign (.c (.slice .nil 0 1 [])), (some 3), none⟩] k13_71
@[simp] theorem xk13_72 : GoC fns Q s k13_72 st ↔ GoO fns Q s [⟨.assign (.c (.slice .nil 0 1 [])), (some 3), none⟩] k13_71 st := goC_ops
def k13_73 : ACode :=
  .ops [⟨.box 1 (.p 0), (some 1), none⟩,
    ⟨.assign (.c (.slice .nil 0 1 [])), (some 2), none⟩] k13_72
@[simp] theorem xk13_73 : GoC fns Q s k13_73 st ↔ GoO fns Q s [⟨.box 1 (.p 0), (some 1), none⟩,
    ⟨.assign (.c (.slice .nil 0 1 [])), (some 2), none⟩] k13_72 st := goC_ops
def af13 : AFunc := ⟨148, k13_73, [.tmp 2]⟩

theorem ok13 : pFunc Try.prog sg Try.f13 = some af13 := by kernel_rfl
/-- No. 7 -/
def k7_0 : ACode :=
  .ops [⟨.fieldAddr 0 (.p 1), (some 3), none⟩,
    ⟨.load .look false 1 (.p 3), (some 4), none⟩,
    ⟨.load .look true 8 (.p 1), (some 5), none⟩,
    ⟨.call 13 [(.p 5, false)], (some 6), none⟩,
    ⟨.build [.int .i64 0, .slice .nil 0 1 []] [(0, 1, .p 4), (1, 1, .t 6)], (some 7), none⟩,
    ⟨.store 2 (.p 2) (.p 7), none, none⟩] .ret
@[simp] theorem xk7_0 : GoC fns Q s k7_0 st ↔ GoO fns Q s [⟨.fieldAddr 0 (.p 1), (some 3), none⟩,
    ⟨.load .look false 1 (.p 3), (some 4), none⟩,
    ⟨.load .look true 8 (.p 1), (some 5), none⟩,
    ⟨.call 13 [(.p 5, false)], (some 6), none⟩,
    ⟨.build [.int .i64 0, .slice .nil 0 1 []] [(0, 1, .p 4), (1, 1, .t 6)], (some 7), none⟩,
    ⟨.store 2 (.p 2) (.p 7), none, none⟩] .ret st := goC_ops
def k7_1 : ACode :=
  .ops [⟨.box 1 (.p 0), (some 1), none⟩,
    ⟨.newbox 2 [.int .i64 0, .slice .nil 0 1 []], (some 2), none⟩] k7_0
@[simp] theorem xk7_1 : GoC fns Q s k7_1 st ↔ GoO fns Q s [⟨.box 1 (.p 0), (some 1), none⟩,
    ⟨.newbox 2 [.int .i64 0, .slice .nil 0 1 []], (some 2), none⟩] k7_0 st := goC_ops
def af7 : AFunc := ⟨8, k7_1, [.cell 2 true 2]⟩

theorem ok7 : pFunc Try.prog sg Try.f7 = some af7 := by kernel_rfl
/-- No. 11 -/
def k11_0 : ACode :=
  .ops [⟨.fieldAddr 0 (.p 1), (some 3), none⟩,
    ⟨.load .look false 1 (.p 3), (some 4), none⟩,
    ⟨.convInt .u8 (.p 4), (some 5), none⟩,
    ⟨.fieldAddr 1 (.p 1), (some 6), none⟩,
    ⟨.load .look false 1 (.p 6), (some 7), none⟩,
    ⟨.build [.int .u8 0, .slice .nil 0 1 []] [(0, 1, .p 5), (1, 1, .t 7)], (some 8), none⟩,
    ⟨.store 2 (.p 2) (.p 8), none, none⟩] .ret
@[simp] theorem xk11_0 : GoC fns Q s k11_0 st ↔ GoO fns Q s [⟨.fieldAddr 0 (.p 1), (some 3), none⟩,
    ⟨.load .look false 1 (.p 3), (some 4), none⟩,
    ⟨.convInt .u8 (.p 4), (some 5), none⟩,
    ⟨.fieldAddr 1 (.p 1), (some 6), none⟩,
    ⟨.load .look false 1 (.p 6), (some 7), none⟩,
    ⟨.build [.int .u8 0, .slice .nil 0 1 []] [(0, 1, .p 5), (1, 1, .t 7)], (some 8), none⟩,
    ⟨.store 2 (.p 2) (.p 8), none, none⟩] .ret st := goC_ops
def k11_1 : ACode :=
  .ops [⟨.box 1 (.p 0), (some 1), none⟩,
    ⟨.newbox 2 [.int .u8 0, .slice .nil 0 1 []], (some 2), none⟩] k11_0
@[simp] theorem xk11_1 : GoC fns Q s k11_1 st ↔ GoO fns Q s [⟨.box 1 (.p 0), (some 1), none⟩,
    ⟨.newbox 2 [.int .u8 0, .slice .nil 0 1 []], (some 2), none⟩] k11_0 st := goC_ops
def af11 : AFunc := ⟨9, k11_1, [.cell 2 true 2]⟩

theorem ok11 : pFunc Try.prog sg Try.f11 = some af11 := by kernel_rfl
/-- No. 15 -/
def k15_0 : ACode :=
  .ops [⟨.fieldAddr 0 (.p 1), (some 3), none⟩,
    ⟨.load .look false 1 (.p 3), (some 4), none⟩,
    ⟨.fieldAddr 1 (.p 1), (some 5), none⟩,
    ⟨.load .look false 1 (.p 5), (some 6), none⟩,
    ⟨.build [.int .u8 0, .slice .nil 0 1 []] [(0, 1, .p 4), (1, 1, .t 6)], (some 7), none⟩,
    ⟨.store 2 (.p 2) (.p 7), none, none⟩] .ret
@[simp] theorem xk15_0 : GoC fns Q s k15_0 st ↔ GoO fns Q s [⟨.fieldAddr 0 (.p 1), (some 3), none⟩,
    ⟨.load .look false 1 (.p 3), (some 4), none⟩,
    ⟨.fieldAddr 1 (.p 1), (some 5), none⟩,
    ⟨.load .look false 1 (.p 5), (some 6), none⟩,
    ⟨.build [.int .u8 0, .slice .nil 0 1 []] [(0, 1, .p 4), (1, 1, .t 6)], (some 7), none⟩,
    ⟨.store 2 (.p 2) (.p 7), none, none⟩] .ret st := goC_ops
def k15_1 : ACode :=
  .ops [⟨.box 1 (.p 0), (some 1), none⟩,
    ⟨.newbox 2 [.int .u8 0, .slice .nil 0 1 []], (some 2), none⟩] k15_0
@[simp] theorem xk15_1 : GoC fns Q s k15_1 st ↔ GoO fns Q s [⟨.box 1 (.p 0), (some 1), none⟩,
    ⟨.newbox 2 [.int .u8 0, .slice .nil 0 1 []], (some 2), none⟩] k15_0 st := goC_ops
def af15 : AFunc := ⟨8, k15_1, [.cell 2 true 2]⟩

theorem ok15 : pFunc Try.prog sg Try.f15 = some af15 := by kernel_rfl
/-- No. 25 -/
def k25_0 : ACode :=
  .ops [⟨.assign (.c (.bool true)), (some 2), none⟩] .ret
@[simp] theorem xk25_0 : GoC fns Q s k25_0 st ↔ GoO fns Q s [⟨.assign (.c (.bool true)), (some 2), none⟩] .ret st := goC_ops
def k25_1 : ACode :=
  .ops [⟨.assign (.c (.bool false)), (some 2), none⟩] .ret
@[simp] theorem xk25_1 : GoC fns Q s k25_1 st ↔ GoO fns Q s [⟨.assign (.c (.bool false)), (some 2), none⟩] .ret st := goC_ops
def k25_2 : ACode :=
  .cond (.p 5) k25_0 k25_1
@[simp] theorem xk25_2 : GoC fns Q s k25_2 st ↔ GB fns Q s (peek st (.p 5)) k25_0 k25_1 st := goC_cond
def k25_3 : ACode :=
  .ops [⟨.bin .eql 1 true (.p 4) (.c (.int .u8 19)), (some 9), none⟩,
    ⟨.assign (.p 9), (some 5), none⟩] .skip
@[simp] theorem xk25_3 : GoC fns Q s k25_3 st ↔ GoO fns Q s [⟨.bin .eql 1 true (.p 4) (.c (.int .u8 19)), (some 9), none⟩,
    ⟨.assign (.p 9), (some 5), none⟩] .skip st := goC_ops
def k25_4 : ACode :=
  .cond (.p 5) .skip k25_3
@[simp] theorem xk25_4 : GoC fns Q s k25_4 st ↔ GB fns Q s (peek st (.p 5)) .skip k25_3 st := goC_cond
def k25_5 : ACode :=
  .ops [⟨.bin .eql 1 true (.p 4) (.c (.int .u8 18)), (some 8), none⟩,
    ⟨.assign (.p 8), (some 5), none⟩] k25_4
@[simp] theorem xk25_5 : GoC fns Q s k25_5 st ↔ GoO fns Q s [⟨.bin .eql 1 true (.p 4) (.c (.int .u8 18)), (some 8), none⟩,
    ⟨.assign (.p 8), (some 5), none⟩] k25_4 st := goC_ops
def k25_6 : ACode :=
  .cond (.p 5) .skip k25_5
@[simp] theorem xk25_6 : GoC fns Q s k25_6 st ↔ GB fns Q s (peek st (.p 5)) .skip k25_5 st := goC_cond
def k25_7 : ACode :=
  .ops [⟨.bin .eql 1 true (.p 4) (.c (.int .u8 16)), (some 7), none⟩,
    ⟨.assign (.p 7), (some 5), none⟩] k25_6
@[simp] theorem xk25_7 : GoC fns Q s k25_7 st ↔ GoO fns Q s [⟨.bin .eql 1 true (.p 4) (.c (.int .u8 16)), (some 7), none⟩,
    ⟨.assign (.p 7), (some 5), none⟩] k25_6 st := goC_ops
def k25_8 : ACode :=
  .cond (.p 5) .skip k25_7
@[simp] theorem xk25_8 : GoC fns Q s k25_8 st ↔ GB fns Q s (peek st (.p 5)) .skip k25_7 st := goC_cond
def k25_9 : ACode :=
  .seq k25_8 k25_2
@[simp] theorem xk25_9 : GoC fns Q s k25_9 st ↔ GoC fns Q (.sq k25_2 :: s) k25_8 st := goC_seq
def k25_10 : ACode :=
  .ops [⟨.bin .eql 1 true (.p 4) (.c (.int .u8 1)), (some 6), none⟩,
    ⟨.assign (.p 6), (some 5), none⟩] k25_9
@[simp] theorem xk25_10 : GoC fns Q s k25_10 st ↔ GoO fns Q s [⟨.bin .eql 1 true (.p 4) (.c (.int .u8 1)), (some 6), none⟩,
    ⟨.assign (.p 6), (some 5), none⟩] k25_9 st := goC_ops
def k25_11 : ACode :=
  .block 0 k25_10
@[simp] theorem xk25_11 : GoC fns Q s k25_11 st ↔ GoC fns Q (.bl 0 :: s) k25_10 st := goC_block
def k25_12 : ACode :=
  .seq k25_11 .ret
@[simp] theorem xk25_12 : GoC fns Q s k25_12 st ↔ GoC fns Q (.sq .ret :: s) k25_11 st := goC_seq
def k25_13 : ACode :=
  .ops [⟨.fieldAddr 0 (.p 1), (some 3), none⟩,
    ⟨.load .head false 1 (.p 3), (some 4), none⟩] k25_12
@[simp] theorem xk25_13 : GoC fns Q s k25_13 st ↔ GoO fns Q s [⟨.fieldAddr 0 (.p 1), (some 3), none⟩,
    ⟨.load .head false 1 (.p 3), (some 4), none⟩] k25_12 st := goC_ops
def k25_14 : ACode :=
  .ops [⟨.box 1 (.p 0), (some 1), none⟩,
    ⟨.assign (.c (.bool false)), (some 2), none⟩] k25_13
@[simp] theorem xk25_14 : GoC fns Q s k25_14 st ↔ GoO fns Q s [⟨.box 1 (.p 0), (some 1), none⟩,
    ⟨.assign (.c (.bool false)), (some 2), none⟩] k25_13 st := goC_ops
def af25 : AFunc := ⟨10, k25_14, [.tmp 2]⟩

theorem ok25 : pFunc Try.prog sg Try.f25 = some af25 := by kernel_rfl
/-- No. 35 -/
def k35_0 : ACode :=
  .ops [⟨.move .look (.t 1), (some 8), none⟩,
    ⟨.indexAddr 1 (.t 8) (.c (.int .i64 0)), (some 9), none⟩,
    ⟨.load .look false 1 (.p 9), (some 10), none⟩,
    ⟨.convInt .u64 (.p 10), (some 11), none⟩,
    ⟨.move .look (.t 1), (some 12), none⟩,
    ⟨.indexAddr 1 (.t 12) (.c (.int .i64 1)), (some 13), none⟩,
    ⟨.load .look false 1 (.p 13), (some 14), none⟩,
    ⟨.convInt .u64 (.p 14), (some 15), none⟩,
    ⟨.bin .shl 1 true (.p 15) (.c (.int .u64 8)), (some 16), none⟩,
    ⟨.bin .or 1 false (.p 11) (.p 16), (some 17), none⟩,
    ⟨.move .look (.t 1), (some 18), none⟩,
    ⟨.indexAddr 1 (.t 18) (.c (.int .i64 2)), (some 19), none⟩,
    ⟨.load .look false 1 (.p 19), (some 20), none⟩,
    ⟨.convInt .u64 (.p 20), (some 21), none⟩,
    ⟨.bin .shl 1 true (.p 21) (.c (.int .u64 16)), (some 22), none⟩,
    ⟨.bin .or 1 false (.p 17) (.p 22), (some 23), none⟩,
    ⟨.move .look (.t 1), (some 24), none⟩,
    ⟨.indexAddr 1 (.t 24) (.c (.int .i64 3)), (some 25), none⟩,
    ⟨.load .look false 1 (.p 25), (some 26), none⟩,
    ⟨.convInt .u64 (.p 26), (some 27), none⟩,
    ⟨.bin .shl 1 true (.p 27) (.c (.int .u64 24)), (some 28), none⟩,
    ⟨.bin .or 1 false (.p 23) (.p 28), (some 29), none⟩,
    ⟨.move .look (.t 1), (some 30), none⟩,
    ⟨.indexAddr 1 (.t 30) (.c (.int .i64 4)), (some 31), none⟩,
    ⟨.load .look false 1 (.p 31), (some 32), none⟩,
    ⟨.convInt .u64 (.p 32), (some 33), none⟩,
    ⟨.bin .shl 1 true (.p 33) (.c (.int .u64 32)), (some 34), none⟩,
    ⟨.bin .or 1 false (.p 29) (.p 34), (some 35), none⟩,
    ⟨.move .look (.t 1), (some 36), none⟩,
    ⟨.indexAddr 1 (.t 36) (.c (.int .i64 5)), (some 37), none⟩,
    ⟨.load .look false 1 (.p 37), (some 38), none⟩,
    ⟨.convInt .u64 (.p 38), (some 39), none⟩,
    ⟨.bin .shl 1 true (.p 39) (.c (.int .u64 40)), (some 40), none⟩,
    ⟨.bin .or 1 false (.p 35) (.p 40), (some 41), none⟩,
    ⟨.move .look (.t 1), (some 42), none⟩,
    ⟨.indexAddr 1 (.t 42) (.c (.int .i64 6)), (some 43), none⟩,
    ⟨.load .look false 1 (.p 43), (some 44), none⟩,
    ⟨.convInt .u64 (.p 44), (some 45), none⟩,
    ⟨.bin .shl 1 true (.p 45) (.c (.int .u64 48)), (some 46), none⟩,
    ⟨.bin .or 1 false (.p 41) (.p 46), (some 47), none⟩,
    ⟨.move .look (.t 1), (some 48), none⟩,
    ⟨.indexAddr 1 (.t 48) (.c (.int .i64 7)), (some 49), none⟩,
    ⟨.load .look false 1 (.p 49), (some 50), none⟩,
    ⟨.convInt .u64 (.p 50), (some 51), none⟩,
    ⟨.bin .shl 1 true (.p 51) (.c (.int .u64 56)), (some 52), none⟩,
    ⟨.bin .or 1 false (.p 47) (.p 52), (some 53), none⟩,
    ⟨.assign (.p 53), (some 4), none⟩] .ret
@[simp] theorem xk35_0 : GoC fns Q s k35_0 st ↔ GoO fns Q s [⟨.move .look (.t 1), (some 8), none⟩,
    ⟨.indexAddr 1 (.t 8) (.c (.int .i64 0)), (some 9), none⟩,
    ⟨.load .look false 1 (.p 9), (some 10), none⟩,
    ⟨.convInt .u64 (.p 10), (some 11), none⟩,
    ⟨.move .look (.t 1), (some 12), none⟩,
    ⟨.indexAddr 1 (.t 12) (.c (.int .i64 1)), (some 13), none⟩,
    ⟨.load .look false 1 (.p 13), (some 14), none⟩,
    ⟨.convInt .u64 (.p 14), (some 15), none⟩,
    ⟨.bin .shl 1 true (.p 15) (.c (.int .u64 8)), (some 16), none⟩,
    ⟨.bin .or 1 false (.p 11) (.p 16), (some 17), none⟩,
    ⟨.move .look (.t 1), (some 18), none⟩,
    ⟨.indexAddr 1 (.t 18) (.c (.int .i64 2)), (some 19), none⟩,
    ⟨.load .look false 1 (.p 19), (some 20), none⟩,
    ⟨.convInt .u64 (.p 20), (some 21), none⟩,
    ⟨.bin .shl 1 true (.p 21) (.c (.int .u64 16)), (some 22), none⟩,
    ⟨.bin .or 1 false (.p 17) (.p 22), (some 23), none⟩,
    ⟨.move .look (.t 1), (some 24), none⟩,
    ⟨.indexAddr 1 (.t 24) (.c (.int .i64 3)), (some 25), none⟩,
    ⟨.load .look false 1 (.p 25), (some 26), none⟩,
    ⟨.convInt .u64 (.p 26), (some 27), none⟩,
    ⟨.bin .shl 1 true (.p 27) (.c (.int .u64 24)), (some 28), none⟩,
    ⟨.bin .or 1 false (.p 23) (.p 28), (some 29), none⟩,
    ⟨.move .look (.t 1), (some 30), none⟩,
    ⟨.indexAddr 1 (.t 30) (.c (.int .i64 4)), (some 31), none⟩,
    ⟨.load .look false 1 (.p 31), (some 32), none⟩,
    ⟨.convInt .u64 (.p 32), (some 33), none⟩,
    ⟨.bin .shl 1 true (.p 33) (.c (.int .u64 32)), (some 34), none⟩,
    ⟨.bin .or 1 false (.p 29) (.p 34), (some 35), none⟩,
    ⟨.move .look (.t 1), (some 36), none⟩,
    ⟨.indexAddr 1 (.t 36) (.c (.int .i64 5)), (some 37), none⟩,
    ⟨.load .look false 1 (.p 37), (some 38), none⟩,
    ⟨.convInt .u64 (.p 38), (some 39), none⟩,
    ⟨.bin .shl 1 true (.p 39) (.c (.int .u64 40)), (some 40), none⟩,
    ⟨.bin .or 1 false (.p 35) (.p 40), (some 41), none⟩,
    ⟨.move .look (.t 1), (some 42), none⟩,
    ⟨.indexAddr 1 (.t 42) (.c (.int .i64 6)), (some 43), none⟩,
    ⟨.load .look false 1 (.p 43), (some 44), none⟩,
    ⟨.convInt .u64 (.p 44), (some 45), none⟩,
    ⟨.bin .shl 1 true (.p 45) (.c (.int .u64 48)), (some 46), none⟩,
    ⟨.bin .or 1 false (.p 41) (.p 46), (some 47), none⟩,
    ⟨.move .look (.t 1), (some 48), none⟩,
    ⟨.indexAddr 1 (.t 48) (.c (.int .i64 7)), (some 49), none⟩,
    ⟨.load .look false 1 (.p 49), (some 50), none⟩,
    ⟨.convInt .u64 (.p 50), (some 51), none⟩,
    ⟨.bin .shl 1 true (.p 51) (.c (.int .u64 56)), (some 52), none⟩,
    ⟨.bin .or 1 false (.p 47) (.p 52), (some 53), none⟩,
    ⟨.assign (.p 53), (some 4), none⟩] .ret st := goC_ops
def k35_1 : ACode :=
  .ops [⟨.move .look (.t 1), (some 5), none⟩,
    ⟨.indexAddr 1 (.t 5) (.c (.int .i64 7)), (some 6), none⟩,
    ⟨.load .head false 1 (.p 6), (some 7), none⟩] k35_0
@[simp] theorem xk35_1 : GoC fns Q s k35_1 st ↔ GoO fns Q s [⟨.move .look (.t 1), (some 5), none⟩,
    ⟨.indexAddr 1 (.t 5) (.c (.int .i64 7)), (some 6), none⟩,
    ⟨.load .head false 1 (.p 6), (some 7), none⟩] k35_0 st := goC_ops
def k35_2 : ACode :=
  .ops [⟨.box 2 (.p 0), (some 2), none⟩,
    ⟨.assign (.c (.int .u64 0)), (some 4), none⟩] k35_1
@[simp] theorem xk35_2 : GoC fns Q s k35_2 st ↔ GoO fns Q s [⟨.box 2 (.p 0), (some 2), none⟩,
    ⟨.assign (.c (.int .u64 0)), (some 4), none⟩] k35_1 st := goC_ops
def af35 : AFunc := ⟨54, k35_2, [.tmp 4]⟩

theorem ok35 : pFunc Try.prog sg Try.f35 = some af35 := by kernel_rfl
/-- No. 30 -/
def k30_0 : ACode :=
  .ops [⟨.load .look true 0 (.c (.gl 0)), (some 9), none⟩,
    ⟨.move .look (.t 0), (some 10), none⟩,
    ⟨.move .look (.t 0), (some 12), none⟩,
    ⟨.sliceSl 1 (.t 12) (some (.c (.int .i64 8))) none, (some 13), none⟩,
    ⟨.call 35 [(.p 9, false), (.t 10, false)], (some 11), none⟩,
    ⟨.assign (.p 11), (some 2), none⟩,
    ⟨.assign (.t 13), (some 3), none⟩,
    ⟨.assign (.c (.bool true)), (some 4), none⟩] .ret
@[simp] theorem xk30_0 : GoC fns Q s k30_0 st ↔ GoO fns Q s [⟨.load .look true 0 (.c (.gl 0)), (some 9), none⟩,
    ⟨.move .look (.t 0), (some 10), none⟩,
    ⟨.move .look (.t 0), (some 12), none⟩,
    ⟨.sliceSl 1 (.t 12) (some (.c (.int .i64 8))) none, (some 13), none⟩,
    ⟨.call 35 [(.p 9, false), (.t 10, false)], (some 11), none⟩,
    ⟨.assign (.p 11), (some 2), none⟩,
    ⟨.assign (.t 13), (some 3), none⟩,
    ⟨.assign (.c (.bool true)), (some 4), none⟩] .ret st := goC_ops
def k30_1 : ACode :=
  .ops [⟨.move .take (.t 0), (some 8), none⟩,
    ⟨.assign (.c (.int .u64 0)), (some 2), none⟩,
    ⟨.assign (.t 8), (some 3), none⟩,
    ⟨.assign (.c (.bool false)), (some 4), none⟩] .ret
@[simp] theorem xk30_1 : GoC fns Q s k30_1 st ↔ GoO fns Q s [⟨.move .take (.t 0), (some 8), none⟩,
    ⟨.assign (.c (.int .u64 0)), (some 2), none⟩,
    ⟨.assign (.t 8), (some 3), none⟩,
    ⟨.assign (.c (.bool false)), (some 4), none⟩] .ret st := goC_ops
def k30_2 : ACode :=
  .cond (.p 7) k30_1 .skip
@[simp] theorem xk30_2 : GoC fns Q s k30_2 st ↔ GB fns Q s (peek st (.p 7)) k30_1 .skip st := goC_cond
def k30_3 : ACode :=
  .seq k30_2 k30_0
@[simp] theorem xk30_3 : GoC fns Q s k30_3 st ↔ GoC fns Q (.sq k30_0 :: s) k30_2 st := goC_seq
def k30_4 : ACode :=
  .ops [⟨.move .head (.t 0), (some 5), none⟩,
    ⟨.len false (.p 5), (some 6), none⟩,
    ⟨.bin .lss 1 true (.p 6) (.c (.int .i64 8)), (some 7), none⟩] k30_3
@[simp] theorem xk30_4 : GoC fns Q s k30_4 st ↔ GoO fns Q s [⟨.move .head (.t 0), (some 5), none⟩,
    ⟨.len false (.p 5), (some 6), none⟩,
    ⟨.bin .lss 1 true (.p 6) (.c (.int .i64 8)), (some 7), none⟩] k30_3 st := goC_ops
def k30_5 : ACode :=
  .ops [⟨.assign (.c (.int .u64 0)), (some 2), none⟩,
    ⟨.assign (.c (.slice .nil 0 1 [])), (some 3), none⟩,
    ⟨.assign (.c (.bool false)), (some 4), none⟩] k30_4
@[simp] theorem xk30_5 : GoC fns Q s k30_5 st ↔ GoO fns Q s [⟨.assign (.c (.int .u64 0)), (some 2), none⟩,
    ⟨.assign (.c (.slice .nil 0 1 [])), (some 3), none⟩,
    ⟨.assign (.c (.bool false)), (some 4), none⟩] k30_4 st := goC_ops
def af30 : AFunc := ⟨14, k30_5, [.tmp 2, .tmp 3, .tmp 4]⟩

theorem ok30 : pFunc Try.prog sg Try.f30 = some af30 := by kernel_rfl
/-- No. 26 -/
def k26_0 : ACode :=
  .ops [⟨.move .look (.p 5), (some 16), none⟩,
    ⟨.call 31 [(.p 16, false)], (some 17), none⟩,
    ⟨.move .take (.t 0), (some 18), none⟩,
    ⟨.assign (.p 17), (some 2), none⟩,
    ⟨.assign (.t 18), (some 3), none⟩,
    ⟨.assign (.c (.bool true)), (some 4), none⟩] .ret
@[simp] theorem xk26_0 : GoC fns Q s k26_0 st ↔ GoO fns Q s [⟨.move .look (.p 5), (some 16), none⟩,
    ⟨.call 31 [(.p 16, false)], (some 17), none⟩,
    ⟨.move .take (.t 0), (some 18), none⟩,
    ⟨.assign (.p 17), (some 2), none⟩,
    ⟨.assign (.t 18), (some 3), none⟩,
    ⟨.assign (.c (.bool true)), (some 4), none⟩] .ret st := goC_ops
def k26_1 : ACode :=
  .ops [⟨.move .take (.t 0), (some 15), none⟩,
    ⟨.assign (.c (.flt .f64 0)), (some 2), none⟩,
    ⟨.assign (.t 15), (some 3), none⟩,
    ⟨.assign (.c (.bool false)), (some 4), none⟩] .ret
@[simp] theorem xk26_1 : GoC fns Q s k26_1 st ↔ GoO fns Q s [⟨.move .take (.t 0), (some 15), none⟩,
    ⟨.assign (.c (.flt .f64 0)), (some 2), none⟩,
    ⟨.assign (.t 15), (some 3), none⟩,
    ⟨.assign (.c (.bool false)), (some 4), none⟩] .ret st := goC_ops
def k26_2 : ACode :=
  .cond (.p 14) k26_1 .skip
@[simp] theorem xk26_2 : GoC fns Q s k26_2 st ↔ GB fns Q s (peek st (.p 14)) k26_1 .skip st := goC_cond
def k26_3 : ACode :=
  .seq k26_2 k26_0
@[simp] theorem xk26_3 : GoC fns Q s k26_3 st ↔ GoC fns Q (.sq k26_0 :: s) k26_2 st := goC_seq
def k26_4 : ACode :=
  .ops [⟨.move .look (.p 6), (some 13), none⟩,
    ⟨.un .not (.p 13), (some 14), none⟩] k26_3
@[simp] theorem xk26_4 : GoC fns Q s k26_4 st ↔ GoO fns Q s [⟨.move .look (.p 6), (some 13), none⟩,
    ⟨.un .not (.p 13), (some 14), none⟩] k26_3 st := goC_ops
def k26_5 : ACode :=
  .ops [⟨.move .look (.t 0), (some 8), none⟩,
    ⟨.call 30 [(.t 8, false)], (some 9), none⟩,
    ⟨.move .look (.t 9), (some 7), none⟩,
    ⟨.extract 7 0, (some 10), none⟩,
    ⟨.extract 7 1, (some 11), none⟩,
    ⟨.extract 7 2, (some 12), none⟩,
    ⟨.assign (.p 10), (some 5), none⟩,
    ⟨.assign (.t 11), (some 0), none⟩,
    ⟨.assign (.p 12), (some 6), none⟩] k26_4
@[simp] theorem xk26_5 : GoC fns Q s k26_5 st ↔ GoO fns Q s [⟨.move .look (.t 0), (some 8), none⟩,
    ⟨.call 30 [(.t 8, false)], (some 9), none⟩,
    ⟨.move .look (.t 9), (some 7), none⟩,
    ⟨.extract 7 0, (some 10), none⟩,
    ⟨.extract 7 1, (some 11), none⟩,
    ⟨.extract 7 2, (some 12), none⟩,
    ⟨.assign (.p 10), (some 5), none⟩,
    ⟨.assign (.t 11), (some 0), none⟩,
    ⟨.assign (.p 12), (some 6), none⟩] k26_4 st := goC_ops
def k26_6 : ACode :=
  .ops [⟨.assign (.c (.flt .f64 0)), (some 2), none⟩,
    ⟨.assign (.c (.slice .nil 0 1 [])), (some 3), none⟩,
    ⟨.assign (.c (.bool false)), (some 4), none⟩] k26_5
@[simp] theorem xk26_6 : GoC fns Q s k26_6 st ↔ GoO fns Q s [⟨.assign (.c (.flt .f64 0)), (some 2), none⟩,
    ⟨.assign (.c (.slice .nil 0 1 [])), (some 3), none⟩,
    ⟨.assign (.c (.bool false)), (some 4), none⟩] k26_5 st := goC_ops
def af26 : AFunc := ⟨19, k26_6, [.tmp 2, .tmp 3, .tmp 4]⟩

theorem ok26 : pFunc Try.prog sg Try.f26 = some af26 := by kernel_rfl
/-- No. 32 -/
def k32_0 : ACode :=
  .ops [⟨.move .take (.p 5), (some 35), none⟩,
    ⟨.move .look (.t 0), (some 36), none⟩,
    ⟨.sliceSl 1 (.t 36) (some (.c (.int .i64 4))) none, (some 37), none⟩,
    ⟨.assign (.p 35), (some 2), none⟩,
    ⟨.assign (.t 37), (some 3), none⟩,
    ⟨.assign (.c (.bool true)), (some 4), none⟩] .ret
@[simp] theorem xk32_0 : GoC fns Q s k32_0 st ↔ GoO fns Q s [⟨.move .take (.p 5), (some 35), none⟩,
    ⟨.move .look (.t 0), (some 36), none⟩,
    ⟨.sliceSl 1 (.t 36) (some (.c (.int .i64 4))) none, (some 37), none⟩,
    ⟨.assign (.p 35), (some 2), none⟩,
    ⟨.assign (.t 37), (some 3), none⟩,
    ⟨.assign (.c (.bool true)), (some 4), none⟩] .ret st := goC_ops
def k32_1 : ACode :=
  .ops [⟨.move .look (.t 0), (some 13), none⟩,
    ⟨.indexAddr 1 (.t 13) (.c (.int .i64 0)), (some 14), none⟩,
    ⟨.load .look false 1 (.p 14), (some 15), none⟩,
    ⟨.convInt .i32 (.p 15), (some 16), none⟩,
    ⟨.move .look (.t 0), (some 17), none⟩,
    ⟨.indexAddr 1 (.t 17) (.c (.int .i64 1)), (some 18), none⟩,
    ⟨.load .look false 1 (.p 18), (some 19), none⟩,
    ⟨.convInt .i32 (.p 19), (some 20), none⟩,
    ⟨.bin .shl 1 true (.p 20) (.c (.int .u64 8)), (some 21), none⟩,
    ⟨.bin .or 1 false (.p 16) (.p 21), (some 22), none⟩,
    ⟨.move .look (.t 0), (some 23), none⟩,
    ⟨.indexAddr 1 (.t 23) (.c (.int .i64 2)), (some 24), none⟩,
    ⟨.load .look false 1 (.p 24), (some 25), none⟩,
    ⟨.convInt .i32 (.p 25), (some 26), none⟩,
    ⟨.bin .shl 1 true (.p 26) (.c (.int .u64 16)), (some 27), none⟩,
    ⟨.bin .or 1 false (.p 22) (.p 27), (some 28), none⟩,
    ⟨.move .look (.t 0), (some 29), none⟩,
    ⟨.indexAddr 1 (.t 29) (.c (.int .i64 3)), (some 30), none⟩,
    ⟨.load .look false 1 (.p 30), (some 31), none⟩,
    ⟨.convInt .i32 (.p 31), (some 32), none⟩,
    ⟨.bin .shl 1 true (.p 32) (.c (.int .u64 24)), (some 33), none⟩,
    ⟨.bin .or 1 false (.p 28) (.p 33), (some 34), none⟩,
    ⟨.assign (.p 34), (some 5), none⟩] k32_0
@[simp] theorem xk32_1 : GoC fns Q s k32_1 st ↔ GoO fns Q s [⟨.move .look (.t 0), (some 13), none⟩,
    ⟨.indexAddr 1 (.t 13) (.c (.int .i64 0)), (some 14), none⟩,
    ⟨.load .look false 1 (.p 14), (some 15), none⟩,
    ⟨.convInt .i32 (.p 15), (some 16), none⟩,
    ⟨.move .look (.t 0), (some 17), none⟩,
    ⟨.indexAddr 1 (.t 17) (.c (.int .i64 1)), (some 18), none⟩,
    ⟨.load .look false 1 (.p 18), (some 19), none⟩,
    ⟨.convInt .i32 (.p 19), (some 20), none⟩,
    ⟨.bin .shl 1 true (.p 20) (.c (.int .u64 8)), (some 21), none⟩,
    ⟨.bin .or 1 false (.p 16) (.p 21), (some 22), none⟩,
    ⟨.move .look (.t 0), (some 23), none⟩,
    ⟨.indexAddr 1 (.t 23) (.c (.int .i64 2)), (some 24), none⟩,
    ⟨.load .look false 1 (.p 24), (some 25), none⟩,
    ⟨.convInt .i32 (.p 25), (some 26), none⟩,
    ⟨.bin .shl 1 true (.p 26) (.c (.int .u64 16)), (some 27), none⟩,
    ⟨.bin .or 1 false (.p 22) (.p 27), (some 28), none⟩,
    ⟨.move .look (.t 0), (some 29), none⟩,
    ⟨.indexAddr 1 (.t 29) (.c (.int .i64 3)), (some 30), none⟩,
    ⟨.load .look false 1 (.p 30), (some 31), none⟩,
    ⟨.convInt .i32 (.p 31), (some 32), none⟩,
    ⟨.bin .shl 1 true (.p 32) (.c (.int .u64 24)), (some 33), none⟩,
    ⟨.bin .or 1 false (.p 28) (.p 33), (some 34), none⟩,
    ⟨.assign (.p 34), (some 5), none⟩] k32_0 st := goC_ops
def k32_2 : ACode :=
  .ops [⟨.move .look (.t 0), (some 10), none⟩,
    ⟨.indexAddr 1 (.t 10) (.c (.int .i64 3)), (some 11), none⟩,
    ⟨.load .head false 1 (.p 11), (some 12), none⟩] k32_1
@[simp] theorem xk32_2 : GoC fns Q s k32_2 st ↔ GoO fns Q s [⟨.move .look (.t 0), (some 10), none⟩,
    ⟨.indexAddr 1 (.t 10) (.c (.int .i64 3)), (some 11), none⟩,
    ⟨.load .head false 1 (.p 11), (some 12), none⟩] k32_1 st := goC_ops
def k32_3 : ACode :=
  .ops [⟨.move .take (.t 0), (some 9), none⟩,
    ⟨.assign (.c (.int .i32 0)), (some 2), none⟩,
    ⟨.assign (.t 9), (some 3), none⟩,
    ⟨.assign (.c (.bool false)), (some 4), none⟩] .ret
@[simp] theorem xk32_3 : GoC fns Q s k32_3 st ↔ GoO fns Q s [⟨.move .take (.t 0), (some 9), none⟩,
    ⟨.assign (.c (.int .i32 0)), (some 2), none⟩,
    ⟨.assign (.t 9), (some 3), none⟩,
    ⟨.assign (.c (.bool false)), (some 4), none⟩] .ret st := goC_ops
def k32_4 : ACode :=
  .cond (.p 8) k32_3 .skip
@[simp] theorem xk32_4 : GoC fns Q s k32_4 st ↔ GB fns Q s (peek st (.p 8)) k32_3 .skip st := goC_cond
def k32_5 : ACode :=
  .seq k32_4 k32_2
@[simp] theorem xk32_5 : GoC fns Q s k32_5 st ↔ GoC fns Q (.sq k32_2 :: s) k32_4 st := goC_seq
def k32_6 : ACode :=
  .ops [⟨.move .head (.t 0), (some 6), none⟩,
    ⟨.len false (.p 6), (some 7), none⟩,
    ⟨.bin .lss 1 true (.p 7) (.c (.int .i64 4)), (some 8), none⟩] k32_5
@[simp] theorem xk32_6 : GoC fns Q s k32_6 st ↔ GoO fns Q s [⟨.move .head (.t 0), (some 6), none⟩,
    ⟨.len false (.p 6), (some 7), none⟩,
    ⟨.bin .lss 1 true (.p 7) (.c (.int .i64 4)), (some 8), none⟩] k32_5 st := goC_ops
def k32_7 : ACode :=
  .ops [⟨.assign (.c (.int .i32 0)), (some 2), none⟩,
    ⟨.assign (.c (.slice .nil 0 1 [])), (some 3), none⟩,
    ⟨.assign (.c (.bool false)), (some 4), none⟩] k32_6
@[simp] theorem xk32_7 : GoC fns Q s k32_7 st ↔ GoO fns Q s [⟨.assign (.c (.int .i32 0)), (some 2), none⟩,
    ⟨.assign (.c (.slice .nil 0 1 [])), (some 3), none⟩,
    ⟨.assign (.c (.bool false)), (some 4), none⟩] k32_6 st := goC_ops
def af32 : AFunc := ⟨38, k32_7, [.tmp 2, .tmp 3, .tmp 4]⟩

theorem ok32 : pFunc Try.prog sg Try.f32 = some af32 := by kernel_rfl
/-- No. 27 -/
def k27_0 : ACode :=
  .ops [⟨.move .look (.t 0), (some 5), none⟩,
    ⟨.call 32 [(.t 5, false)], (some 6), none⟩,
    ⟨.extract 6 0, (some 7), none⟩,
    ⟨.extract 6 1, (some 8), none⟩,
    ⟨.extract 6 2, (some 9), none⟩,
    ⟨.assign (.p 7), (some 2), none⟩,
    ⟨.assign (.t 8), (some 3), none⟩,
    ⟨.assign (.p 9), (some 4), none⟩] .ret
@[simp] theorem xk27_0 : GoC fns Q s k27_0 st ↔ GoO fns Q s [⟨.move .look (.t 0), (some 5), none⟩,
    ⟨.call 32 [(.t 5, false)], (some 6), none⟩,
    ⟨.extract 6 0, (some 7), none⟩,
    ⟨.extract 6 1, (some 8), none⟩,
    ⟨.extract 6 2, (some 9), none⟩,
    ⟨.assign (.p 7), (some 2), none⟩,
    ⟨.assign (.t 8), (some 3), none⟩,
    ⟨.assign (.p 9), (some 4), none⟩] .ret st := goC_ops
def k27_1 : ACode :=
  .ops [⟨.assign (.c (.int .i32 0)), (some 2), none⟩,
    ⟨.assign (.c (.slice .nil 0 1 [])), (some 3), none⟩,
    ⟨.assign (.c (.bool false)), (some 4), none⟩] k27_0
@[simp] theorem xk27_1 : GoC fns Q s k27_1 st ↔ GoO fns Q s [⟨.assign (.c (.int .i32 0)), (some 2), none⟩,
    ⟨.assign (.c (.slice .nil 0 1 [])), (some 3), none⟩,
    ⟨.assign (.c (.bool false)), (some 4), none⟩] k27_0 st := goC_ops
def af27 : AFunc := ⟨10, k27_1, [.tmp 2, .tmp 3, .tmp 4]⟩

theorem ok27 : pFunc Try.prog sg Try.f27 = some af27 := by kernel_rfl
/-- No. 33 -/
def k33_0 : ACode :=
  .ops [⟨.move .take (.p 5), (some 59), none⟩,
    ⟨.move .look (.t 0), (some 60), none⟩,
    ⟨.sliceSl 1 (.t 60) (some (.c (.int .i64 8))) none, (some 61), none⟩,
    ⟨.assign (.p 59), (some 2), none⟩,
    ⟨.assign (.t 61), (some 3), none⟩,
    ⟨.assign (.c (.bool true)), (some 4), none⟩] .ret
@[simp] theorem xk33_0 : GoC fns Q s k33_0 st ↔ GoO fns Q s [⟨.move .take (.p 5), (some 59), none⟩,
    ⟨.move .look (.t 0), (some 60), none⟩,
    ⟨.sliceSl 1 (.t 60) (some (.c (.int .i64 8))) none, (some 61), none⟩,
    ⟨.assign (.p 59), (some 2), none⟩,
    ⟨.assign (.t 61), (some 3), none⟩,
    ⟨.assign (.c (.bool true)), (some 4), none⟩] .ret st := goC_ops
def k33_1 : ACode :=
  .ops [⟨.move .look (.t 0), (some 13), none⟩,
    ⟨.indexAddr 1 (.t 13) (.c (.int .i64 0)), (some 14), none⟩,
    ⟨.load .look false 1 (.p 14), (some 15), none⟩,
    ⟨.convInt .i64 (.p 15), (some 16), none⟩,
    ⟨.move .look (.t 0), (some 17), none⟩,
    ⟨.indexAddr 1 (.t 17) (.c (.int .i64 1)), (some 18), none⟩,
    ⟨.load .look false 1 (.p 18), (some 19), none⟩,
    ⟨.convInt .i64 (.p 19), (some 20), none⟩,
    ⟨.bin .shl 1 true (.p 20) (.c (.int .u64 8)), (some 21), none⟩,
    ⟨.bin .or 1 false (.p 16) (.p 21), (some 22), none⟩,
    ⟨.move .look (.t 0), (some 23), none⟩,
    ⟨.indexAddr 1 (.t 23) (.c (.int .i64 2)), (some 24), none⟩,
    ⟨.load .look false 1 (.p 24), (some 25), none⟩,
    ⟨.convInt .i64 (.p 25), (some 26), none⟩,
    ⟨.bin .shl 1 true (.p 26) (.c (.int .u64 16)), (some 27), none⟩,
    ⟨.bin .or 1 false (.p 22) (.p 27), (some 28), none⟩,
    ⟨.move .look (.t 0), (some 29), none⟩,
    ⟨.indexAddr 1 (.t 29) (.c (.int .i64 3)), (some 30), none⟩,
    ⟨.load .look false 1 (.p 30), (some 31), none⟩,
    ⟨.convInt .i64 (.p 31), (some 32), none⟩,
    ⟨.bin .shl 1 true (.p 32) (.c (.int .u64 24)), (some 33), none⟩,
    ⟨.bin .or 1 false (.p 28) (.p 33), (some 34), none⟩,
    ⟨.move .look (.t 0), (some 35), none⟩,
    ⟨.indexAddr 1 (.t 35) (.c (.int .i64 4)), (some 36), none⟩,
    ⟨.load .look false 1 (.p 36), (some 37), none⟩,
    ⟨.convInt .i64 (.p 37), (some 38), none⟩,
    ⟨.bin .shl 1 true (.p 38) (.c (.int .u64 32)), (some 39), none⟩,
    ⟨.bin .or 1 false (.p 34) (.p 39), (some 40), none⟩,
    ⟨.move .look (.t 0), (some 41), none⟩,
    ⟨.indexAddr 1 (.t 41) (.c (.int .i64 5)), (some 42), none⟩,
    ⟨.load .look false 1 (.p 42), (some 43), none⟩,
    ⟨.convInt .i64 (.p 43), (some 44), none⟩,
    ⟨.bin .shl 1 true (.p 44) (.c (.int .u64 40)), (some 45), none⟩,
    ⟨.bin .or 1 false (.p 40) (.p 45), (some 46), none⟩,
    ⟨.move .look (.t 0), (some 47), none⟩,
    ⟨.indexAddr 1 (.t 47) (.c (.int .i64 6)), (some 48), none⟩,
    ⟨.load .look false 1 (.p 48), (some 49), none⟩,
    ⟨.convInt .i64 (.p 49), (some 50), none⟩,
    ⟨.bin .shl 1 true (.p 50) (.c (.int .u64 48)), (some 51), none⟩,
    ⟨.bin .or 1 false (.p 46) (.p 51), (some 52), none⟩,
    ⟨.move .look (.t 0), (some 53), none⟩,
    ⟨.indexAddr 1 (.t 53) (.c (.int .i64 7)), (some 54), none⟩,
    ⟨.load .look false 1 (.p 54), (some 55), none⟩,
    ⟨.convInt .i64 (.p 55), (some 56), none⟩,
    ⟨.bin .shl 1 true (.p 56) (.c (.int .u64 56)), (some 57), none⟩,
    ⟨.bin .or 1 false (.p 52) (.p 57), (some 58), none⟩,
    ⟨.assign (.p 58), (some 5), none⟩] k33_0
@[simp] theorem xk33_1 : GoC fns Q s k33_1 st ↔ GoO fns Q s [⟨.move .look (.t 0), (some 13), none⟩,
    ⟨.indexAddr 1 (.t 13) (.c (.int .i64 0)), (some 14), none⟩,
    ⟨.load .look false 1 (.p 14), (some 15), none⟩,
    ⟨.convInt .i64 (.p 15), (some 16), none⟩,
    ⟨.move .look (.t 0), (some 17), none⟩,
    ⟨.indexAddr 1 (.t 17) (.c (.int .i64 1)), (some 18), none⟩,
    ⟨.load .look false 1 (.p 18), (some 19), none⟩,
    ⟨.convInt .i64 (.p 19), (some 20), none⟩,
    ⟨.bin .shl 1 true (.p 20) (.c (.int .u64 8)), (some 21), none⟩,
    ⟨.bin .or 1 false (.p 16) (.p 21), (some 22), none⟩,
    ⟨.move .look (.t 0), (some 23), none⟩,
    ⟨.indexAddr 1 (.t 23) (.c (.int .i64 2)), (some 24), none⟩,
    ⟨.load .look false 1 (.p 24), (some 25), none⟩,
    ⟨.convInt .i64 (.p 25), (some 26), none⟩,
    ⟨.bin .shl 1 true (.p 26) (.c (.int .u64 16)), (some 27), none⟩,
    ⟨.bin .or 1 false (.p 22) (.p 27), (some 28), none⟩,
    ⟨.move .look (.t 0), (some 29), none⟩,
    ⟨.indexAddr 1 (.t 29) (.c (.int .i64 3)), (some 30), none⟩,
    ⟨.load .look false 1 (.p 30), (some 31), none⟩,
    ⟨.convInt .i64 (.p 31), (some 32), none⟩,
    ⟨.bin .shl 1 true (.p 32) (.c (.int .u64 24)), (some 33), none⟩,
    ⟨.bin .or 1 false (.p 28) (.p 33), (some 34), none⟩,
    ⟨.move .look (.t 0), (some 35), none⟩,
    ⟨.indexAddr 1 (.t 35) (.c (.int .i64 4)), (some 36), none⟩,
    ⟨.load .look false 1 (.p 36), (some 37), none⟩,
    ⟨.convInt .i64 (.p 37), (some 38), none⟩,
    ⟨.bin .shl 1 true (.p 38) (.c (.int .u64 32)), (some 39), none⟩,
    ⟨.bin .or 1 false (.p 34) (.p 39), (some 40), none⟩,
    ⟨.move .look (.t 0), (some 41), none⟩,
    ⟨.indexAddr 1 (.t 41) (.c (.int .i64 5)), (some 42), none⟩,
    ⟨.load .look false 1 (.p 42), (some 43), none⟩,
    ⟨.convInt .i64 (.p 43), (some 44), none⟩,
    ⟨.bin .shl 1 true (.p 44) (.c (.int .u64 40)), (some 45), none⟩,
    ⟨.bin .or 1 false (.p 40) (.p 45), (some 46), none⟩,
    ⟨.move .look (.t 0), (some 47), none⟩,
    ⟨.indexAddr 1 (.t 47) (.c (.int .i64 6)), (some 48), none⟩,
    ⟨.load .look false 1 (.p 48), (some 49), none⟩,
    ⟨.convInt .i64 (.p 49), (some 50), none⟩,
    ⟨.bin .shl 1 true (.p 50) (.c (.int .u64 48)), (some 51), none⟩,
    ⟨.bin .or 1 false (.p 46) (.p 51), (some 52), none⟩,
    ⟨.move .look (.t 0), (some 53), none⟩,
    ⟨.indexAddr 1 (.t 53) (.c (.int .i64 7)), (some 54), none⟩,
    ⟨.load .look false 1 (.p 54), (some 55), none⟩,
    ⟨.convInt .i64 (.p 55), (some 56), none⟩,
    ⟨.bin .shl 1 true (.p 56) (.c (.int .u64 56)), (some 57), none⟩,
    ⟨.bin .or 1 false (.p 52) (.p 57), (some 58), none⟩,
    ⟨.assign (.p 58), (some 5), none⟩] k33_0 st := goC_ops
def k33_2 : ACode :=
  .ops [⟨.move .look (.t 0), (some 10), none⟩,
    ⟨.indexAddr 1 (.t 10) (.c (.int .i64 7)), (some 11), none⟩,
    ⟨.load .head false 1 (.p 11), (some 12), none⟩] k33_1
@[simp] theorem xk33_2 : GoC fns Q s k33_2 st ↔ GoO fns Q s [⟨.move .look (.t 0), (some 10), none⟩,
    ⟨.indexAddr 1 (.t 10) (.c (.int .i64 7)), (some 11), none⟩,
    ⟨.load .head false 1 (.p 11), (some 12), none⟩] k33_1 st := goC_ops
def k33_3 : ACode :=
  .ops [⟨.move .take (.t 0), (some 9), none⟩,
    ⟨.assign (.c (.int .i64 0)), (some 2), none⟩,
    ⟨.assign (.t 9), (some 3), none⟩,
    ⟨.assign (.c (.bool false)), (some 4), none⟩] .ret
@[simp] theorem xk33_3 : GoC fns Q s k33_3 st ↔ GoO fns Q s [⟨.move .take (.t 0), (some 9), none⟩,
    ⟨.assign (.c (.int .i64 0)), (some 2), none⟩,
    ⟨.assign (.t 9), (some 3), none⟩,
    ⟨.assign (.c (.bool false)), (some 4), none⟩] .ret st := goC_ops
def k33_4 : ACode :=
  .cond (.p 8) k33_3 .skip
@[simp] theorem xk33_4 : GoC fns Q s k33_4 st ↔ GB fns Q s (peek st (.p 8)) k33_3 .skip st := goC_cond
def k33_5 : ACode :=
  .seq k33_4 k33_2
@[simp] theorem xk33_5 : GoC fns Q s k33_5 st ↔ GoC fns Q (.sq k33_2 :: s) k33_4 st := goC_seq
def k33_6 : ACode :=
  .ops [⟨.move .head (.t 0), (some 6), none⟩,
    ⟨.len false (.p 6), (some 7), none⟩,
    ⟨.bin .lss 1 true (.p 7) (.c (.int .i64 8)), (some 8), none⟩] k33_5
@[simp] theorem xk33_6 : GoC fns Q s k33_6 st ↔ GoO fns Q s [⟨.move .head (.t 0), (some 6), none⟩,
    ⟨.len false (.p 6), (some 7), none⟩,
    ⟨.bin .lss 1 true (.p 7) (.c (.int .i64 8)), (some 8), none⟩] k33_5 st := goC_ops
def k33_7 : ACode :=
  .ops [⟨.assign (.c (.int .i64 0)), (some 2), none⟩,
    ⟨.assign (.c (.slice .nil 0 1 [])), (some 3), none⟩,
    ⟨.assign (.c (.bool false)), (some 4), none⟩] k33_6
@[simp] theorem xk33_7 : GoC fns Q s k33_7 st ↔ GoO fns Q s [⟨.assign (.c (.int .i64 0)), (some 2), none⟩,
    ⟨.assign (.c (.slice .nil 0 1 [])), (some 3), none⟩,
    ⟨.assign (.c (.bool false)), (some 4), none⟩] k33_6 st := goC_ops
def af33 : AFunc := ⟨62, k33_7, [.tmp 2, .tmp 3, .tmp 4]⟩

theorem ok33 : pFunc Try.prog sg Try.f33 = some af33 := by kernel_rfl
/-- No. 28 -/
def k28_0 : ACode :=
  .ops [⟨.move .look (.t 0), (some 5), none⟩,
    ⟨.call 33 [(.t 5, false)], (some 6), none⟩,
    ⟨.extract 6 0, (some 7), none⟩,
    ⟨.extract 6 1, (some 8), none⟩,
    ⟨.extract 6 2, (some 9), none⟩,
    ⟨.assign (.p 7), (some 2), none⟩,
    ⟨.assign (.t 8), (some 3), none⟩,
    ⟨.assign (.p 9), (some 4), none⟩] .ret
@[simp] theorem xk28_0 : GoC fns Q s k28_0 st ↔ GoO fns Q s [⟨.move .look (.t 0), (some 5), none⟩,
    ⟨.call 33 [(.t 5, false)], (some 6), none⟩,
    ⟨.extract 6 0, (some 7), none⟩,
    ⟨.extract 6 1, (some 8), none⟩,
    ⟨.extract 6 2, (some 9), none⟩,
    ⟨.assign (.p 7), (some 2), none⟩,
    ⟨.assign (.t 8), (some 3), none⟩,
    ⟨.assign (.p 9), (some 4), none⟩] .ret st := goC_ops
def k28_1 : ACode :=
  .ops [⟨.assign (.c (.int .i64 0)), (some 2), none⟩,
    ⟨.assign (.c (.slice .nil 0 1 [])), (some 3), none⟩,
    ⟨.assign (.c (.bool false)), (some 4), none⟩] k28_0
@[simp] theorem xk28_1 : GoC fns Q s k28_1 st ↔ GoO fns Q s [⟨.assign (.c (.int .i64 0)), (some 2), none⟩,
    ⟨.assign (.c (.slice .nil 0 1 [])), (some 3), none⟩,
    ⟨.assign (.c (.bool false)), (some 4), none⟩] k28_0 st := goC_ops
def af28 : AFunc := ⟨10, k28_1, [.tmp 2, .tmp 3, .tmp 4]⟩

theorem ok28 : pFunc Try.prog sg Try.f28 = some af28 := by kernel_rfl
/-- No. 16 -/
def k16_0 : ACode :=
  .ops [⟨.move .take (.p 4), (some 56), none⟩,
    ⟨.assign (.p 56), (some 2), none⟩,
    ⟨.assign (.c (.bool true)), (some 3), none⟩] .ret
@[simp] theorem xk16_0 : GoC fns Q s k16_0 st ↔ GoO fns Q s [⟨.move .take (.p 4), (some 56), none⟩,
    ⟨.assign (.p 56), (some 2), none⟩,
    ⟨.assign (.c (.bool true)), (some 3), none⟩] .ret st := goC_ops
def k16_1 : ACode :=
  .ops [⟨.move .look (.p 5), (some 28), none⟩,
    ⟨.dead, (some 29), none⟩,
    ⟨.assign (.p 29), (some 4), none⟩] .skip
@[simp] theorem xk16_1 : GoC fns Q s k16_1 st ↔ GoO fns Q s [⟨.move .look (.p 5), (some 28), none⟩,
    ⟨.dead, (some 29), none⟩,
    ⟨.assign (.p 29), (some 4), none⟩] .skip st := goC_ops
def k16_2 : ACode :=
  .ops [⟨.assign (.c (.int .i64 0)), (some 2), none⟩,
    ⟨.assign (.c (.bool false)), (some 3), none⟩] .ret
@[simp] theorem xk16_2 : GoC fns Q s k16_2 st ↔ GoO fns Q s [⟨.assign (.c (.int .i64 0)), (some 2), none⟩,
    ⟨.assign (.c (.bool false)), (some 3), none⟩] .ret st := goC_ops
def k16_3 : ACode :=
  .cond (.p 27) k16_2 .skip
@[simp] theorem xk16_3 : GoC fns Q s k16_3 st ↔ GB fns Q s (peek st (.p 27)) k16_2 .skip st := goC_cond
def k16_4 : ACode :=
  .seq k16_3 k16_1
@[simp] theorem xk16_4 : GoC fns Q s k16_4 st ↔ GoC fns Q (.sq k16_1 :: s) k16_3 st := goC_seq
def k16_5 : ACode :=
  .ops [⟨.move .look (.p 7), (some 26), none⟩,
    ⟨.un .not (.p 26), (some 27), none⟩] k16_4
@[simp] theorem xk16_5 : GoC fns Q s k16_5 st ↔ GoO fns Q s [⟨.move .look (.p 7), (some 26), none⟩,
    ⟨.un .not (.p 26), (some 27), none⟩] k16_4 st := goC_ops
def k16_6 : ACode :=
  .ops [⟨.fieldAddr 1 (.p 1), (some 20), none⟩,
    ⟨.load .look false 1 (.p 20), (some 21), none⟩,
    ⟨.call 26 [(.t 21, false)], (some 22), none⟩,
    ⟨.move .look (.t 22), (some 19), none⟩,
    ⟨.extract 19 0, (some 23), none⟩,
    ⟨.extract 19 1, (some 24), none⟩,
    ⟨.extract 19 2, (some 25), none⟩,
    ⟨.assign (.p 23), (some 5), none⟩,
    ⟨.assign (.t 24), (some 6), none⟩,
    ⟨.assign (.p 25), (some 7), none⟩] k16_5
@[simp] theorem xk16_6 : GoC fns Q s k16_6 st ↔ GoO fns Q s [⟨.fieldAddr 1 (.p 1), (some 20), none⟩,
    ⟨.load .look false 1 (.p 20), (some 21), none⟩,
    ⟨.call 26 [(.t 21, false)], (some 22), none⟩,
    ⟨.move .look (.t 22), (some 19), none⟩,
    ⟨.extract 19 0, (some 23), none⟩,
    ⟨.extract 19 1, (some 24), none⟩,
    ⟨.extract 19 2, (some 25), none⟩,
    ⟨.assign (.p 23), (some 5), none⟩,
    ⟨.assign (.t 24), (some 6), none⟩,
    ⟨.assign (.p 25), (some 7), none⟩] k16_5 st := goC_ops
def k16_7 : ACode :=
  .ops [⟨.move .look (.p 8), (some 41), none⟩,
    ⟨.convInt .i64 (.p 41), (some 42), none⟩,
    ⟨.assign (.p 42), (some 4), none⟩] .skip
@[simp] theorem xk16_7 : GoC fns Q s k16_7 st ↔ GoO fns Q s [⟨.move .look (.p 8), (some 41), none⟩,
    ⟨.convInt .i64 (.p 41), (some 42), none⟩,
    ⟨.assign (.p 42), (some 4), none⟩] .skip st := goC_ops
def k16_8 : ACode :=
  .ops [⟨.assign (.c (.int .i64 0)), (some 2), none⟩,
    ⟨.assign (.c (.bool false)), (some 3), none⟩] .ret
@[simp] theorem xk16_8 : GoC fns Q s k16_8 st ↔ GoO fns Q s [⟨.assign (.c (.int .i64 0)), (some 2), none⟩,
    ⟨.assign (.c (.bool false)), (some 3), none⟩] .ret st := goC_ops
def k16_9 : ACode :=
  .cond (.p 40) k16_8 .skip
@[simp] theorem xk16_9 : GoC fns Q s k16_9 st ↔ GB fns Q s (peek st (.p 40)) k16_8 .skip st := goC_cond
def k16_10 : ACode :=
  .seq k16_9 k16_7
@[simp] theorem xk16_10 : GoC fns Q s k16_10 st ↔ GoC fns Q (.sq k16_7 :: s) k16_9 st := goC_seq
def k16_11 : ACode :=
  .ops [⟨.move .look (.p 10), (some 39), none⟩,
    ⟨.un .not (.p 39), (some 40), none⟩] k16_10
@[simp] theorem xk16_11 : GoC fns Q s k16_11 st ↔ GoO fns Q s [⟨.move .look (.p 10), (some 39), none⟩,
    ⟨.un .not (.p 39), (some 40), none⟩] k16_10 st := goC_ops
def k16_12 : ACode :=
  .ops [⟨.fieldAddr 1 (.p 1), (some 33), none⟩,
    ⟨.load .look false 1 (.p 33), (some 34), none⟩,
    ⟨.call 27 [(.t 34, false)], (some 35), none⟩,
    ⟨.move .look (.t 35), (some 32), none⟩,
    ⟨.extract 32 0, (some 36), none⟩,
    ⟨.extract 32 1, (some 37), none⟩,
    ⟨.extract 32 2, (some 38), none⟩,
    ⟨.assign (.p 36), (some 8), none⟩,
    ⟨.assign (.t 37), (some 9), none⟩,
    ⟨.assign (.p 38), (some 10), none⟩] k16_11
@[simp] theorem xk16_12 : GoC fns Q s k16_12 st ↔ GoO fns Q s [⟨.fieldAddr 1 (.p 1), (some 33), none⟩,
    ⟨.load .look false 1 (.p 33), (some 34), none⟩,
    ⟨.call 27 [(.t 34, false)], (some 35), none⟩,
    ⟨.move .look (.t 35), (some 32), none⟩,
    ⟨.extract 32 0, (some 36), none⟩,
    ⟨.extract 32 1, (some 37), none⟩,
    ⟨.extract 32 2, (some 38), none⟩,
    ⟨.assign (.p 36), (some 8), none⟩,
    ⟨.assign (.t 37), (some 9), none⟩,
    ⟨.assign (.p 38), (some 10), none⟩] k16_11 st := goC_ops
def k16_13 : ACode :=
  .ops [⟨.assign (.c (.int .i64 0)), (some 2), none⟩,
    ⟨.assign (.c (.bool false)), (some 3), none⟩] .ret
@[simp] theorem xk16_13 : GoC fns Q s k16_13 st ↔ GoO fns Q s [⟨.assign (.c (.int .i64 0)), (some 2), none⟩,
    ⟨.assign (.c (.bool false)), (some 3), none⟩] .ret st := goC_ops
def k16_14 : ACode :=
  .cond (.p 53) k16_13 .skip
@[simp] theorem xk16_14 : GoC fns Q s k16_14 st ↔ GB fns Q s (peek st (.p 53)) k16_13 .skip st := goC_cond
def k16_15 : ACode :=
  .ops [⟨.move .look (.p 11), (some 52), none⟩,
    ⟨.un .not (.p 52), (some 53), none⟩] k16_14
@[simp] theorem xk16_15 : GoC fns Q s k16_15 st ↔ GoO fns Q s [⟨.move .look (.p 11), (some 52), none⟩,
    ⟨.un .not (.p 52), (some 53), none⟩] k16_14 st := goC_ops
def k16_16 : ACode :=
  .ops [⟨.fieldAddr 1 (.p 1), (some 46), none⟩,
    ⟨.load .look false 1 (.p 46), (some 47), none⟩,
    ⟨.call 28 [(.t 47, false)], (some 48), none⟩,
    ⟨.move .look (.t 48), (some 45), none⟩,
    ⟨.extract 45 0, (some 49), none⟩,
    ⟨.extract 45 1, (some 50), none⟩,
    ⟨.extract 45 2, (some 51), none⟩,
    ⟨.assign (.p 49), (some 4), none⟩,
    ⟨.assign (.p 51), (some 11), none⟩] k16_15
@[simp] theorem xk16_16 : GoC fns Q s k16_16 st ↔ GoO fns Q s [⟨.fieldAddr 1 (.p 1), (some 46), none⟩,
    ⟨.load .look false 1 (.p 46), (some 47), none⟩,
    ⟨.call 28 [(.t 47, false)], (some 48), none⟩,
    ⟨.move .look (.t 48), (some 45), none⟩,
    ⟨.extract 45 0, (some 49), none⟩,
    ⟨.extract 45 1, (some 50), none⟩,
    ⟨.extract 45 2, (some 51), none⟩,
    ⟨.assign (.p 49), (some 4), none⟩,
    ⟨.assign (.p 51), (some 11), none⟩] k16_15 st := goC_ops
def k16_17 : ACode :=
  .ops [⟨.assign (.c (.bool false)), (some 11), none⟩] k16_16
@[simp] theorem xk16_17 : GoC fns Q s k16_17 st ↔ GoO fns Q s [⟨.assign (.c (.bool false)), (some 11), none⟩] k16_16 st := goC_ops
def k16_18 : ACode :=
  .ops [⟨.assign (.c (.int .i64 0)), (some 2), none⟩,
    ⟨.assign (.c (.bool false)), (some 3), none⟩] .ret
@[simp] theorem xk16_18 : GoC fns Q s k16_18 st ↔ GoO fns Q s [⟨.assign (.c (.int .i64 0)), (some 2), none⟩,
    ⟨.assign (.c (.bool false)), (some 3), none⟩] .ret st := goC_ops
def k16_19 : ACode :=
  .cond (.p 54) k16_18 .skip
@[simp] theorem xk16_19 : GoC fns Q s k16_19 st ↔ GB fns Q s (peek st (.p 54)) k16_18 .skip st := goC_cond
def k16_20 : ACode :=
  .ops [⟨.bin .eql 1 true (.p 16) (.c (.int .u8 19)), (some 55), none⟩,
    ⟨.assign (.p 55), (some 54), none⟩] k16_19
@[simp] theorem xk16_20 : GoC fns Q s k16_20 st ↔ GoO fns Q s [⟨.bin .eql 1 true (.p 16) (.c (.int .u8 19)), (some 55), none⟩,
    ⟨.assign (.p 55), (some 54), none⟩] k16_19 st := goC_ops
def k16_21 : ACode :=
  .cond (.p 43) k16_17 k16_20
@[simp] theorem xk16_21 : GoC fns Q s k16_21 st ↔ GB fns Q s (peek st (.p 43)) k16_17 k16_20 st := goC_cond
def k16_22 : ACode :=
  .ops [⟨.bin .eql 1 true (.p 16) (.c (.int .u8 18)), (some 44), none⟩,
    ⟨.assign (.p 44), (some 43), none⟩] k16_21
@[simp] theorem xk16_22 : GoC fns Q s k16_22 st ↔ GoO fns Q s [⟨.bin .eql 1 true (.p 16) (.c (.int .u8 18)), (some 44), none⟩,
    ⟨.assign (.p 44), (some 43), none⟩] k16_21 st := goC_ops
def k16_23 : ACode :=
  .cond (.p 30) k16_12 k16_22
@[simp] theorem xk16_23 : GoC fns Q s k16_23 st ↔ GB fns Q s (peek st (.p 30)) k16_12 k16_22 st := goC_cond
def k16_24 : ACode :=
  .ops [⟨.bin .eql 1 true (.p 16) (.c (.int .u8 16)), (some 31), none⟩,
    ⟨.assign (.p 31), (some 30), none⟩] k16_23
@[simp] theorem xk16_24 : GoC fns Q s k16_24 st ↔ GoO fns Q s [⟨.bin .eql 1 true (.p 16) (.c (.int .u8 16)), (some 31), none⟩,
    ⟨.assign (.p 31), (some 30), none⟩] k16_23 st := goC_ops
def k16_25 : ACode :=
  .cond (.p 17) k16_6 k16_24
@[simp] theorem xk16_25 : GoC fns Q s k16_25 st ↔ GB fns Q s (peek st (.p 17)) k16_6 k16_24 st := goC_cond
def k16_26 : ACode :=
  .ops [⟨.bin .eql 1 true (.p 16) (.c (.int .u8 1)), (some 18), none⟩,
    ⟨.assign (.p 18), (some 17), none⟩] k16_25
@[simp] theorem xk16_26 : GoC fns Q s k16_26 st ↔ GoO fns Q s [⟨.bin .eql 1 true (.p 16) (.c (.int .u8 1)), (some 18), none⟩,
    ⟨.assign (.p 18), (some 17), none⟩] k16_25 st := goC_ops
def k16_27 : ACode :=
  .block 0 k16_26
@[simp] theorem xk16_27 : GoC fns Q s k16_27 st ↔ GoC fns Q (.bl 0 :: s) k16_26 st := goC_block
def k16_28 : ACode :=
  .seq k16_27 k16_0
@[simp] theorem xk16_28 : GoC fns Q s k16_28 st ↔ GoC fns Q (.sq k16_0 :: s) k16_27 st := goC_seq
def k16_29 : ACode :=
  .ops [⟨.fieldAddr 0 (.p 1), (some 15), none⟩,
    ⟨.load .head false 1 (.p 15), (some 16), none⟩] k16_28
@[simp] theorem xk16_29 : GoC fns Q s k16_29 st ↔ GoO fns Q s [⟨.fieldAddr 0 (.p 1), (some 15), none⟩,
    ⟨.load .head false 1 (.p 15), (some 16), none⟩] k16_28 st := goC_ops
def k16_30 : ACode :=
  .ops [⟨.assign (.c (.int .i64 0)), (some 4), none⟩] k16_29
@[simp] theorem xk16_30 : GoC fns Q s k16_30 st ↔ GoO fns Q s [⟨.assign (.c (.int .i64 0)), (some 4), none⟩] k16_29 st := goC_ops
def k16_31 : ACode :=
  .ops [⟨.assign (.c (.int .i64 0)), (some 2), none⟩,
    ⟨.assign (.c (.bool false)), (some 3), none⟩] .ret
@[simp] theorem xk16_31 : GoC fns Q s k16_31 st ↔ GoO fns Q s [⟨.assign (.c (.int .i64 0)), (some 2), none⟩,
    ⟨.assign (.c (.bool false)), (some 3), none⟩] .ret st := goC_ops
def k16_32 : ACode :=
  .cond (.p 14) k16_31 .skip
@[simp] theorem xk16_32 : GoC fns Q s k16_32 st ↔ GB fns Q s (peek st (.p 14)) k16_31 .skip st := goC_cond
def k16_33 : ACode :=
  .seq k16_32 k16_30
@[simp] theorem xk16_33 : GoC fns Q s k16_33 st ↔ GoC fns Q (.sq k16_30 :: s) k16_32 st := goC_seq
def k16_34 : ACode :=
  .ops [⟨.load .look true 2 (.p 1), (some 12), none⟩,
    ⟨.call 25 [(.p 12, false)], (some 13), none⟩,
    ⟨.un .not (.p 13), (some 14), none⟩] k16_33
@[simp] theorem xk16_34 : GoC fns Q s k16_34 st ↔ GoO fns Q s [⟨.load .look true 2 (.p 1), (some 12), none⟩,
    ⟨.call 25 [(.p 12, false)], (some 13), none⟩,
    ⟨.un .not (.p 13), (some 14), none⟩] k16_33 st := goC_ops
def k16_35 : ACode :=
  .ops [⟨.box 1 (.p 0), (some 1), none⟩,
    ⟨.assign (.c (.int .i64 0)), (some 2), none⟩,
    ⟨.assign (.c (.bool false)), (some 3), none⟩] k16_34
@[simp] theorem xk16_35 : GoC fns Q s k16_35 st ↔ GoO fns Q s [⟨.box 1 (.p 0), (some 1), none⟩,
    ⟨.assign (.c (.int .i64 0)), (some 2), none⟩,
    ⟨.assign (.c (.bool false)), (some 3), none⟩] k16_34 st := goC_ops
def af16 : AFunc := ⟨57, k16_35, [.tmp 2, .tmp 3]⟩

theorem ok16 : pFunc Try.prog sg Try.f16 = some af16 := by kernel_rfl
/-- No. 12 -/
def k12_0 : ACode :=
  .ops [⟨.load .look true 2 (.p 1), (some 4), none⟩,
    ⟨.call 15 [(.p 4, false)], (some 5), none⟩,
    ⟨.call 16 [(.p 5, false)], (some 6), none⟩,
    ⟨.extract 6 0, (some 7), none⟩,
    ⟨.extract 6 1, (some 8), none⟩,
    ⟨.assign (.p 7), (some 2), none⟩,
    ⟨.assign (.p 8), (some 3), none⟩] .ret
@[simp] theorem xk12_0 : GoC fns Q s k12_0 st ↔ GoO fns Q s [⟨.load .look true 2 (.p 1), (some 4), none⟩,
    ⟨.call 15 [(.p 4, false)], (some 5), none⟩,
    ⟨.call 16 [(.p 5, false)], (some 6), none⟩,
    ⟨.extract 6 0, (some 7), none⟩,
    ⟨.extract 6 1, (some 8), none⟩,
    ⟨.assign (.p 7), (some 2), none⟩,
    ⟨.assign (.p 8), (some 3), none⟩] .ret st := goC_ops
def k12_1 : ACode :=
  .ops [⟨.box 1 (.p 0), (some 1), none⟩,
    ⟨.assign (.c (.int .i64 0)), (some 2), none⟩,
    ⟨.assign (.c (.bool false)), (some 3), none⟩] k12_0
@[simp] theorem xk12_1 : GoC fns Q s k12_1 st ↔ GoO fns Q s [⟨.box 1 (.p 0), (some 1), none⟩,
    ⟨.assign (.c (.int .i64 0)), (some 2), none⟩,
    ⟨.assign (.c (.bool false)), (some 3), none⟩] k12_0 st := goC_ops
def af12 : AFunc := ⟨9, k12_1, [.tmp 2, .tmp 3]⟩

theorem ok12 : pFunc Try.prog sg Try.f12 = some af12 := by kernel_rfl
/-- No. 6 -/
def k6_0 : ACode :=
  .ops [⟨.load .look true 2 (.p 1), (some 4), none⟩,
    ⟨.call 11 [(.p 4, false)], (some 5), none⟩,
    ⟨.call 12 [(.p 5, false)], (some 6), none⟩,
    ⟨.extract 6 0, (some 7), none⟩,
    ⟨.extract 6 1, (some 8), none⟩,
    ⟨.assign (.p 7), (some 2), none⟩,
    ⟨.assign (.p 8), (some 3), none⟩] .ret
@[simp] theorem xk6_0 : GoC fns Q s k6_0 st ↔ GoO fns Q s [⟨.load .look true 2 (.p 1), (some 4), none⟩,
    ⟨.call 11 [(.p 4, false)], (some 5), none⟩,
    ⟨.call 12 [(.p 5, false)], (some 6), none⟩,
    ⟨.extract 6 0, (some 7), none⟩,
    ⟨.extract 6 1, (some 8), none⟩,
    ⟨.assign (.p 7), (some 2), none⟩,
    ⟨.assign (.p 8), (some 3), none⟩] .ret st := goC_ops
def k6_1 : ACode :=
  .ops [⟨.box 1 (.p 0), (some 1), none⟩,
    ⟨.assign (.c (.int .i64 0)), (some 2), none⟩,
    ⟨.assign (.c (.bool false)), (some 3), none⟩] k6_0
@[simp] theorem xk6_1 : GoC fns Q s k6_1 st ↔ GoO fns Q s [⟨.box 1 (.p 0), (some 1), none⟩,
    ⟨.assign (.c (.int .i64 0)), (some 2), none⟩,
    ⟨.assign (.c (.bool false)), (some 3), none⟩] k6_0 st := goC_ops
def af6 : AFunc := ⟨9, k6_1, [.tmp 2, .tmp 3]⟩

theorem ok6 : pFunc Try.prog sg Try.f6 = some af6 := by kernel_rfl
/-- No. 3 -/
def k3_0 : ACode :=
  .ops [⟨.move .look (.p 4), (some 37), none⟩,
    ⟨.move .look (.p 37), (some 38), none⟩,
    ⟨.move .head (.p 3), (some 39), (some (38, true))⟩,
    ⟨.fieldAddr 3 (.p 1), (some 40), (some (38, true))⟩,
    ⟨.load .head false 1 (.p 40), (some 41), (some (38, true))⟩,
    ⟨.bin .eql 1 false (.p 39) (.p 41), (some 42), (some (38, true))⟩,
    ⟨.pick (.p 38) (.p 42) (.c (.bool false)), (some 43), none⟩,
    ⟨.assign (.p 43), (some 2), none⟩] .ret
@[simp] theorem xk3_0 : GoC fns Q s k3_0 st ↔ GoO fns Q s [⟨.move .look (.p 4), (some 37), none⟩,
    ⟨.move .look (.p 37), (some 38), none⟩,
    ⟨.move .head (.p 3), (some 39), (some (38, true))⟩,
    ⟨.fieldAddr 3 (.p 1), (some 40), (some (38, true))⟩,
    ⟨.load .head false 1 (.p 40), (some 41), (some (38, true))⟩,
    ⟨.bin .eql 1 false (.p 39) (.p 41), (some 42), (some (38, true))⟩,
    ⟨.pick (.p 38) (.p 42) (.c (.bool false)), (some 43), none⟩,
    ⟨.assign (.p 43), (some 2), none⟩] .ret st := goC_ops
def k3_1 : ACode :=
  .ops [⟨.move .look (.p 4), (some 35), none⟩,
    ⟨.un .not (.p 35), (some 36), none⟩,
    ⟨.assign (.p 36), (some 2), none⟩] .ret
@[simp] theorem xk3_1 : GoC fns Q s k3_1 st ↔ GoO fns Q s [⟨.move .look (.p 4), (some 35), none⟩,
    ⟨.un .not (.p 35), (some 36), none⟩,
    ⟨.assign (.p 36), (some 2), none⟩] .ret st := goC_ops
def k3_2 : ACode :=
  .cond (.p 34) k3_1 .skip
@[simp] theorem xk3_2 : GoC fns Q s k3_2 st ↔ GB fns Q s (peek st (.p 34)) k3_1 .skip st := goC_cond
def k3_3 : ACode :=
  .seq k3_2 k3_0
@[simp] theorem xk3_3 : GoC fns Q s k3_3 st ↔ GoC fns Q (.sq k3_0 :: s) k3_2 st := goC_seq
def k3_4 : ACode :=
  .ops [⟨.fieldAddr 0 (.p 1), (some 27), none⟩,
    ⟨.load .head false 1 (.p 27), (some 28), none⟩,
    ⟨.bin .neq 1 true (.p 28) (.c (.int .i64 16)), (some 29), none⟩,
    ⟨.move .look (.p 29), (some 30), none⟩,
    ⟨.fieldAddr 0 (.p 1), (some 31), (some (30, true))⟩,
    ⟨.load .head false 1 (.p 31), (some 32), (some (30, true))⟩,
    ⟨.bin .neq 1 true (.p 32) (.c (.int .i64 18)), (some 33), (some (30, true))⟩,
    ⟨.pick (.p 30) (.p 33) (.c (.bool false)), (some 34), none⟩] k3_3
@[simp] theorem xk3_4 : GoC fns Q s k3_4 st ↔ GoO fns Q s [⟨.fieldAddr 0 (.p 1), (some 27), none⟩,
    ⟨.load .head false 1 (.p 27), (some 28), none⟩,
    ⟨.bin .neq 1 true (.p 28) (.c (.int .i64 16)), (some 29), none⟩,
    ⟨.move .look (.p 29), (some 30), none⟩,
    ⟨.fieldAddr 0 (.p 1), (some 31), (some (30, true))⟩,
    ⟨.load .head false 1 (.p 31), (some 32), (some (30, true))⟩,
    ⟨.bin .neq 1 true (.p 32) (.c (.int .i64 18)), (some 33), (some (30, true))⟩,
    ⟨.pick (.p 30) (.p 33) (.c (.bool false)), (some 34), none⟩] k3_3 st := goC_ops
def k3_5 : ACode :=
  .ops [⟨.load .look true 8 (.p 1), (some 22), none⟩,
    ⟨.call 7 [(.p 22, false)], (some 23), none⟩,
    ⟨.call 6 [(.p 23, false)], (some 24), none⟩,
    ⟨.move .look (.t 24), (some 21), none⟩,
    ⟨.extract 21 0, (some 25), none⟩,
    ⟨.extract 21 1, (some 26), none⟩,
    ⟨.assign (.p 25), (some 3), none⟩,
    ⟨.assign (.p 26), (some 4), none⟩] k3_4
@[simp] theorem xk3_5 : GoC fns Q s k3_5 st ↔ GoO fns Q s [⟨.load .look true 8 (.p 1), (some 22), none⟩,
    ⟨.call 7 [(.p 22, false)], (some 23), none⟩,
    ⟨.call 6 [(.p 23, false)], (some 24), none⟩,
    ⟨.move .look (.t 24), (some 21), none⟩,
    ⟨.extract 21 0, (some 25), none⟩,
    ⟨.extract 21 1, (some 26), none⟩,
    ⟨.assign (.p 25), (some 3), none⟩,
    ⟨.assign (.p 26), (some 4), none⟩] k3_4 st := goC_ops
def k3_6 : ACode :=
  .ops [⟨.assign (.c (.bool true)), (some 2), none⟩] .ret
@[simp] theorem xk3_6 : GoC fns Q s k3_6 st ↔ GoO fns Q s [⟨.assign (.c (.bool true)), (some 2), none⟩] .ret st := goC_ops
def k3_7 : ACode :=
  .cond (.p 20) k3_6 .skip
@[simp] theorem xk3_7 : GoC fns Q s k3_7 st ↔ GB fns Q s (peek st (.p 20)) k3_6 .skip st := goC_cond
def k3_8 : ACode :=
  .seq k3_7 k3_5
@[simp] theorem xk3_8 : GoC fns Q s k3_8 st ↔ GoC fns Q (.sq k3_5 :: s) k3_7 st := goC_seq
def k3_9 : ACode :=
  .ops [⟨.load .look true 8 (.p 1), (some 8), none⟩,
    ⟨.call 5 [(.p 8, false)], (some 9), none⟩,
    ⟨.un .not (.p 9), (some 10), none⟩,
    ⟨.move .look (.p 10), (some 11), none⟩,
    ⟨.fieldAddr 0 (.p 1), (some 12), (some (11, false))⟩,
    ⟨.load .head false 1 (.p 12), (some 13), (some (11, false))⟩,
    ⟨.bin .eql 1 true (.p 13) (.c (.int .i64 1)), (some 14), (some (11, false))⟩,
    ⟨.pick (.p 11) (.c (.bool true)) (.p 14), (some 15), none⟩,
    ⟨.move .look (.p 15), (some 16), none⟩,
    ⟨.fieldAddr 0 (.p 1), (some 17), (some (16, false))⟩,
    ⟨.load .head false 1 (.p 17), (some 18), (some (16, false))⟩,
    ⟨.bin .eql 1 true (.p 18) (.c (.int .i64 19)), (some 19), (some (16, false))⟩,
    ⟨.pick (.p 16) (.c (.bool true)) (.p 19), (some 20), none⟩] k3_8
@[simp] theorem xk3_9 : GoC fns Q s k3_9 st ↔ GoO fns Q s [⟨.load .look true 8 (.p 1), (some 8), none⟩,
    ⟨.call 5 [(.p 8, false)], (some 9), none⟩,
    ⟨.un .not (.p 9), (some 10), none⟩,
    ⟨.move .look (.p 10), (some 11), none⟩,
    ⟨.fieldAddr 0 (.p 1), (some 12), (some (11, false))⟩,
    ⟨.load .head false 1 (.p 12), (some 13), (some (11, false))⟩,
    ⟨.bin .eql 1 true (.p 13) (.c (.int .i64 1)), (some 14), (some (11, false))⟩,
    ⟨.pick (.p 11) (.c (.bool true)) (.p 14), (some 15), none⟩,
    ⟨.move .look (.p 15), (some 16), none⟩,
    ⟨.fieldAddr 0 (.p 1), (some 17), (some (16, false))⟩,
    ⟨.load .head false 1 (.p 17), (some 18), (some (16, false))⟩,
    ⟨.bin .eql 1 true (.p 18) (.c (.int .i64 19)), (some 19), (some (16, false))⟩,
    ⟨.pick (.p 16) (.c (.bool true)) (.p 19), (some 20), none⟩] k3_8 st := goC_ops
def k3_10 : ACode :=
  .ops [⟨.assign (.c (.bool true)), (some 2), none⟩] .ret
@[simp] theorem xk3_10 : GoC fns Q s k3_10 st ↔ GoO fns Q s [⟨.assign (.c (.bool true)), (some 2), none⟩] .ret st := goC_ops
def k3_11 : ACode :=
  .cond (.p 7) k3_10 .skip
@[simp] theorem xk3_11 : GoC fns Q s k3_11 st ↔ GB fns Q s (peek st (.p 7)) k3_10 .skip st := goC_cond
def k3_12 : ACode :=
  .seq k3_11 k3_9
@[simp] theorem xk3_12 : GoC fns Q s k3_12 st ↔ GoC fns Q (.sq k3_9 :: s) k3_11 st := goC_seq
def k3_13 : ACode :=
  .ops [⟨.load .look true 8 (.p 1), (some 5), none⟩,
    ⟨.call 4 [(.p 5, false)], (some 6), none⟩,
    ⟨.un .not (.p 6), (some 7), none⟩] k3_12
@[simp] theorem xk3_13 : GoC fns Q s k3_13 st ↔ GoO fns Q s [⟨.load .look true 8 (.p 1), (some 5), none⟩,
    ⟨.call 4 [(.p 5, false)], (some 6), none⟩,
    ⟨.un .not (.p 6), (some 7), none⟩] k3_12 st := goC_ops
def k3_14 : ACode :=
  .ops [⟨.box 1 (.p 0), (some 1), none⟩,
    ⟨.assign (.c (.bool false)), (some 2), none⟩] k3_13
@[simp] theorem xk3_14 : GoC fns Q s k3_14 st ↔ GoO fns Q s [⟨.box 1 (.p 0), (some 1), none⟩,
    ⟨.assign (.c (.bool false)), (some 2), none⟩] k3_13 st := goC_ops
def af3 : AFunc := ⟨44, k3_14, [.tmp 2]⟩

theorem ok3 : pFunc Try.prog sg Try.f3 = some af3 := by kernel_rfl
end
def fns : FuncId → Option AFunc
  | 4 => some af4
  | 8 => some af8
  | 21 => some af21
  | 22 => some af22
  | 23 => some af23
  | 24 => some af24
  | 14 => some af14
  | 9 => some af9
  | 10 => some af10
  | 5 => some af5
  | 17 => some af17
  | 20 => some af20
  | 18 => some af18
  | 34 => some af34
  | 29 => some af29
  | 19 => some af19
  | 13 => some af13
  | 7 => some af7
  | 11 => some af11
  | 15 => some af15
  | 25 => some af25
  | 35 => some af35
  | 30 => some af30
  | 26 => some af26
  | 32 => some af32
  | 27 => some af27
  | 33 => some af33
  | 28 => some af28
  | 16 => some af16
  | 12 => some af12
  | 6 => some af6
  | 3 => some af3
  | _ => none
theorem run4 {vs : List AV} (hl : vs.length ≤ 19) {r : AV} (h : GoC fns (fun e => xends [.tmp 2] e = some r) [] k4_17 ⟨fun j => (vs[j]?).getD .undef, fun _ => none⟩) : callω fns 4 vs = some r :=
  callω_run fns (af := af4) rfl rfl rfl hl h
theorem run8 {vs : List AV} (hl : vs.length ≤ 32) {r : AV} (h : GoC fns (fun e => xends [.tmp 4] e = some r) [] k8_14 ⟨fun j => (vs[j]?).getD .undef, fun _ => none⟩) : callω fns 8 vs = some r :=
  callω_run fns (af := af8) rfl rfl rfl hl h
theorem run21 {vs : List AV} (hl : vs.length ≤ 17) {r : AV} (h : GoC fns (fun e => xends [.tmp 2] e = some r) [] k21_1 ⟨fun j => (vs[j]?).getD .undef, fun _ => none⟩) : callω fns 21 vs = some r :=
  callω_run fns (af := af21) rfl rfl rfl hl h
theorem run22 {vs : List AV} (hl : vs.length ≤ 48) {r : AV} (h : GoC fns (fun e => xends [.cell 2 true 8] e = some r) [] k22_52 ⟨fun j => (vs[j]?).getD .undef, fun _ => none⟩) : callω fns 22 vs = some r :=
  callω_run fns (af := af22) rfl rfl rfl hl h
theorem run23 {vs : List AV} (hl : vs.length ≤ 14) {r : AV} (h : GoC fns (fun e => xends [.tmp 2] e = some r) [] k23_15 ⟨fun j => (vs[j]?).getD .undef, fun _ => none⟩) : callω fns 23 vs = some r :=
  callω_run fns (af := af23) rfl rfl rfl hl h
theorem run24 {vs : List AV} (hl : vs.length ≤ 20) {r : AV} (h : GoC fns (fun e => xends [.tmp 2] e = some r) [] k24_5 ⟨fun j => (vs[j]?).getD .undef, fun _ => none⟩) : callω fns 24 vs = some r :=
  callω_run fns (af := af24) rfl rfl rfl hl h
theorem run14 {vs : List AV} (hl : vs.length ≤ 138) {r : AV} (h : GoC fns (fun e => xends [.tmp 4] e = some r) [] k14_46 ⟨fun j => (vs[j]?).getD .undef, fun _ => none⟩) : callω fns 14 vs = some r :=
  callω_run fns (af := af14) rfl rfl rfl hl h
theorem run9 {vs : List AV} (hl : vs.length ≤ 5) {r : AV} (h : GoC fns (fun e => xends [.tmp 2] e = some r) [] k9_1 ⟨fun j => (vs[j]?).getD .undef, fun _ => none⟩) : callω fns 9 vs = some r :=
  callω_run fns (af := af9) rfl rfl rfl hl h
theorem run10 {vs : List AV} (hl : vs.length ≤ 41) {r : AV} (h : GoC fns (fun e => xends [.tmp 2] e = some r) [] k10_14 ⟨fun j => (vs[j]?).getD .undef, fun _ => none⟩) : callω fns 10 vs = some r :=
  callω_run fns (af := af10) rfl rfl rfl hl h
theorem run5 {vs : List AV} (hl : vs.length ≤ 15) {r : AV} (h : GoC fns (fun e => xends [.tmp 2] e = some r) [] k5_1 ⟨fun j => (vs[j]?).getD .undef, fun _ => none⟩) : callω fns 5 vs = some r :=
  callω_run fns (af := af5) rfl rfl rfl hl h
theorem run17 {vs : List AV} (hl : vs.length ≤ 18) {r : AV} (h : GoC fns (fun e => xends [.tmp 4] e = some r) [] k17_13 ⟨fun j => (vs[j]?).getD .undef, fun _ => none⟩) : callω fns 17 vs = some r :=
  callω_run fns (af := af17) rfl rfl rfl hl h
theorem run20 {vs : List AV} (hl : vs.length ≤ 19) {r : AV} (h : GoC fns (fun e => xends [.tmp 4] e = some r) [] k20_1 ⟨fun j => (vs[j]?).getD .undef, fun _ => none⟩) : callω fns 20 vs = some r :=
  callω_run fns (af := af20) rfl rfl rfl hl h
theorem run18 {vs : List AV} (hl : vs.length ≤ 16) {r : AV} (h : GoC fns (fun e => xends [.tmp 4] e = some r) [] k18_3 ⟨fun j => (vs[j]?).getD .undef, fun _ => none⟩) : callω fns 18 vs = some r :=
  callω_run fns (af := af18) rfl rfl rfl hl h
theorem run34 {vs : List AV} (hl : vs.length ≤ 14) {r : AV} (h : GoC fns (fun e => xends [.tmp 4] e = some r) [] k34_2 ⟨fun j => (vs[j]?).getD .undef, fun _ => none⟩) : callω fns 34 vs = some r :=
  callω_run fns (af := af34) rfl rfl rfl hl h
theorem run29 {vs : List AV} (hl : vs.length ≤ 13) {r : AV} (h : GoC fns (fun e => xends [.tmp 2] e = some r) [] k29_1 ⟨fun j => (vs[j]?).getD .undef, fun _ => none⟩) : callω fns 29 vs = some r :=
  callω_run fns (af := af29) rfl rfl rfl hl h
theorem run19 {vs : List AV} (hl : vs.length ≤ 29) {r : AV} (h : GoC fns (fun e => xends [.tmp 2] e = some r) [] k19_16 ⟨fun j => (vs[j]?).getD .undef, fun _ => none⟩) : callω fns 19 vs = some r :=
  callω_run fns (af := af19) rfl rfl rfl hl h
theorem run13 {vs : List AV} (hl : vs.length ≤ 148) {r : AV} (h : GoC fns (fun e => xends [.tmp 2] e = some r) [] k13_73 ⟨fun j => (vs[j]?).getD .undef, fun _ => none⟩) : callω fns 13 vs = some r :=
  callω_run fns (af := af13) rfl rfl rfl hl h
theorem run7 {vs : List AV} (hl : vs.length ≤ 8) {r : AV} (h : GoC fns (fun e => xends [.cell 2 true 2] e = some r) [] k7_1 ⟨fun j => (vs[j]?).getD .undef, fun _ => none⟩) : callω fns 7 vs = some r :=
  callω_run fns (af := af7) rfl rfl rfl hl h
theorem run11 {vs : List AV} (hl : vs.length ≤ 9) {r : AV} (h : GoC fns (fun e => xends [.cell 2 true 2] e = some r) [] k11_1 ⟨fun j => (vs[j]?).getD .undef, fun _ => none⟩) : callω fns 11 vs = some r :=
  callω_run fns (af := af11) rfl rfl rfl hl h
theorem run15 {vs : List AV} (hl : vs.length ≤ 8) {r : AV} (h : GoC fns (fun e => xends [.cell 2 true 2] e = some r) [] k15_1 ⟨fun j => (vs[j]?).getD .undef, fun _ => none⟩) : callω fns 15 vs = some r :=
  callω_run fns (af := af15) rfl rfl rfl hl h
theorem run25 {vs : List AV} (hl : vs.length ≤ 10) {r : AV} (h : GoC fns (fun e => xends [.tmp 2] e = some r) [] k25_14 ⟨fun j => (vs[j]?).getD .undef, fun _ => none⟩) : callω fns 25 vs = some r :=
  callω_run fns (af := af25) rfl rfl rfl hl h
theorem run35 {vs : List AV} (hl : vs.length ≤ 54) {r : AV} (h : GoC fns (fun e => xends [.tmp 4] e = some r) [] k35_2 ⟨fun j => (vs[j]?).getD .undef, fun _ => none⟩) : callω fns 35 vs = some r :=
  callω_run fns (af := af35) rfl rfl rfl hl h
theorem run30 {vs : List AV} (hl : vs.length ≤ 14) {r : AV} (h : GoC fns (fun e => xends [.tmp 2, .tmp 3, .tmp 4] e = some r) [] k30_5 ⟨fun j => (vs[j]?).getD .undef, fun _ => none⟩) : callω fns 30 vs = some r :=
  callω_run fns (af := af30) rfl rfl rfl hl h
theorem run26 {vs : List AV} (hl : vs.length ≤ 19) {r : AV} (h : GoC fns (fun e => xends [.tmp 2, .tmp 3, .tmp 4] e = some r) [] k26_6 ⟨fun j => (vs[j]?).getD .undef, fun _ => none⟩) : callω fns 26 vs = some r :=
  callω_run fns (af := af26) rfl rfl rfl hl h
theorem run32 {vs : List AV} (hl : vs.length ≤ 38) {r : AV} (h : GoC fns (fun e => xends [.tmp 2, .tmp 3, .tmp 4] e = some r) [] k32_7 ⟨fun j => (vs[j]?).getD .undef, fun _ => none⟩) : callω fns 32 vs = some r :=
  callω_run fns (af := af32) rfl rfl rfl hl h
theorem run27 {vs : List AV} (hl : vs.length ≤ 10) {r : AV} (h : GoC fns (fun e => xends [.tmp 2, .tmp 3, .tmp 4] e = some r) [] k27_1 ⟨fun j => (vs[j]?).getD .undef, fun _ => none⟩) : callω fns 27 vs = some r :=
  callω_run fns (af := af27) rfl rfl rfl hl h
theorem run33 {vs : List AV} (hl : vs.length ≤ 62) {r : AV} (h : GoC fns (fun e => xends [.tmp 2, .tmp 3, .tmp 4] e = some r) [] k33_7 ⟨fun j => (vs[j]?).getD .undef, fun _ => none⟩) : callω fns 33 vs = some r :=
  callω_run fns (af := af33) rfl rfl rfl hl h
theorem run28 {vs : List AV} (hl : vs.length ≤ 10) {r : AV} (h : GoC fns (fun e => xends [.tmp 2, .tmp 3, .tmp 4] e = some r) [] k28_1 ⟨fun j => (vs[j]?).getD .undef, fun _ => none⟩) : callω fns 28 vs = some r :=
  callω_run fns (af := af28) rfl rfl rfl hl h
theorem run16 {vs : List AV} (hl : vs.length ≤ 57) {r : AV} (h : GoC fns (fun e => xends [.tmp 2, .tmp 3] e = some r) [] k16_35 ⟨fun j => (vs[j]?).getD .undef, fun _ => none⟩) : callω fns 16 vs = some r :=
  callω_run fns (af := af16) rfl rfl rfl hl h
theorem run12 {vs : List AV} (hl : vs.length ≤ 9) {r : AV} (h : GoC fns (fun e => xends [.tmp 2, .tmp 3] e = some r) [] k12_1 ⟨fun j => (vs[j]?).getD .undef, fun _ => none⟩) : callω fns 12 vs = some r :=
  callω_run fns (af := af12) rfl rfl rfl hl h
theorem run6 {vs : List AV} (hl : vs.length ≤ 9) {r : AV} (h : GoC fns (fun e => xends [.tmp 2, .tmp 3] e = some r) [] k6_1 ⟨fun j => (vs[j]?).getD .undef, fun _ => none⟩) : callω fns 6 vs = some r :=
  callω_run fns (af := af6) rfl rfl rfl hl h
theorem run3 {vs : List AV} (hl : vs.length ≤ 44) {r : AV} (h : GoC fns (fun e => xends [.tmp 2] e = some r) [] k3_14 ⟨fun j => (vs[j]?).getD .undef, fun _ => none⟩) : callω fns 3 vs = some r :=
  callω_run fns (af := af3) rfl rfl rfl hl h
theorem fnsOk : FnsOk Try.prog sg fns := by
  intro f af h
  unfold fns at h
  split at h <;> first
    | (injection h with h; subst h; exact ⟨Try.f4, Try.func4, by kernel_rfl, ok4⟩)
    | (injection h with h; subst h; exact ⟨Try.f8, Try.func8, by kernel_rfl, ok8⟩)
    | (injection h with h; subst h; exact ⟨Try.f21, Try.func21, by kernel_rfl, ok21⟩)
    | (injection h with h; subst h; exact ⟨Try.f22, Try.func22, by kernel_rfl, ok22⟩)
    | (injection h with h; subst h; exact ⟨Try.f23, Try.func23, by kernel_rfl, ok23⟩)
    | (injection h with h; subst h; exact ⟨Try.f24, Try.func24, by kernel_rfl, ok24⟩)
    | (injection h with h; subst h; exact ⟨Try.f14, Try.func14, by kernel_rfl, ok14⟩)
    | (injection h with h; subst h; exact ⟨Try.f9, Try.func9, by kernel_rfl, ok9⟩)
    | (injection h with h; subst h; exact ⟨Try.f10, Try.func10, by kernel_rfl, ok10⟩)
    | (injection h with h; subst h; exact ⟨Try.f5, Try.func5, by kernel_rfl, ok5⟩)
    | (injection h with h; subst h; exact ⟨Try.f17, Try.func17, by kernel_rfl, ok17⟩)
    | (injection h with h; subst h; exact ⟨Try.f20, Try.func20, by kernel_rfl, ok20⟩)
    | (injection h with h; subst h; exact ⟨Try.f18, Try.func18, by kernel_rfl, ok18⟩)
    | (injection h with h; subst h; exact ⟨Try.f34, Try.func34, by kernel_rfl, ok34⟩)
    | (injection h with h; subst h; exact ⟨Try.f29, Try.func29, by kernel_rfl, ok29⟩)
    | (injection h with h; subst h; exact ⟨Try.f19, Try.func19, by kernel_rfl, ok19⟩)
    | (injection h with h; subst h; exact ⟨Try.f13, Try.func13, by kernel_rfl, ok13⟩)
    | (injection h with h; subst h; exact ⟨Try.f7, Try.func7, by kernel_rfl, ok7⟩)
    | (injection h with h; subst h; exact ⟨Try.f11, Try.func11, by kernel_rfl, ok11⟩)
    | (injection h with h; subst h; exact ⟨Try.f15, Try.func15, by kernel_rfl, ok15⟩)
    | (injection h with h; subst h; exact ⟨Try.f25, Try.func25, by kernel_rfl, ok25⟩)
    | (injection h with h; subst h; exact ⟨Try.f35, Try.func35, by kernel_rfl, ok35⟩)
    | (injection h with h; subst h; exact ⟨Try.f30, Try.func30, by kernel_rfl, ok30⟩)
    | (injection h with h; subst h; exact ⟨Try.f26, Try.func26, by kernel_rfl, ok26⟩)
    | (injection h with h; subst h; exact ⟨Try.f32, Try.func32, by kernel_rfl, ok32⟩)
    | (injection h with h; subst h; exact ⟨Try.f27, Try.func27, by kernel_rfl, ok27⟩)
    | (injection h with h; subst h; exact ⟨Try.f33, Try.func33, by kernel_rfl, ok33⟩)
    | (injection h with h; subst h; exact ⟨Try.f28, Try.func28, by kernel_rfl, ok28⟩)
    | (injection h with h; subst h; exact ⟨Try.f16, Try.func16, by kernel_rfl, ok16⟩)
    | (injection h with h; subst h; exact ⟨Try.f12, Try.func12, by kernel_rfl, ok12⟩)
    | (injection h with h; subst h; exact ⟨Try.f6, Try.func6, by kernel_rfl, ok6⟩)
    | (injection h with h; subst h; exact ⟨Try.f3, Try.func3, by kernel_rfl, ok3⟩)
    | cases h
end Go.Proofs.Ytdnfnobgeddbfaa.Abs
