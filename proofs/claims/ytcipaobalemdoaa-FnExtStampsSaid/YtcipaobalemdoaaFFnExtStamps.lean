/- The functions that the law reaches, made ready for the interpreter (printed by a program of this session; the kernel compares each with the given program). -/
import Derived.Test.YtcipaobalemdoaaA27
import Derived.Test.YtcipaobalemdoaaProg
import Derived.KernelRfl
namespace Go.Proofs.Ytcipaobalemdoaa.Abs
set_option linter.all false
open Go.Proofs
def sg : FuncId → Nat → Nat := fun f i =>
  if f == 9 then (if i == 99 then 1 else 0) else
  if f == 10 then (if i == 99 then 1 else 0) else
  if f == 11 then (if i == 99 then 1 else 0) else
  if f == 12 then (if i == 99 then 1 else 0) else
  0
section
variable {fns : FuncId → Option AFunc} {Q : Ex × St → Prop} {s : List Fr} {c : ACode} {st : St}
/-- No. 4 -/
def k4_0 : ACode :=
  .ops [⟨.assign (.c (.bool true)), (some 2), none⟩] .ret
@[simp] theorem xk4_0 : GoC fns Q s k4_0 st ↔ GoO fns Q s [⟨.assign (.c (.bool true)), (some 2), none⟩] .ret st := goC_ops
def k4_1 : ACode :=
  .ops [⟨.bin .add 1 true (.p 10) (.c (.int .i64 1)), (some 17), none⟩,
    ⟨.move .look (.p 17), (some 10), none⟩] .skip
@[simp] theorem xk4_1 : GoC fns Q s k4_1 st ↔ GoO fns Q s [⟨.bin .add 1 true (.p 10) (.c (.int .i64 1)), (some 17), none⟩,
    ⟨.move .look (.p 17), (some 10), none⟩] .skip st := goC_ops
def k4_2 : ACode :=
  .ops [⟨.assign (.c (.bool false)), (some 2), none⟩] .ret
@[simp] theorem xk4_2 : GoC fns Q s k4_2 st ↔ GoO fns Q s [⟨.assign (.c (.bool false)), (some 2), none⟩] .ret st := goC_ops
def k4_3 : ACode :=
  .cond (.p 16) k4_2 .skip
@[simp] theorem xk4_3 : GoC fns Q s k4_3 st ↔ GB fns Q s (peek st (.p 16)) k4_2 .skip st := goC_cond
def k4_4 : ACode :=
  .ops [⟨.move .head (.p 4), (some 14), none⟩,
    ⟨.len true (.p 14), (some 15), none⟩,
    ⟨.bin .gtr 1 true (.p 15) (.c (.int .i64 2147483647)), (some 16), none⟩] k4_3
@[simp] theorem xk4_4 : GoC fns Q s k4_4 st ↔ GoO fns Q s [⟨.move .head (.p 4), (some 14), none⟩,
    ⟨.len true (.p 14), (some 15), none⟩,
    ⟨.bin .gtr 1 true (.p 15) (.c (.int .i64 2147483647)), (some 16), none⟩] k4_3 st := goC_ops
def k4_5 : ACode :=
  .ops [⟨.indexAddr 1 (.t 8) (.p 10), (some 12), none⟩,
    ⟨.load .take false 1 (.p 12), (some 13), none⟩,
    ⟨.assign (.p 13), (some 4), none⟩] k4_4
@[simp] theorem xk4_5 : GoC fns Q s k4_5 st ↔ GoO fns Q s [⟨.indexAddr 1 (.t 8) (.p 10), (some 12), none⟩,
    ⟨.load .take false 1 (.p 12), (some 13), none⟩,
    ⟨.assign (.p 13), (some 4), none⟩] k4_4 st := goC_ops
def k4_6 : ACode :=
  .block 1 k4_5
@[simp] theorem xk4_6 : GoC fns Q s k4_6 st ↔ GoC fns Q (.bl 1 :: s) k4_5 st := goC_block
def k4_7 : ACode :=
  .seq k4_6 k4_1
@[simp] theorem xk4_7 : GoC fns Q s k4_7 st ↔ GoC fns Q (.sq k4_1 :: s) k4_6 st := goC_seq
def k4_8 : ACode :=
  .cond (.p 11) .skip (.exit 0)
@[simp] theorem xk4_8 : GoC fns Q s k4_8 st ↔ GB fns Q s (peek st (.p 11)) .skip (.exit 0) st := goC_cond
def k4_9 : ACode :=
  .seq k4_8 k4_7
@[simp] theorem xk4_9 : GoC fns Q s k4_9 st ↔ GoC fns Q (.sq k4_7 :: s) k4_8 st := goC_seq
def k4_10 : ACode :=
  .ops [⟨.bin .lss 1 false (.p 10) (.p 9), (some 11), none⟩] k4_9
@[simp] theorem xk4_10 : GoC fns Q s k4_10 st ↔ GoO fns Q s [⟨.bin .lss 1 false (.p 10) (.p 9), (some 11), none⟩] k4_9 st := goC_ops
def lc4_0 : ACode :=
  k4_10
@[simp] theorem xlc4_0 : GoC fns Q s lc4_0 st ↔ GoC fns Q s k4_10 st := Iff.rfl
def k4_12 : ACode :=
  .loop lc4_0
@[simp] theorem xk4_12 : GoC fns Q s k4_12 st ↔ (LoopR fns lc4_0 st fun r => GoE fns Q s r.1 r.2) := goC_loop
def k4_13 : ACode :=
  .block 0 k4_12
@[simp] theorem xk4_13 : GoC fns Q s k4_13 st ↔ GoC fns Q (.bl 0 :: s) k4_12 st := goC_block
def k4_14 : ACode :=
  .seq k4_13 k4_0
@[simp] theorem xk4_14 : GoC fns Q s k4_14 st ↔ GoC fns Q (.sq k4_0 :: s) k4_13 st := goC_seq
def k4_15 : ACode :=
  .ops [⟨.move .head (.t 0), (some 8), none⟩,
    ⟨.len false (.p 8), (some 9), none⟩,
    ⟨.move .head (.c (.int .i64 0)), (some 10), none⟩] k4_14
@[simp] theorem xk4_15 : GoC fns Q s k4_15 st ↔ GoO fns Q s [⟨.move .head (.t 0), (some 8), none⟩,
    ⟨.len false (.p 8), (some 9), none⟩,
    ⟨.move .head (.c (.int .i64 0)), (some 10), none⟩] k4_14 st := goC_ops
def k4_16 : ACode :=
  .ops [⟨.assign (.c (.bool false)), (some 2), none⟩] .ret
@[simp] theorem xk4_16 : GoC fns Q s k4_16 st ↔ GoO fns Q s [⟨.assign (.c (.bool false)), (some 2), none⟩] .ret st := goC_ops
def k4_17 : ACode :=
  .cond (.p 7) k4_16 .skip
@[simp] theorem xk4_17 : GoC fns Q s k4_17 st ↔ GB fns Q s (peek st (.p 7)) k4_16 .skip st := goC_cond
def k4_18 : ACode :=
  .seq k4_17 k4_15
@[simp] theorem xk4_18 : GoC fns Q s k4_18 st ↔ GoC fns Q (.sq k4_15 :: s) k4_17 st := goC_seq
def k4_19 : ACode :=
  .ops [⟨.move .head (.t 0), (some 5), none⟩,
    ⟨.len false (.p 5), (some 6), none⟩,
    ⟨.bin .gtr 1 true (.p 6) (.c (.int .i64 2147483647)), (some 7), none⟩] k4_18
@[simp] theorem xk4_19 : GoC fns Q s k4_19 st ↔ GoO fns Q s [⟨.move .head (.t 0), (some 5), none⟩,
    ⟨.len false (.p 5), (some 6), none⟩,
    ⟨.bin .gtr 1 true (.p 6) (.c (.int .i64 2147483647)), (some 7), none⟩] k4_18 st := goC_ops
def k4_20 : ACode :=
  .ops [⟨.assign (.c (.bool false)), (some 2), none⟩] k4_19
@[simp] theorem xk4_20 : GoC fns Q s k4_20 st ↔ GoO fns Q s [⟨.assign (.c (.bool false)), (some 2), none⟩] k4_19 st := goC_ops
def af4 : AFunc := ⟨18, k4_20, [.tmp 2]⟩

theorem ok4 : ∃ hs, pFunc Try.prog sg hs Try.f4 = some af4 := ⟨fun i => 0, by kernel_rfl⟩
/-- No. 5 -/
def k5_0 : ACode :=
  .ops [⟨.assign (.c (.bool true)), (some 2), none⟩] .ret
@[simp] theorem xk5_0 : GoC fns Q s k5_0 st ↔ GoO fns Q s [⟨.assign (.c (.bool true)), (some 2), none⟩] .ret st := goC_ops
def k5_1 : ACode :=
  .ops [⟨.bin .add 1 true (.p 9) (.c (.int .i64 1)), (some 26), none⟩,
    ⟨.move .look (.p 26), (some 9), none⟩] .skip
@[simp] theorem xk5_1 : GoC fns Q s k5_1 st ↔ GoO fns Q s [⟨.bin .add 1 true (.p 9) (.c (.int .i64 1)), (some 26), none⟩,
    ⟨.move .look (.p 26), (some 9), none⟩] .skip st := goC_ops
def k5_2 : ACode :=
  .ops [⟨.bin .add 1 true (.p 18) (.c (.int .i64 1)), (some 25), none⟩,
    ⟨.move .look (.p 25), (some 18), none⟩] .skip
@[simp] theorem xk5_2 : GoC fns Q s k5_2 st ↔ GoO fns Q s [⟨.bin .add 1 true (.p 18) (.c (.int .i64 1)), (some 25), none⟩,
    ⟨.move .look (.p 25), (some 18), none⟩] .skip st := goC_ops
def k5_3 : ACode :=
  .ops [⟨.assign (.c (.bool false)), (some 2), none⟩] .ret
@[simp] theorem xk5_3 : GoC fns Q s k5_3 st ↔ GoO fns Q s [⟨.assign (.c (.bool false)), (some 2), none⟩] .ret st := goC_ops
def k5_4 : ACode :=
  .cond (.p 24) k5_3 .skip
@[simp] theorem xk5_4 : GoC fns Q s k5_4 st ↔ GB fns Q s (peek st (.p 24)) k5_3 .skip st := goC_cond
def k5_5 : ACode :=
  .ops [⟨.move .head (.p 6), (some 22), none⟩,
    ⟨.len true (.p 22), (some 23), none⟩,
    ⟨.bin .gtr 1 true (.p 23) (.c (.int .i64 300)), (some 24), none⟩] k5_4
@[simp] theorem xk5_5 : GoC fns Q s k5_5 st ↔ GoO fns Q s [⟨.move .head (.p 6), (some 22), none⟩,
    ⟨.len true (.p 22), (some 23), none⟩,
    ⟨.bin .gtr 1 true (.p 23) (.c (.int .i64 300)), (some 24), none⟩] k5_4 st := goC_ops
def k5_6 : ACode :=
  .ops [⟨.indexAddr 1 (.t 16) (.p 18), (some 20), none⟩,
    ⟨.load .take false 1 (.p 20), (some 21), none⟩,
    ⟨.assign (.p 21), (some 6), none⟩] k5_5
@[simp] theorem xk5_6 : GoC fns Q s k5_6 st ↔ GoO fns Q s [⟨.indexAddr 1 (.t 16) (.p 18), (some 20), none⟩,
    ⟨.load .take false 1 (.p 20), (some 21), none⟩,
    ⟨.assign (.p 21), (some 6), none⟩] k5_5 st := goC_ops
def k5_7 : ACode :=
  .block 3 k5_6
@[simp] theorem xk5_7 : GoC fns Q s k5_7 st ↔ GoC fns Q (.bl 3 :: s) k5_6 st := goC_block
def k5_8 : ACode :=
  .seq k5_7 k5_2
@[simp] theorem xk5_8 : GoC fns Q s k5_8 st ↔ GoC fns Q (.sq k5_2 :: s) k5_7 st := goC_seq
def k5_9 : ACode :=
  .cond (.p 19) .skip (.exit 2)
@[simp] theorem xk5_9 : GoC fns Q s k5_9 st ↔ GB fns Q s (peek st (.p 19)) .skip (.exit 2) st := goC_cond
def k5_10 : ACode :=
  .seq k5_9 k5_8
@[simp] theorem xk5_10 : GoC fns Q s k5_10 st ↔ GoC fns Q (.sq k5_8 :: s) k5_9 st := goC_seq
def k5_11 : ACode :=
  .ops [⟨.bin .lss 1 false (.p 18) (.p 17), (some 19), none⟩] k5_10
@[simp] theorem xk5_11 : GoC fns Q s k5_11 st ↔ GoO fns Q s [⟨.bin .lss 1 false (.p 18) (.p 17), (some 19), none⟩] k5_10 st := goC_ops
def lc5_0 : ACode :=
  k5_11
@[simp] theorem xlc5_0 : GoC fns Q s lc5_0 st ↔ GoC fns Q s k5_11 st := Iff.rfl
def k5_13 : ACode :=
  .loop lc5_0
@[simp] theorem xk5_13 : GoC fns Q s k5_13 st ↔ (LoopR fns lc5_0 st fun r => GoE fns Q s r.1 r.2) := goC_loop
def k5_14 : ACode :=
  .block 2 k5_13
@[simp] theorem xk5_14 : GoC fns Q s k5_14 st ↔ GoC fns Q (.bl 2 :: s) k5_13 st := goC_block
def k5_15 : ACode :=
  .ops [⟨.move .head (.t 4), (some 16), none⟩,
    ⟨.len false (.p 16), (some 17), none⟩,
    ⟨.move .head (.c (.int .i64 0)), (some 18), none⟩] k5_14
@[simp] theorem xk5_15 : GoC fns Q s k5_15 st ↔ GoO fns Q s [⟨.move .head (.t 4), (some 16), none⟩,
    ⟨.len false (.p 16), (some 17), none⟩,
    ⟨.move .head (.c (.int .i64 0)), (some 18), none⟩] k5_14 st := goC_ops
def k5_16 : ACode :=
  .ops [⟨.assign (.c (.bool false)), (some 2), none⟩] .ret
@[simp] theorem xk5_16 : GoC fns Q s k5_16 st ↔ GoO fns Q s [⟨.assign (.c (.bool false)), (some 2), none⟩] .ret st := goC_ops
def k5_17 : ACode :=
  .cond (.p 15) k5_16 .skip
@[simp] theorem xk5_17 : GoC fns Q s k5_17 st ↔ GB fns Q s (peek st (.p 15)) k5_16 .skip st := goC_cond
def k5_18 : ACode :=
  .seq k5_17 k5_15
@[simp] theorem xk5_18 : GoC fns Q s k5_18 st ↔ GoC fns Q (.sq k5_15 :: s) k5_17 st := goC_seq
def k5_19 : ACode :=
  .ops [⟨.move .head (.t 4), (some 13), none⟩,
    ⟨.len false (.p 13), (some 14), none⟩,
    ⟨.bin .gtr 1 true (.p 14) (.c (.int .i64 6)), (some 15), none⟩] k5_18
@[simp] theorem xk5_19 : GoC fns Q s k5_19 st ↔ GoO fns Q s [⟨.move .head (.t 4), (some 13), none⟩,
    ⟨.len false (.p 13), (some 14), none⟩,
    ⟨.bin .gtr 1 true (.p 14) (.c (.int .i64 6)), (some 15), none⟩] k5_18 st := goC_ops
def k5_20 : ACode :=
  .ops [⟨.indexAddr 1 (.t 7) (.p 9), (some 11), none⟩,
    ⟨.load .take false 1 (.p 11), (some 12), none⟩,
    ⟨.assign (.t 12), (some 4), none⟩] k5_19
@[simp] theorem xk5_20 : GoC fns Q s k5_20 st ↔ GoO fns Q s [⟨.indexAddr 1 (.t 7) (.p 9), (some 11), none⟩,
    ⟨.load .take false 1 (.p 11), (some 12), none⟩,
    ⟨.assign (.t 12), (some 4), none⟩] k5_19 st := goC_ops
def k5_21 : ACode :=
  .block 1 k5_20
@[simp] theorem xk5_21 : GoC fns Q s k5_21 st ↔ GoC fns Q (.bl 1 :: s) k5_20 st := goC_block
def k5_22 : ACode :=
  .seq k5_21 k5_1
@[simp] theorem xk5_22 : GoC fns Q s k5_22 st ↔ GoC fns Q (.sq k5_1 :: s) k5_21 st := goC_seq
def k5_23 : ACode :=
  .cond (.p 10) .skip (.exit 0)
@[simp] theorem xk5_23 : GoC fns Q s k5_23 st ↔ GB fns Q s (peek st (.p 10)) .skip (.exit 0) st := goC_cond
def k5_24 : ACode :=
  .seq k5_23 k5_22
@[simp] theorem xk5_24 : GoC fns Q s k5_24 st ↔ GoC fns Q (.sq k5_22 :: s) k5_23 st := goC_seq
def k5_25 : ACode :=
  .ops [⟨.bin .lss 1 false (.p 9) (.p 8), (some 10), none⟩] k5_24
@[simp] theorem xk5_25 : GoC fns Q s k5_25 st ↔ GoO fns Q s [⟨.bin .lss 1 false (.p 9) (.p 8), (some 10), none⟩] k5_24 st := goC_ops
def lc5_1 : ACode :=
  k5_25
@[simp] theorem xlc5_1 : GoC fns Q s lc5_1 st ↔ GoC fns Q s k5_25 st := Iff.rfl
def k5_27 : ACode :=
  .loop lc5_1
@[simp] theorem xk5_27 : GoC fns Q s k5_27 st ↔ (LoopR fns lc5_1 st fun r => GoE fns Q s r.1 r.2) := goC_loop
def k5_28 : ACode :=
  .block 0 k5_27
@[simp] theorem xk5_28 : GoC fns Q s k5_28 st ↔ GoC fns Q (.bl 0 :: s) k5_27 st := goC_block
def k5_29 : ACode :=
  .seq k5_28 k5_0
@[simp] theorem xk5_29 : GoC fns Q s k5_29 st ↔ GoC fns Q (.sq k5_0 :: s) k5_28 st := goC_seq
def k5_30 : ACode :=
  .ops [⟨.move .head (.t 0), (some 7), none⟩,
    ⟨.len false (.p 7), (some 8), none⟩,
    ⟨.move .head (.c (.int .i64 0)), (some 9), none⟩] k5_29
@[simp] theorem xk5_30 : GoC fns Q s k5_30 st ↔ GoO fns Q s [⟨.move .head (.t 0), (some 7), none⟩,
    ⟨.len false (.p 7), (some 8), none⟩,
    ⟨.move .head (.c (.int .i64 0)), (some 9), none⟩] k5_29 st := goC_ops
def k5_31 : ACode :=
  .ops [⟨.assign (.c (.bool false)), (some 2), none⟩] k5_30
@[simp] theorem xk5_31 : GoC fns Q s k5_31 st ↔ GoO fns Q s [⟨.assign (.c (.bool false)), (some 2), none⟩] k5_30 st := goC_ops
def af5 : AFunc := ⟨27, k5_31, [.tmp 2]⟩

theorem ok5 : ∃ hs, pFunc Try.prog sg hs Try.f5 = some af5 := ⟨fun i => 0, by kernel_rfl⟩
/-- No. 6 -/
def k6_0 : ACode :=
  .ops [⟨.move .look (.p 6), (some 61), none⟩,
    ⟨.convInt .u64 (.p 61), (some 62), none⟩,
    ⟨.bin .shl 1 true (.p 62) (.c (.int .u64 32)), (some 63), none⟩,
    ⟨.move .look (.p 7), (some 64), none⟩,
    ⟨.convInt .u64 (.p 64), (some 65), none⟩,
    ⟨.bin .or 1 false (.p 63) (.p 65), (some 66), none⟩,
    ⟨.build [.int .i64 0, .str [], .str [], .int .i64 0, .int .u64 0, .int .u64 0, .slice .nil 0 1 [], .slice .nil 0 1 []] [(0, 1, .c (.int .i64 17)), (4, 1, .p 66)], (some 67), none⟩,
    ⟨.store 8 (.p 4) (.p 67), none, none⟩,
    ⟨.assign (.c (.bool true)), (some 5), none⟩] .ret
@[simp] theorem xk6_0 : GoC fns Q s k6_0 st ↔ GoO fns Q s [⟨.move .look (.p 6), (some 61), none⟩,
    ⟨.convInt .u64 (.p 61), (some 62), none⟩,
    ⟨.bin .shl 1 true (.p 62) (.c (.int .u64 32)), (some 63), none⟩,
    ⟨.move .look (.p 7), (some 64), none⟩,
    ⟨.convInt .u64 (.p 64), (some 65), none⟩,
    ⟨.bin .or 1 false (.p 63) (.p 65), (some 66), none⟩,
    ⟨.build [.int .i64 0, .str [], .str [], .int .i64 0, .int .u64 0, .int .u64 0, .slice .nil 0 1 [], .slice .nil 0 1 []] [(0, 1, .c (.int .i64 17)), (4, 1, .p 66)], (some 67), none⟩,
    ⟨.store 8 (.p 4) (.p 67), none, none⟩,
    ⟨.assign (.c (.bool true)), (some 5), none⟩] .ret st := goC_ops
def k6_1 : ACode :=
  .ops [⟨.build [.int .i64 0, .str [], .str [], .int .i64 0, .int .u64 0, .int .u64 0, .slice .nil 0 1 [], .slice .nil 0 1 []] [], (some 60), none⟩,
    ⟨.store 8 (.p 4) (.p 60), none, none⟩,
    ⟨.assign (.c (.bool false)), (some 5), none⟩] .ret
@[simp] theorem xk6_1 : GoC fns Q s k6_1 st ↔ GoO fns Q s [⟨.build [.int .i64 0, .str [], .str [], .int .i64 0, .int .u64 0, .int .u64 0, .slice .nil 0 1 [], .slice .nil 0 1 []] [], (some 60), none⟩,
    ⟨.store 8 (.p 4) (.p 60), none, none⟩,
    ⟨.assign (.c (.bool false)), (some 5), none⟩] .ret st := goC_ops
def k6_2 : ACode :=
  .cond (.p 59) k6_1 .skip
@[simp] theorem xk6_2 : GoC fns Q s k6_2 st ↔ GB fns Q s (peek st (.p 59)) k6_1 .skip st := goC_cond
def k6_3 : ACode :=
  .seq k6_2 k6_0
@[simp] theorem xk6_3 : GoC fns Q s k6_3 st ↔ GoC fns Q (.sq k6_0 :: s) k6_2 st := goC_seq
def k6_4 : ACode :=
  .ops [⟨.move .look (.p 6), (some 46), none⟩,
    ⟨.bin .lss 1 true (.p 46) (.c (.int .i64 0)), (some 47), none⟩,
    ⟨.move .look (.p 47), (some 48), none⟩,
    ⟨.move .look (.p 7), (some 49), (some (48, false))⟩,
    ⟨.bin .lss 1 true (.p 49) (.c (.int .i64 0)), (some 50), (some (48, false))⟩,
    ⟨.pick (.p 48) (.c (.bool true)) (.p 50), (some 51), none⟩,
    ⟨.move .look (.p 51), (some 52), none⟩,
    ⟨.move .look (.p 6), (some 53), (some (52, false))⟩,
    ⟨.bin .gtr 1 true (.p 53) (.c (.int .i64 4294967295)), (some 54), (some (52, false))⟩,
    ⟨.pick (.p 52) (.c (.bool true)) (.p 54), (some 55), none⟩,
    ⟨.move .look (.p 55), (some 56), none⟩,
    ⟨.move .look (.p 7), (some 57), (some (56, false))⟩,
    ⟨.bin .gtr 1 true (.p 57) (.c (.int .i64 4294967295)), (some 58), (some (56, false))⟩,
    ⟨.pick (.p 56) (.c (.bool true)) (.p 58), (some 59), none⟩] k6_3
@[simp] theorem xk6_4 : GoC fns Q s k6_4 st ↔ GoO fns Q s [⟨.move .look (.p 6), (some 46), none⟩,
    ⟨.bin .lss 1 true (.p 46) (.c (.int .i64 0)), (some 47), none⟩,
    ⟨.move .look (.p 47), (some 48), none⟩,
    ⟨.move .look (.p 7), (some 49), (some (48, false))⟩,
    ⟨.bin .lss 1 true (.p 49) (.c (.int .i64 0)), (some 50), (some (48, false))⟩,
    ⟨.pick (.p 48) (.c (.bool true)) (.p 50), (some 51), none⟩,
    ⟨.move .look (.p 51), (some 52), none⟩,
    ⟨.move .look (.p 6), (some 53), (some (52, false))⟩,
    ⟨.bin .gtr 1 true (.p 53) (.c (.int .i64 4294967295)), (some 54), (some (52, false))⟩,
    ⟨.pick (.p 52) (.c (.bool true)) (.p 54), (some 55), none⟩,
    ⟨.move .look (.p 55), (some 56), none⟩,
    ⟨.move .look (.p 7), (some 57), (some (56, false))⟩,
    ⟨.bin .gtr 1 true (.p 57) (.c (.int .i64 4294967295)), (some 58), (some (56, false))⟩,
    ⟨.pick (.p 56) (.c (.bool true)) (.p 58), (some 59), none⟩] k6_3 st := goC_ops
def k6_5 : ACode :=
  .ops [⟨.move .take (.p 7), (some 33), none⟩,
    ⟨.move .take (.p 6), (some 34), none⟩,
    ⟨.assign (.p 33), (some 6), none⟩,
    ⟨.assign (.p 34), (some 7), none⟩] .skip
@[simp] theorem xk6_5 : GoC fns Q s k6_5 st ↔ GoO fns Q s [⟨.move .take (.p 7), (some 33), none⟩,
    ⟨.move .take (.p 6), (some 34), none⟩,
    ⟨.assign (.p 33), (some 6), none⟩,
    ⟨.assign (.p 34), (some 7), none⟩] .skip st := goC_ops
def k6_6 : ACode :=
  .ops [⟨.build [.int .i64 0, .str [], .str [], .int .i64 0, .int .u64 0, .int .u64 0, .slice .nil 0 1 [], .slice .nil 0 1 []] [], (some 45), none⟩,
    ⟨.store 8 (.p 4) (.p 45), none, none⟩,
    ⟨.assign (.c (.bool false)), (some 5), none⟩] .ret
@[simp] theorem xk6_6 : GoC fns Q s k6_6 st ↔ GoO fns Q s [⟨.build [.int .i64 0, .str [], .str [], .int .i64 0, .int .u64 0, .int .u64 0, .slice .nil 0 1 [], .slice .nil 0 1 []] [], (some 45), none⟩,
    ⟨.store 8 (.p 4) (.p 45), none, none⟩,
    ⟨.assign (.c (.bool false)), (some 5), none⟩] .ret st := goC_ops
def k6_7 : ACode :=
  .cond (.p 44) k6_6 .skip
@[simp] theorem xk6_7 : GoC fns Q s k6_7 st ↔ GB fns Q s (peek st (.p 44)) k6_6 .skip st := goC_cond
def k6_8 : ACode :=
  .ops [⟨.move .look (.t 0), (some 35), none⟩,
    ⟨.indexAddr 1 (.t 35) (.c (.int .i64 0)), (some 36), none⟩,
    ⟨.load .head false 1 (.p 36), (some 37), none⟩,
    ⟨.bin .neq 2 true (.p 37) (.c (.str [116])), (some 38), none⟩,
    ⟨.move .look (.p 38), (some 39), none⟩,
    ⟨.move .look (.t 0), (some 40), (some (39, false))⟩,
    ⟨.indexAddr 1 (.t 40) (.c (.int .i64 1)), (some 41), (some (39, false))⟩,
    ⟨.load .head false 1 (.p 41), (some 42), (some (39, false))⟩,
    ⟨.bin .neq 2 true (.p 42) (.c (.str [105])), (some 43), (some (39, false))⟩,
    ⟨.pick (.p 39) (.c (.bool true)) (.p 43), (some 44), none⟩] k6_7
@[simp] theorem xk6_8 : GoC fns Q s k6_8 st ↔ GoO fns Q s [⟨.move .look (.t 0), (some 35), none⟩,
    ⟨.indexAddr 1 (.t 35) (.c (.int .i64 0)), (some 36), none⟩,
    ⟨.load .head false 1 (.p 36), (some 37), none⟩,
    ⟨.bin .neq 2 true (.p 37) (.c (.str [116])), (some 38), none⟩,
    ⟨.move .look (.p 38), (some 39), none⟩,
    ⟨.move .look (.t 0), (some 40), (some (39, false))⟩,
    ⟨.indexAddr 1 (.t 40) (.c (.int .i64 1)), (some 41), (some (39, false))⟩,
    ⟨.load .head false 1 (.p 41), (some 42), (some (39, false))⟩,
    ⟨.bin .neq 2 true (.p 42) (.c (.str [105])), (some 43), (some (39, false))⟩,
    ⟨.pick (.p 39) (.c (.bool true)) (.p 43), (some 44), none⟩] k6_7 st := goC_ops
def k6_9 : ACode :=
  .cond (.p 32) k6_5 k6_8
@[simp] theorem xk6_9 : GoC fns Q s k6_9 st ↔ GB fns Q s (peek st (.p 32)) k6_5 k6_8 st := goC_cond
def k6_10 : ACode :=
  .seq k6_9 k6_4
@[simp] theorem xk6_10 : GoC fns Q s k6_10 st ↔ GoC fns Q (.sq k6_4 :: s) k6_9 st := goC_seq
def k6_11 : ACode :=
  .ops [⟨.move .look (.t 0), (some 23), none⟩,
    ⟨.indexAddr 1 (.t 23) (.c (.int .i64 0)), (some 24), none⟩,
    ⟨.load .head false 1 (.p 24), (some 25), none⟩,
    ⟨.bin .eql 2 true (.p 25) (.c (.str [105])), (some 26), none⟩,
    ⟨.move .look (.p 26), (some 27), none⟩,
    ⟨.move .look (.t 0), (some 28), (some (27, true))⟩,
    ⟨.indexAddr 1 (.t 28) (.c (.int .i64 1)), (some 29), (some (27, true))⟩,
    ⟨.load .head false 1 (.p 29), (some 30), (some (27, true))⟩,
    ⟨.bin .eql 2 true (.p 30) (.c (.str [116])), (some 31), (some (27, true))⟩,
    ⟨.pick (.p 27) (.p 31) (.c (.bool false)), (some 32), none⟩] k6_10
@[simp] theorem xk6_11 : GoC fns Q s k6_11 st ↔ GoO fns Q s [⟨.move .look (.t 0), (some 23), none⟩,
    ⟨.indexAddr 1 (.t 23) (.c (.int .i64 0)), (some 24), none⟩,
    ⟨.load .head false 1 (.p 24), (some 25), none⟩,
    ⟨.bin .eql 2 true (.p 25) (.c (.str [105])), (some 26), none⟩,
    ⟨.move .look (.p 26), (some 27), none⟩,
    ⟨.move .look (.t 0), (some 28), (some (27, true))⟩,
    ⟨.indexAddr 1 (.t 28) (.c (.int .i64 1)), (some 29), (some (27, true))⟩,
    ⟨.load .head false 1 (.p 29), (some 30), (some (27, true))⟩,
    ⟨.bin .eql 2 true (.p 30) (.c (.str [116])), (some 31), (some (27, true))⟩,
    ⟨.pick (.p 27) (.p 31) (.c (.bool false)), (some 32), none⟩] k6_10 st := goC_ops
def k6_12 : ACode :=
  .ops [⟨.move .look (.t 1), (some 17), none⟩,
    ⟨.indexAddr 1 (.t 17) (.c (.int .i64 0)), (some 18), none⟩,
    ⟨.load .take false 1 (.p 18), (some 19), none⟩,
    ⟨.move .look (.t 1), (some 20), none⟩,
    ⟨.indexAddr 1 (.t 20) (.c (.int .i64 1)), (some 21), none⟩,
    ⟨.load .take false 1 (.p 21), (some 22), none⟩,
    ⟨.assign (.p 19), (some 6), none⟩,
    ⟨.assign (.p 22), (some 7), none⟩] k6_11
@[simp] theorem xk6_12 : GoC fns Q s k6_12 st ↔ GoO fns Q s [⟨.move .look (.t 1), (some 17), none⟩,
    ⟨.indexAddr 1 (.t 17) (.c (.int .i64 0)), (some 18), none⟩,
    ⟨.load .take false 1 (.p 18), (some 19), none⟩,
    ⟨.move .look (.t 1), (some 20), none⟩,
    ⟨.indexAddr 1 (.t 20) (.c (.int .i64 1)), (some 21), none⟩,
    ⟨.load .take false 1 (.p 21), (some 22), none⟩,
    ⟨.assign (.p 19), (some 6), none⟩,
    ⟨.assign (.p 22), (some 7), none⟩] k6_11 st := goC_ops
def k6_13 : ACode :=
  .ops [⟨.build [.int .i64 0, .str [], .str [], .int .i64 0, .int .u64 0, .int .u64 0, .slice .nil 0 1 [], .slice .nil 0 1 []] [], (some 16), none⟩,
    ⟨.store 8 (.p 4) (.p 16), none, none⟩,
    ⟨.assign (.c (.bool false)), (some 5), none⟩] .ret
@[simp] theorem xk6_13 : GoC fns Q s k6_13 st ↔ GoO fns Q s [⟨.build [.int .i64 0, .str [], .str [], .int .i64 0, .int .u64 0, .int .u64 0, .slice .nil 0 1 [], .slice .nil 0 1 []] [], (some 16), none⟩,
    ⟨.store 8 (.p 4) (.p 16), none, none⟩,
    ⟨.assign (.c (.bool false)), (some 5), none⟩] .ret st := goC_ops
def k6_14 : ACode :=
  .cond (.p 15) k6_13 .skip
@[simp] theorem xk6_14 : GoC fns Q s k6_14 st ↔ GB fns Q s (peek st (.p 15)) k6_13 .skip st := goC_cond
def k6_15 : ACode :=
  .seq k6_14 k6_12
@[simp] theorem xk6_15 : GoC fns Q s k6_15 st ↔ GoC fns Q (.sq k6_12 :: s) k6_14 st := goC_seq
def k6_16 : ACode :=
  .ops [⟨.move .head (.t 0), (some 8), none⟩,
    ⟨.len false (.p 8), (some 9), none⟩,
    ⟨.bin .neq 1 true (.p 9) (.c (.int .i64 2)), (some 10), none⟩,
    ⟨.move .look (.p 10), (some 11), none⟩,
    ⟨.move .head (.t 1), (some 12), (some (11, false))⟩,
    ⟨.len false (.p 12), (some 13), (some (11, false))⟩,
    ⟨.bin .neq 1 true (.p 13) (.c (.int .i64 2)), (some 14), (some (11, false))⟩,
    ⟨.pick (.p 11) (.c (.bool true)) (.p 14), (some 15), none⟩] k6_15
@[simp] theorem xk6_16 : GoC fns Q s k6_16 st ↔ GoO fns Q s [⟨.move .head (.t 0), (some 8), none⟩,
    ⟨.len false (.p 8), (some 9), none⟩,
    ⟨.bin .neq 1 true (.p 9) (.c (.int .i64 2)), (some 10), none⟩,
    ⟨.move .look (.p 10), (some 11), none⟩,
    ⟨.move .head (.t 1), (some 12), (some (11, false))⟩,
    ⟨.len false (.p 12), (some 13), (some (11, false))⟩,
    ⟨.bin .neq 1 true (.p 13) (.c (.int .i64 2)), (some 14), (some (11, false))⟩,
    ⟨.pick (.p 11) (.c (.bool true)) (.p 14), (some 15), none⟩] k6_15 st := goC_ops
def k6_17 : ACode :=
  .ops [⟨.newbox 4 [.int .i64 0, .str [], .str [], .int .i64 0, .int .u64 0, .int .u64 0, .slice .nil 0 1 [], .slice .nil 0 1 []], (some 4), none⟩,
    ⟨.assign (.c (.bool false)), (some 5), none⟩] k6_16
@[simp] theorem xk6_17 : GoC fns Q s k6_17 st ↔ GoO fns Q s [⟨.newbox 4 [.int .i64 0, .str [], .str [], .int .i64 0, .int .u64 0, .int .u64 0, .slice .nil 0 1 [], .slice .nil 0 1 []], (some 4), none⟩,
    ⟨.assign (.c (.bool false)), (some 5), none⟩] k6_16 st := goC_ops
def af6 : AFunc := ⟨68, k6_17, [.cell 4 true 8, .tmp 5]⟩

theorem ok6 : ∃ hs, pFunc Try.prog sg hs Try.f6 = some af6 := ⟨fun i => 0, by kernel_rfl⟩
/-- No. 11 -/
def k11_0 : ACode :=
  .ops [⟨.move .look (.p 0), (some 3), none⟩,
    ⟨.build [.str []] [(0, 1, .p 3)], (some 4), none⟩,
    ⟨.boxobj (.p 4), (some 5), none⟩,
    ⟨.mkIface 54 (.p 5), (some 6), none⟩,
    ⟨.assign (.p 6), (some 2), none⟩] .ret
@[simp] theorem xk11_0 : GoC fns Q s k11_0 st ↔ GoO fns Q s [⟨.move .look (.p 0), (some 3), none⟩,
    ⟨.build [.str []] [(0, 1, .p 3)], (some 4), none⟩,
    ⟨.boxobj (.p 4), (some 5), none⟩,
    ⟨.mkIface 54 (.p 5), (some 6), none⟩,
    ⟨.assign (.p 6), (some 2), none⟩] .ret st := goC_ops
def k11_1 : ACode :=
  .ops [⟨.assign (.c (.nilI)), (some 2), none⟩] k11_0
@[simp] theorem xk11_1 : GoC fns Q s k11_1 st ↔ GoO fns Q s [⟨.assign (.c (.nilI)), (some 2), none⟩] k11_0 st := goC_ops
def af11 : AFunc := ⟨7, k11_1, [.tmp 2]⟩

theorem ok11 : ∃ hs, pFunc Try.prog sg hs Try.f11 = some af11 := ⟨fun i => if i == 5 then 1 else 0, by kernel_rfl⟩
/-- No. 12 -/
def k12_0 : ACode :=
  .ops [⟨.move .look (.p 8), (some 27), none⟩,
    ⟨.convInt .u32 (.p 27), (some 28), none⟩,
    ⟨.assign (.p 28), (some 6), none⟩,
    ⟨.assign (.c (.nilI)), (some 7), none⟩] .ret
@[simp] theorem xk12_0 : GoC fns Q s k12_0 st ↔ GoO fns Q s [⟨.move .look (.p 8), (some 27), none⟩,
    ⟨.convInt .u32 (.p 27), (some 28), none⟩,
    ⟨.assign (.p 28), (some 6), none⟩,
    ⟨.assign (.c (.nilI)), (some 7), none⟩] .ret st := goC_ops
def k12_1 : ACode :=
  .ops [⟨.hcall 11 [(.c (.str [36, 116, 105, 109, 101, 115, 116, 97, 109, 112, 32, 110, 117, 109, 98, 101, 114, 32, 115, 104, 111, 117, 108, 100, 32, 98, 101, 32, 117, 105, 110, 116, 51, 50]), false)], (some 26), none⟩,
    ⟨.assign (.c (.int .u32 0)), (some 6), none⟩,
    ⟨.assign (.p 26), (some 7), none⟩] .ret
@[simp] theorem xk12_1 : GoC fns Q s k12_1 st ↔ GoO fns Q s [⟨.hcall 11 [(.c (.str [36, 116, 105, 109, 101, 115, 116, 97, 109, 112, 32, 110, 117, 109, 98, 101, 114, 32, 115, 104, 111, 117, 108, 100, 32, 98, 101, 32, 117, 105, 110, 116, 51, 50]), false)], (some 26), none⟩,
    ⟨.assign (.c (.int .u32 0)), (some 6), none⟩,
    ⟨.assign (.p 26), (some 7), none⟩] .ret st := goC_ops
def k12_2 : ACode :=
  .cond (.p 25) k12_1 .skip
@[simp] theorem xk12_2 : GoC fns Q s k12_2 st ↔ GB fns Q s (peek st (.p 25)) k12_1 .skip st := goC_cond
def k12_3 : ACode :=
  .seq k12_2 k12_0
@[simp] theorem xk12_3 : GoC fns Q s k12_3 st ↔ GoC fns Q (.sq k12_0 :: s) k12_2 st := goC_seq
def k12_4 : ACode :=
  .ops [⟨.move .look (.p 8), (some 24), none⟩,
    ⟨.bin .lss 1 true (.p 24) (.c (.int .i32 0)), (some 25), none⟩] k12_3
@[simp] theorem xk12_4 : GoC fns Q s k12_4 st ↔ GoO fns Q s [⟨.move .look (.p 8), (some 24), none⟩,
    ⟨.bin .lss 1 true (.p 24) (.c (.int .i32 0)), (some 25), none⟩] k12_3 st := goC_ops
def k12_5 : ACode :=
  .ops [⟨.move .look (.p 1), (some 19), none⟩,
    ⟨.nilCheck (.p 19), (some 20), none⟩,
    ⟨.fieldAddr 1 (.p 20), (some 21), none⟩,
    ⟨.load .look false 1 (.p 21), (some 22), none⟩,
    ⟨.px (.tassert 21 (.int .i32 0) false) [.p 22], (some 23), none⟩,
    ⟨.assign (.p 23), (some 8), none⟩] k12_4
@[simp] theorem xk12_5 : GoC fns Q s k12_5 st ↔ GoO fns Q s [⟨.move .look (.p 1), (some 19), none⟩,
    ⟨.nilCheck (.p 19), (some 20), none⟩,
    ⟨.fieldAddr 1 (.p 20), (some 21), none⟩,
    ⟨.load .look false 1 (.p 21), (some 22), none⟩,
    ⟨.px (.tassert 21 (.int .i32 0) false) [.p 22], (some 23), none⟩,
    ⟨.assign (.p 23), (some 8), none⟩] k12_4 st := goC_ops
def k12_6 : ACode :=
  .ops [⟨.move .look (.p 9), (some 43), none⟩,
    ⟨.convInt .u32 (.p 43), (some 44), none⟩,
    ⟨.assign (.p 44), (some 6), none⟩,
    ⟨.assign (.c (.nilI)), (some 7), none⟩] .ret
@[simp] theorem xk12_6 : GoC fns Q s k12_6 st ↔ GoO fns Q s [⟨.move .look (.p 9), (some 43), none⟩,
    ⟨.convInt .u32 (.p 43), (some 44), none⟩,
    ⟨.assign (.p 44), (some 6), none⟩,
    ⟨.assign (.c (.nilI)), (some 7), none⟩] .ret st := goC_ops
def k12_7 : ACode :=
  .ops [⟨.hcall 11 [(.c (.str [36, 116, 105, 109, 101, 115, 116, 97, 109, 112, 32, 110, 117, 109, 98, 101, 114, 32, 115, 104, 111, 117, 108, 100, 32, 98, 101, 32, 117, 105, 110, 116, 51, 50]), false)], (some 42), none⟩,
    ⟨.assign (.c (.int .u32 0)), (some 6), none⟩,
    ⟨.assign (.p 42), (some 7), none⟩] .ret
@[simp] theorem xk12_7 : GoC fns Q s k12_7 st ↔ GoO fns Q s [⟨.hcall 11 [(.c (.str [36, 116, 105, 109, 101, 115, 116, 97, 109, 112, 32, 110, 117, 109, 98, 101, 114, 32, 115, 104, 111, 117, 108, 100, 32, 98, 101, 32, 117, 105, 110, 116, 51, 50]), false)], (some 42), none⟩,
    ⟨.assign (.c (.int .u32 0)), (some 6), none⟩,
    ⟨.assign (.p 42), (some 7), none⟩] .ret st := goC_ops
def k12_8 : ACode :=
  .cond (.p 41) k12_7 .skip
@[simp] theorem xk12_8 : GoC fns Q s k12_8 st ↔ GB fns Q s (peek st (.p 41)) k12_7 .skip st := goC_cond
def k12_9 : ACode :=
  .seq k12_8 k12_6
@[simp] theorem xk12_9 : GoC fns Q s k12_9 st ↔ GoC fns Q (.sq k12_6 :: s) k12_8 st := goC_seq
def k12_10 : ACode :=
  .ops [⟨.move .look (.p 9), (some 36), none⟩,
    ⟨.bin .lss 1 true (.p 36) (.c (.int .i64 0)), (some 37), none⟩,
    ⟨.move .look (.p 37), (some 38), none⟩,
    ⟨.move .look (.p 9), (some 39), (some (38, false))⟩,
    ⟨.bin .gtr 1 true (.p 39) (.c (.int .i64 4294967295)), (some 40), (some (38, false))⟩,
    ⟨.pick (.p 38) (.c (.bool true)) (.p 40), (some 41), none⟩] k12_9
@[simp] theorem xk12_10 : GoC fns Q s k12_10 st ↔ GoO fns Q s [⟨.move .look (.p 9), (some 36), none⟩,
    ⟨.bin .lss 1 true (.p 36) (.c (.int .i64 0)), (some 37), none⟩,
    ⟨.move .look (.p 37), (some 38), none⟩,
    ⟨.move .look (.p 9), (some 39), (some (38, false))⟩,
    ⟨.bin .gtr 1 true (.p 39) (.c (.int .i64 4294967295)), (some 40), (some (38, false))⟩,
    ⟨.pick (.p 38) (.c (.bool true)) (.p 40), (some 41), none⟩] k12_9 st := goC_ops
def k12_11 : ACode :=
  .ops [⟨.move .look (.p 1), (some 31), none⟩,
    ⟨.nilCheck (.p 31), (some 32), none⟩,
    ⟨.fieldAddr 1 (.p 32), (some 33), none⟩,
    ⟨.load .look false 1 (.p 33), (some 34), none⟩,
    ⟨.px (.tassert 2 (.int .i64 0) false) [.p 34], (some 35), none⟩,
    ⟨.assign (.p 35), (some 9), none⟩] k12_10
@[simp] theorem xk12_11 : GoC fns Q s k12_11 st ↔ GoO fns Q s [⟨.move .look (.p 1), (some 31), none⟩,
    ⟨.nilCheck (.p 31), (some 32), none⟩,
    ⟨.fieldAddr 1 (.p 32), (some 33), none⟩,
    ⟨.load .look false 1 (.p 33), (some 34), none⟩,
    ⟨.px (.tassert 2 (.int .i64 0) false) [.p 34], (some 35), none⟩,
    ⟨.assign (.p 35), (some 9), none⟩] k12_10 st := goC_ops
def k12_12 : ACode :=
  .ops [⟨.hcall 11 [(.c (.str [36, 116, 105, 109, 101, 115, 116, 97, 109, 112, 32, 118, 97, 108, 117, 101, 32, 115, 104, 111, 117, 108, 100, 32, 98, 101, 32, 117, 105, 110, 116, 51, 50, 44, 32, 98, 117, 116, 32, 105, 110, 115, 116, 101, 97, 100, 32, 105, 115]), false)], (some 16), none⟩,
    ⟨.assign (.c (.int .u32 0)), (some 6), none⟩,
    ⟨.assign (.p 16), (some 7), none⟩] .ret
@[simp] theorem xk12_12 : GoC fns Q s k12_12 st ↔ GoO fns Q s [⟨.hcall 11 [(.c (.str [36, 116, 105, 109, 101, 115, 116, 97, 109, 112, 32, 118, 97, 108, 117, 101, 32, 115, 104, 111, 117, 108, 100, 32, 98, 101, 32, 117, 105, 110, 116, 51, 50, 44, 32, 98, 117, 116, 32, 105, 110, 115, 116, 101, 97, 100, 32, 105, 115]), false)], (some 16), none⟩,
    ⟨.assign (.c (.int .u32 0)), (some 6), none⟩,
    ⟨.assign (.p 16), (some 7), none⟩] .ret st := goC_ops
def k12_13 : ACode :=
  .cond (.p 29) k12_11 k12_12
@[simp] theorem xk12_13 : GoC fns Q s k12_13 st ↔ GB fns Q s (peek st (.p 29)) k12_11 k12_12 st := goC_cond
def k12_14 : ACode :=
  .ops [⟨.bin .eql 1 true (.p 15) (.c (.int .u8 18)), (some 30), none⟩,
    ⟨.assign (.p 30), (some 29), none⟩] k12_13
@[simp] theorem xk12_14 : GoC fns Q s k12_14 st ↔ GoO fns Q s [⟨.bin .eql 1 true (.p 15) (.c (.int .u8 18)), (some 30), none⟩,
    ⟨.assign (.p 30), (some 29), none⟩] k12_13 st := goC_ops
def k12_15 : ACode :=
  .cond (.p 17) k12_5 k12_14
@[simp] theorem xk12_15 : GoC fns Q s k12_15 st ↔ GB fns Q s (peek st (.p 17)) k12_5 k12_14 st := goC_cond
def k12_16 : ACode :=
  .ops [⟨.bin .eql 1 true (.p 15) (.c (.int .u8 16)), (some 18), none⟩,
    ⟨.assign (.p 18), (some 17), none⟩] k12_15
@[simp] theorem xk12_16 : GoC fns Q s k12_16 st ↔ GoO fns Q s [⟨.bin .eql 1 true (.p 15) (.c (.int .u8 16)), (some 18), none⟩,
    ⟨.assign (.p 18), (some 17), none⟩] k12_15 st := goC_ops
def k12_17 : ACode :=
  .block 0 k12_16
@[simp] theorem xk12_17 : GoC fns Q s k12_17 st ↔ GoC fns Q (.bl 0 :: s) k12_16 st := goC_block
def k12_18 : ACode :=
  .seq k12_17 .ret
@[simp] theorem xk12_18 : GoC fns Q s k12_18 st ↔ GoC fns Q (.sq .ret :: s) k12_17 st := goC_seq
def k12_19 : ACode :=
  .ops [⟨.move .look (.p 1), (some 12), none⟩,
    ⟨.nilCheck (.p 12), (some 13), none⟩,
    ⟨.fieldAddr 0 (.p 13), (some 14), none⟩,
    ⟨.load .head false 1 (.p 14), (some 15), none⟩] k12_18
@[simp] theorem xk12_19 : GoC fns Q s k12_19 st ↔ GoO fns Q s [⟨.move .look (.p 1), (some 12), none⟩,
    ⟨.nilCheck (.p 12), (some 13), none⟩,
    ⟨.fieldAddr 0 (.p 13), (some 14), none⟩,
    ⟨.load .head false 1 (.p 14), (some 15), none⟩] k12_18 st := goC_ops
def k12_20 : ACode :=
  .ops [⟨.hcall 11 [(.c (.str [100, 117, 112, 108, 105, 99, 97, 116, 101, 32, 107, 101, 121, 32, 105, 110, 32, 36, 116, 105, 109, 101, 115, 116, 97, 109, 112]), false)], (some 11), none⟩,
    ⟨.assign (.c (.int .u32 0)), (some 6), none⟩,
    ⟨.assign (.p 11), (some 7), none⟩] .ret
@[simp] theorem xk12_20 : GoC fns Q s k12_20 st ↔ GoO fns Q s [⟨.hcall 11 [(.c (.str [100, 117, 112, 108, 105, 99, 97, 116, 101, 32, 107, 101, 121, 32, 105, 110, 32, 36, 116, 105, 109, 101, 115, 116, 97, 109, 112]), false)], (some 11), none⟩,
    ⟨.assign (.c (.int .u32 0)), (some 6), none⟩,
    ⟨.assign (.p 11), (some 7), none⟩] .ret st := goC_ops
def k12_21 : ACode :=
  .cond (.p 10) k12_20 .skip
@[simp] theorem xk12_21 : GoC fns Q s k12_21 st ↔ GB fns Q s (peek st (.p 10)) k12_20 .skip st := goC_cond
def k12_22 : ACode :=
  .seq k12_21 k12_19
@[simp] theorem xk12_22 : GoC fns Q s k12_22 st ↔ GoC fns Q (.sq k12_19 :: s) k12_21 st := goC_seq
def k12_23 : ACode :=
  .ops [⟨.move .head (.p 2), (some 10), none⟩] k12_22
@[simp] theorem xk12_23 : GoC fns Q s k12_23 st ↔ GoO fns Q s [⟨.move .head (.p 2), (some 10), none⟩] k12_22 st := goC_ops
def k12_24 : ACode :=
  .ops [⟨.assign (.c (.int .u32 0)), (some 6), none⟩,
    ⟨.assign (.c (.nilI)), (some 7), none⟩] k12_23
@[simp] theorem xk12_24 : GoC fns Q s k12_24 st ↔ GoO fns Q s [⟨.assign (.c (.int .u32 0)), (some 6), none⟩,
    ⟨.assign (.c (.nilI)), (some 7), none⟩] k12_23 st := goC_ops
def af12 : AFunc := ⟨45, k12_24, [.tmp 6, .tmp 7]⟩

theorem ok12 : ∃ hs, pFunc Try.prog sg hs Try.f12 = some af12 := ⟨fun i => 0, by kernel_rfl⟩
/-- No. 10 -/
def k10_0 : ACode :=
  .ops [⟨.move .take (.p 2), (some 75), none⟩,
    ⟨.move .take (.p 3), (some 76), none⟩,
    ⟨.assign (.p 75), (some 2), none⟩,
    ⟨.assign (.p 76), (some 3), none⟩,
    ⟨.assign (.c (.nilI)), (some 4), none⟩] .ret
@[simp] theorem xk10_0 : GoC fns Q s k10_0 st ↔ GoO fns Q s [⟨.move .take (.p 2), (some 75), none⟩,
    ⟨.move .take (.p 3), (some 76), none⟩,
    ⟨.assign (.p 75), (some 2), none⟩,
    ⟨.assign (.p 76), (some 3), none⟩,
    ⟨.assign (.c (.nilI)), (some 4), none⟩] .ret st := goC_ops
def k10_1 : ACode :=
  .ops [⟨.hcall 11 [(.c (.str [109, 105, 115, 115, 105, 110, 103, 32, 105, 32, 102, 105, 101, 108, 100, 32, 105, 110, 32, 36, 116, 105, 109, 101, 115, 116, 97, 109, 112, 32, 111, 98, 106, 101, 99, 116]), false)], (some 74), none⟩,
    ⟨.assign (.c (.int .u32 0)), (some 2), none⟩,
    ⟨.assign (.c (.int .u32 0)), (some 3), none⟩,
    ⟨.assign (.p 74), (some 4), none⟩] .ret
@[simp] theorem xk10_1 : GoC fns Q s k10_1 st ↔ GoO fns Q s [⟨.hcall 11 [(.c (.str [109, 105, 115, 115, 105, 110, 103, 32, 105, 32, 102, 105, 101, 108, 100, 32, 105, 110, 32, 36, 116, 105, 109, 101, 115, 116, 97, 109, 112, 32, 111, 98, 106, 101, 99, 116]), false)], (some 74), none⟩,
    ⟨.assign (.c (.int .u32 0)), (some 2), none⟩,
    ⟨.assign (.c (.int .u32 0)), (some 3), none⟩,
    ⟨.assign (.p 74), (some 4), none⟩] .ret st := goC_ops
def k10_2 : ACode :=
  .cond (.p 73) k10_1 .skip
@[simp] theorem xk10_2 : GoC fns Q s k10_2 st ↔ GB fns Q s (peek st (.p 73)) k10_1 .skip st := goC_cond
def k10_3 : ACode :=
  .seq k10_2 k10_0
@[simp] theorem xk10_3 : GoC fns Q s k10_3 st ↔ GoC fns Q (.sq k10_0 :: s) k10_2 st := goC_seq
def k10_4 : ACode :=
  .ops [⟨.move .look (.p 8), (some 72), none⟩,
    ⟨.un .not (.p 72), (some 73), none⟩] k10_3
@[simp] theorem xk10_4 : GoC fns Q s k10_4 st ↔ GoO fns Q s [⟨.move .look (.p 8), (some 72), none⟩,
    ⟨.un .not (.p 72), (some 73), none⟩] k10_3 st := goC_ops
def k10_5 : ACode :=
  .ops [⟨.hcall 11 [(.c (.str [109, 105, 115, 115, 105, 110, 103, 32, 116, 32, 102, 105, 101, 108, 100, 32, 105, 110, 32, 36, 116, 105, 109, 101, 115, 116, 97, 109, 112, 32, 111, 98, 106, 101, 99, 116]), false)], (some 71), none⟩,
    ⟨.assign (.c (.int .u32 0)), (some 2), none⟩,
    ⟨.assign (.c (.int .u32 0)), (some 3), none⟩,
    ⟨.assign (.p 71), (some 4), none⟩] .ret
@[simp] theorem xk10_5 : GoC fns Q s k10_5 st ↔ GoO fns Q s [⟨.hcall 11 [(.c (.str [109, 105, 115, 115, 105, 110, 103, 32, 116, 32, 102, 105, 101, 108, 100, 32, 105, 110, 32, 36, 116, 105, 109, 101, 115, 116, 97, 109, 112, 32, 111, 98, 106, 101, 99, 116]), false)], (some 71), none⟩,
    ⟨.assign (.c (.int .u32 0)), (some 2), none⟩,
    ⟨.assign (.c (.int .u32 0)), (some 3), none⟩,
    ⟨.assign (.p 71), (some 4), none⟩] .ret st := goC_ops
def k10_6 : ACode :=
  .cond (.p 70) k10_5 .skip
@[simp] theorem xk10_6 : GoC fns Q s k10_6 st ↔ GB fns Q s (peek st (.p 70)) k10_5 .skip st := goC_cond
def k10_7 : ACode :=
  .seq k10_6 k10_4
@[simp] theorem xk10_7 : GoC fns Q s k10_7 st ↔ GoC fns Q (.sq k10_4 :: s) k10_6 st := goC_seq
def k10_8 : ACode :=
  .ops [⟨.move .look (.p 7), (some 69), none⟩,
    ⟨.un .not (.p 69), (some 70), none⟩] k10_7
@[simp] theorem xk10_8 : GoC fns Q s k10_8 st ↔ GoO fns Q s [⟨.move .look (.p 7), (some 69), none⟩,
    ⟨.un .not (.p 69), (some 70), none⟩] k10_7 st := goC_ops
def k10_9 : ACode :=
  .ops [⟨.bin .add 1 true (.p 28) (.c (.int .i64 1)), (some 68), none⟩,
    ⟨.move .look (.p 68), (some 28), none⟩] .skip
@[simp] theorem xk10_9 : GoC fns Q s k10_9 st ↔ GoO fns Q s [⟨.bin .add 1 true (.p 28) (.c (.int .i64 1)), (some 68), none⟩,
    ⟨.move .look (.p 68), (some 28), none⟩] .skip st := goC_ops
def k10_10 : ACode :=
  .ops [⟨.assign (.c (.bool true)), (some 7), none⟩] .skip
@[simp] theorem xk10_10 : GoC fns Q s k10_10 st ↔ GoO fns Q s [⟨.assign (.c (.bool true)), (some 7), none⟩] .skip st := goC_ops
def k10_11 : ACode :=
  .ops [⟨.move .take (.p 4), (some 54), none⟩,
    ⟨.assign (.c (.int .u32 0)), (some 2), none⟩,
    ⟨.assign (.c (.int .u32 0)), (some 3), none⟩,
    ⟨.assign (.p 54), (some 4), none⟩] .ret
@[simp] theorem xk10_11 : GoC fns Q s k10_11 st ↔ GoO fns Q s [⟨.move .take (.p 4), (some 54), none⟩,
    ⟨.assign (.c (.int .u32 0)), (some 2), none⟩,
    ⟨.assign (.c (.int .u32 0)), (some 3), none⟩,
    ⟨.assign (.p 54), (some 4), none⟩] .ret st := goC_ops
def k10_12 : ACode :=
  .cond (.p 53) k10_11 .skip
@[simp] theorem xk10_12 : GoC fns Q s k10_12 st ↔ GB fns Q s (peek st (.p 53)) k10_11 .skip st := goC_cond
def k10_13 : ACode :=
  .seq k10_12 k10_10
@[simp] theorem xk10_13 : GoC fns Q s k10_13 st ↔ GoC fns Q (.sq k10_10 :: s) k10_12 st := goC_seq
def k10_14 : ACode :=
  .ops [⟨.move .head (.p 4), (some 52), none⟩,
    ⟨.bin .neq 5 true (.p 52) (.c (.nilI)), (some 53), none⟩] k10_13
@[simp] theorem xk10_14 : GoC fns Q s k10_14 st ↔ GoO fns Q s [⟨.move .head (.p 4), (some 52), none⟩,
    ⟨.bin .neq 5 true (.p 52) (.c (.nilI)), (some 53), none⟩] k10_13 st := goC_ops
def k10_15 : ACode :=
  .ops [⟨.move .look (.p 5), (some 45), none⟩,
    ⟨.move .look (.p 10), (some 46), none⟩,
    ⟨.move .look (.p 11), (some 47), none⟩,
    ⟨.move .look (.p 7), (some 48), none⟩,
    ⟨.dcall true none (.p 45) [(.p 46, false), (.p 47, false), (.p 48, false)], (some 49), none⟩,
    ⟨.move .look (.t 49), (some 44), none⟩,
    ⟨.extract 44 0, (some 50), none⟩,
    ⟨.extract 44 1, (some 51), none⟩,
    ⟨.assign (.p 50), (some 2), none⟩,
    ⟨.assign (.p 51), (some 4), none⟩] k10_14
@[simp] theorem xk10_15 : GoC fns Q s k10_15 st ↔ GoO fns Q s [⟨.move .look (.p 5), (some 45), none⟩,
    ⟨.move .look (.p 10), (some 46), none⟩,
    ⟨.move .look (.p 11), (some 47), none⟩,
    ⟨.move .look (.p 7), (some 48), none⟩,
    ⟨.dcall true none (.p 45) [(.p 46, false), (.p 47, false), (.p 48, false)], (some 49), none⟩,
    ⟨.move .look (.t 49), (some 44), none⟩,
    ⟨.extract 44 0, (some 50), none⟩,
    ⟨.extract 44 1, (some 51), none⟩,
    ⟨.assign (.p 50), (some 2), none⟩,
    ⟨.assign (.p 51), (some 4), none⟩] k10_14 st := goC_ops
def k10_16 : ACode :=
  .ops [⟨.assign (.c (.bool true)), (some 8), none⟩] .skip
@[simp] theorem xk10_16 : GoC fns Q s k10_16 st ↔ GoO fns Q s [⟨.assign (.c (.bool true)), (some 8), none⟩] .skip st := goC_ops
def k10_17 : ACode :=
  .ops [⟨.move .take (.p 4), (some 67), none⟩,
    ⟨.assign (.c (.int .u32 0)), (some 2), none⟩,
    ⟨.assign (.c (.int .u32 0)), (some 3), none⟩,
    ⟨.assign (.p 67), (some 4), none⟩] .ret
@[simp] theorem xk10_17 : GoC fns Q s k10_17 st ↔ GoO fns Q s [⟨.move .take (.p 4), (some 67), none⟩,
    ⟨.assign (.c (.int .u32 0)), (some 2), none⟩,
    ⟨.assign (.c (.int .u32 0)), (some 3), none⟩,
    ⟨.assign (.p 67), (some 4), none⟩] .ret st := goC_ops
def k10_18 : ACode :=
  .cond (.p 66) k10_17 .skip
@[simp] theorem xk10_18 : GoC fns Q s k10_18 st ↔ GB fns Q s (peek st (.p 66)) k10_17 .skip st := goC_cond
def k10_19 : ACode :=
  .seq k10_18 k10_16
@[simp] theorem xk10_19 : GoC fns Q s k10_19 st ↔ GoC fns Q (.sq k10_16 :: s) k10_18 st := goC_seq
def k10_20 : ACode :=
  .ops [⟨.move .head (.p 4), (some 65), none⟩,
    ⟨.bin .neq 5 true (.p 65) (.c (.nilI)), (some 66), none⟩] k10_19
@[simp] theorem xk10_20 : GoC fns Q s k10_20 st ↔ GoO fns Q s [⟨.move .head (.p 4), (some 65), none⟩,
    ⟨.bin .neq 5 true (.p 65) (.c (.nilI)), (some 66), none⟩] k10_19 st := goC_ops
def k10_21 : ACode :=
  .ops [⟨.move .look (.p 5), (some 58), none⟩,
    ⟨.move .look (.p 10), (some 59), none⟩,
    ⟨.move .look (.p 11), (some 60), none⟩,
    ⟨.move .look (.p 8), (some 61), none⟩,
    ⟨.dcall true none (.p 58) [(.p 59, false), (.p 60, false), (.p 61, false)], (some 62), none⟩,
    ⟨.move .look (.t 62), (some 57), none⟩,
    ⟨.extract 57 0, (some 63), none⟩,
    ⟨.extract 57 1, (some 64), none⟩,
    ⟨.assign (.p 63), (some 3), none⟩,
    ⟨.assign (.p 64), (some 4), none⟩] k10_20
@[simp] theorem xk10_21 : GoC fns Q s k10_21 st ↔ GoO fns Q s [⟨.move .look (.p 5), (some 58), none⟩,
    ⟨.move .look (.p 10), (some 59), none⟩,
    ⟨.move .look (.p 11), (some 60), none⟩,
    ⟨.move .look (.p 8), (some 61), none⟩,
    ⟨.dcall true none (.p 58) [(.p 59, false), (.p 60, false), (.p 61, false)], (some 62), none⟩,
    ⟨.move .look (.t 62), (some 57), none⟩,
    ⟨.extract 57 0, (some 63), none⟩,
    ⟨.extract 57 1, (some 64), none⟩,
    ⟨.assign (.p 63), (some 3), none⟩,
    ⟨.assign (.p 64), (some 4), none⟩] k10_20 st := goC_ops
def k10_22 : ACode :=
  .ops [⟨.hcall 11 [(.c (.str [105, 110, 118, 97, 108, 105, 100, 32, 107, 101, 121, 32, 105, 110, 32, 36, 116, 105, 109, 101, 115, 116, 97, 109, 112, 32, 111, 98, 106, 101, 99, 116]), false)], (some 41), none⟩,
    ⟨.assign (.c (.int .u32 0)), (some 2), none⟩,
    ⟨.assign (.c (.int .u32 0)), (some 3), none⟩,
    ⟨.assign (.p 41), (some 4), none⟩] .ret
@[simp] theorem xk10_22 : GoC fns Q s k10_22 st ↔ GoO fns Q s [⟨.hcall 11 [(.c (.str [105, 110, 118, 97, 108, 105, 100, 32, 107, 101, 121, 32, 105, 110, 32, 36, 116, 105, 109, 101, 115, 116, 97, 109, 112, 32, 111, 98, 106, 101, 99, 116]), false)], (some 41), none⟩,
    ⟨.assign (.c (.int .u32 0)), (some 2), none⟩,
    ⟨.assign (.c (.int .u32 0)), (some 3), none⟩,
    ⟨.assign (.p 41), (some 4), none⟩] .ret st := goC_ops
def k10_23 : ACode :=
  .cond (.p 55) k10_21 k10_22
@[simp] theorem xk10_23 : GoC fns Q s k10_23 st ↔ GB fns Q s (peek st (.p 55)) k10_21 k10_22 st := goC_cond
def k10_24 : ACode :=
  .ops [⟨.bin .eql 2 true (.p 40) (.c (.str [105])), (some 56), none⟩,
    ⟨.assign (.p 56), (some 55), none⟩] k10_23
@[simp] theorem xk10_24 : GoC fns Q s k10_24 st ↔ GoO fns Q s [⟨.bin .eql 2 true (.p 40) (.c (.str [105])), (some 56), none⟩,
    ⟨.assign (.p 56), (some 55), none⟩] k10_23 st := goC_ops
def k10_25 : ACode :=
  .cond (.p 42) k10_15 k10_24
@[simp] theorem xk10_25 : GoC fns Q s k10_25 st ↔ GB fns Q s (peek st (.p 42)) k10_15 k10_24 st := goC_cond
def k10_26 : ACode :=
  .ops [⟨.bin .eql 2 true (.p 40) (.c (.str [116])), (some 43), none⟩,
    ⟨.assign (.p 43), (some 42), none⟩] k10_25
@[simp] theorem xk10_26 : GoC fns Q s k10_26 st ↔ GoO fns Q s [⟨.bin .eql 2 true (.p 40) (.c (.str [116])), (some 43), none⟩,
    ⟨.assign (.p 43), (some 42), none⟩] k10_25 st := goC_ops
def k10_27 : ACode :=
  .block 2 k10_26
@[simp] theorem xk10_27 : GoC fns Q s k10_27 st ↔ GoC fns Q (.bl 2 :: s) k10_26 st := goC_block
def k10_28 : ACode :=
  .ops [⟨.move .head (.p 10), (some 40), none⟩] k10_27
@[simp] theorem xk10_28 : GoC fns Q s k10_28 st ↔ GoO fns Q s [⟨.move .head (.p 10), (some 40), none⟩] k10_27 st := goC_ops
def k10_29 : ACode :=
  .ops [⟨.move .look (.p 6), (some 33), none⟩,
    ⟨.nilCheck (.p 33), (some 34), none⟩,
    ⟨.fieldAddr 1 (.p 34), (some 35), none⟩,
    ⟨.load .look false 1 (.p 35), (some 36), none⟩,
    ⟨.move .look (.p 9), (some 37), none⟩,
    ⟨.indexAddr 1 (.t 36) (.p 37), (some 38), none⟩,
    ⟨.load .take false 1 (.p 38), (some 39), none⟩,
    ⟨.assign (.p 39), (some 11), none⟩] k10_28
@[simp] theorem xk10_29 : GoC fns Q s k10_29 st ↔ GoO fns Q s [⟨.move .look (.p 6), (some 33), none⟩,
    ⟨.nilCheck (.p 33), (some 34), none⟩,
    ⟨.fieldAddr 1 (.p 34), (some 35), none⟩,
    ⟨.load .look false 1 (.p 35), (some 36), none⟩,
    ⟨.move .look (.p 9), (some 37), none⟩,
    ⟨.indexAddr 1 (.t 36) (.p 37), (some 38), none⟩,
    ⟨.load .take false 1 (.p 38), (some 39), none⟩,
    ⟨.assign (.p 39), (some 11), none⟩] k10_28 st := goC_ops
def k10_30 : ACode :=
  .ops [⟨.move .take (.p 28), (some 30), none⟩,
    ⟨.indexAddr 1 (.t 26) (.p 28), (some 31), none⟩,
    ⟨.load .take false 1 (.p 31), (some 32), none⟩,
    ⟨.assign (.p 30), (some 9), none⟩,
    ⟨.assign (.p 32), (some 10), none⟩] k10_29
@[simp] theorem xk10_30 : GoC fns Q s k10_30 st ↔ GoO fns Q s [⟨.move .take (.p 28), (some 30), none⟩,
    ⟨.indexAddr 1 (.t 26) (.p 28), (some 31), none⟩,
    ⟨.load .take false 1 (.p 31), (some 32), none⟩,
    ⟨.assign (.p 30), (some 9), none⟩,
    ⟨.assign (.p 32), (some 10), none⟩] k10_29 st := goC_ops
def k10_31 : ACode :=
  .block 1 k10_30
@[simp] theorem xk10_31 : GoC fns Q s k10_31 st ↔ GoC fns Q (.bl 1 :: s) k10_30 st := goC_block
def k10_32 : ACode :=
  .seq k10_31 k10_9
@[simp] theorem xk10_32 : GoC fns Q s k10_32 st ↔ GoC fns Q (.sq k10_9 :: s) k10_31 st := goC_seq
def k10_33 : ACode :=
  .cond (.p 29) .skip (.exit 0)
@[simp] theorem xk10_33 : GoC fns Q s k10_33 st ↔ GB fns Q s (peek st (.p 29)) .skip (.exit 0) st := goC_cond
def k10_34 : ACode :=
  .seq k10_33 k10_32
@[simp] theorem xk10_34 : GoC fns Q s k10_34 st ↔ GoC fns Q (.sq k10_32 :: s) k10_33 st := goC_seq
def k10_35 : ACode :=
  .ops [⟨.bin .lss 1 false (.p 28) (.p 27), (some 29), none⟩] k10_34
@[simp] theorem xk10_35 : GoC fns Q s k10_35 st ↔ GoO fns Q s [⟨.bin .lss 1 false (.p 28) (.p 27), (some 29), none⟩] k10_34 st := goC_ops
def lc10_0 : ACode :=
  k10_35
@[simp] theorem xlc10_0 : GoC fns Q s lc10_0 st ↔ GoC fns Q s k10_35 st := Iff.rfl
def k10_37 : ACode :=
  .loop lc10_0
@[simp] theorem xk10_37 : GoC fns Q s k10_37 st ↔ (LoopR fns lc10_0 st fun r => GoE fns Q s r.1 r.2) := goC_loop
def k10_38 : ACode :=
  .block 0 k10_37
@[simp] theorem xk10_38 : GoC fns Q s k10_38 st ↔ GoC fns Q (.bl 0 :: s) k10_37 st := goC_block
def k10_39 : ACode :=
  .seq k10_38 k10_8
@[simp] theorem xk10_39 : GoC fns Q s k10_39 st ↔ GoC fns Q (.sq k10_8 :: s) k10_38 st := goC_seq
def k10_40 : ACode :=
  .ops [⟨.move .look (.p 6), (some 23), none⟩,
    ⟨.nilCheck (.p 23), (some 24), none⟩,
    ⟨.fieldAddr 0 (.p 24), (some 25), none⟩,
    ⟨.load .head false 1 (.p 25), (some 26), none⟩,
    ⟨.len false (.p 26), (some 27), none⟩,
    ⟨.move .head (.c (.int .i64 0)), (some 28), none⟩] k10_39
@[simp] theorem xk10_40 : GoC fns Q s k10_40 st ↔ GoO fns Q s [⟨.move .look (.p 6), (some 23), none⟩,
    ⟨.nilCheck (.p 23), (some 24), none⟩,
    ⟨.fieldAddr 0 (.p 24), (some 25), none⟩,
    ⟨.load .head false 1 (.p 25), (some 26), none⟩,
    ⟨.len false (.p 26), (some 27), none⟩,
    ⟨.move .head (.c (.int .i64 0)), (some 28), none⟩] k10_39 st := goC_ops
def k10_41 : ACode :=
  .ops [⟨.assign (.c (.bool false)), (some 8), none⟩] k10_40
@[simp] theorem xk10_41 : GoC fns Q s k10_41 st ↔ GoO fns Q s [⟨.assign (.c (.bool false)), (some 8), none⟩] k10_40 st := goC_ops
def k10_42 : ACode :=
  .ops [⟨.assign (.c (.bool false)), (some 7), none⟩] k10_41
@[simp] theorem xk10_42 : GoC fns Q s k10_42 st ↔ GoO fns Q s [⟨.assign (.c (.bool false)), (some 7), none⟩] k10_41 st := goC_ops
def k10_43 : ACode :=
  .ops [⟨.move .look (.p 0), (some 18), none⟩,
    ⟨.nilCheck (.p 18), (some 19), none⟩,
    ⟨.fieldAddr 1 (.p 19), (some 20), none⟩,
    ⟨.load .look false 1 (.p 20), (some 21), none⟩,
    ⟨.px (.tassert 42 (.nilptr) false) [.p 21], (some 22), none⟩,
    ⟨.assign (.p 22), (some 6), none⟩] k10_42
@[simp] theorem xk10_43 : GoC fns Q s k10_43 st ↔ GoO fns Q s [⟨.move .look (.p 0), (some 18), none⟩,
    ⟨.nilCheck (.p 18), (some 19), none⟩,
    ⟨.fieldAddr 1 (.p 19), (some 20), none⟩,
    ⟨.load .look false 1 (.p 20), (some 21), none⟩,
    ⟨.px (.tassert 42 (.nilptr) false) [.p 21], (some 22), none⟩,
    ⟨.assign (.p 22), (some 6), none⟩] k10_42 st := goC_ops
def k10_44 : ACode :=
  .ops [⟨.assign (.c (.fn 12)), (some 5), none⟩] k10_43
@[simp] theorem xk10_44 : GoC fns Q s k10_44 st ↔ GoO fns Q s [⟨.assign (.c (.fn 12)), (some 5), none⟩] k10_43 st := goC_ops
def k10_45 : ACode :=
  .ops [⟨.hcall 11 [(.c (.str [36, 116, 105, 109, 101, 115, 116, 97, 109, 112, 32, 118, 97, 108, 117, 101, 32, 115, 104, 111, 117, 108, 100, 32, 98, 101, 32, 111, 98, 106, 101, 99, 116, 44, 32, 98, 117, 116, 32, 105, 110, 115, 116, 101, 97, 100, 32, 105, 115]), false)], (some 17), none⟩,
    ⟨.assign (.c (.int .u32 0)), (some 2), none⟩,
    ⟨.assign (.c (.int .u32 0)), (some 3), none⟩,
    ⟨.assign (.p 17), (some 4), none⟩] .ret
@[simp] theorem xk10_45 : GoC fns Q s k10_45 st ↔ GoO fns Q s [⟨.hcall 11 [(.c (.str [36, 116, 105, 109, 101, 115, 116, 97, 109, 112, 32, 118, 97, 108, 117, 101, 32, 115, 104, 111, 117, 108, 100, 32, 98, 101, 32, 111, 98, 106, 101, 99, 116, 44, 32, 98, 117, 116, 32, 105, 110, 115, 116, 101, 97, 100, 32, 105, 115]), false)], (some 17), none⟩,
    ⟨.assign (.c (.int .u32 0)), (some 2), none⟩,
    ⟨.assign (.c (.int .u32 0)), (some 3), none⟩,
    ⟨.assign (.p 17), (some 4), none⟩] .ret st := goC_ops
def k10_46 : ACode :=
  .cond (.p 16) k10_45 .skip
@[simp] theorem xk10_46 : GoC fns Q s k10_46 st ↔ GB fns Q s (peek st (.p 16)) k10_45 .skip st := goC_cond
def k10_47 : ACode :=
  .seq k10_46 k10_44
@[simp] theorem xk10_47 : GoC fns Q s k10_47 st ↔ GoC fns Q (.sq k10_44 :: s) k10_46 st := goC_seq
def k10_48 : ACode :=
  .ops [⟨.move .look (.p 0), (some 12), none⟩,
    ⟨.nilCheck (.p 12), (some 13), none⟩,
    ⟨.fieldAddr 0 (.p 13), (some 14), none⟩,
    ⟨.load .head false 1 (.p 14), (some 15), none⟩,
    ⟨.bin .neq 1 true (.p 15) (.c (.int .u8 3)), (some 16), none⟩] k10_47
@[simp] theorem xk10_48 : GoC fns Q s k10_48 st ↔ GoO fns Q s [⟨.move .look (.p 0), (some 12), none⟩,
    ⟨.nilCheck (.p 12), (some 13), none⟩,
    ⟨.fieldAddr 0 (.p 13), (some 14), none⟩,
    ⟨.load .head false 1 (.p 14), (some 15), none⟩,
    ⟨.bin .neq 1 true (.p 15) (.c (.int .u8 3)), (some 16), none⟩] k10_47 st := goC_ops
def k10_49 : ACode :=
  .ops [⟨.assign (.c (.int .u32 0)), (some 2), none⟩,
    ⟨.assign (.c (.int .u32 0)), (some 3), none⟩,
    ⟨.assign (.c (.nilI)), (some 4), none⟩] k10_48
@[simp] theorem xk10_49 : GoC fns Q s k10_49 st ↔ GoO fns Q s [⟨.assign (.c (.int .u32 0)), (some 2), none⟩,
    ⟨.assign (.c (.int .u32 0)), (some 3), none⟩,
    ⟨.assign (.c (.nilI)), (some 4), none⟩] k10_48 st := goC_ops
def af10 : AFunc := ⟨77, k10_49, [.tmp 2, .tmp 3, .tmp 4]⟩

theorem ok10 : ∃ hs, pFunc Try.prog sg hs Try.f10 = some af10 := ⟨fun i => if i == 49 then 3 else if i == 62 then 3 else 0, by kernel_rfl⟩
/-- No. 9 -/
def k9_0 : ACode :=
  .ops [⟨.move .look (.p 7), (some 33), none⟩,
    ⟨.mkIface 42 (.p 33), (some 34), none⟩,
    ⟨.build [.int .u8 0, .nilI] [(0, 1, .c (.int .u8 3)), (1, 1, .p 34)], (some 35), none⟩,
    ⟨.boxobj (.p 35), (some 36), none⟩,
    ⟨.hcall 10 [(.p 36, false)], (some 37), none⟩,
    ⟨.extract 37 0, (some 38), none⟩,
    ⟨.extract 37 1, (some 39), none⟩,
    ⟨.extract 37 2, (some 40), none⟩,
    ⟨.assign (.p 38), (some 4), none⟩,
    ⟨.assign (.p 39), (some 5), none⟩,
    ⟨.assign (.p 40), (some 6), none⟩] .ret
@[simp] theorem xk9_0 : GoC fns Q s k9_0 st ↔ GoO fns Q s [⟨.move .look (.p 7), (some 33), none⟩,
    ⟨.mkIface 42 (.p 33), (some 34), none⟩,
    ⟨.build [.int .u8 0, .nilI] [(0, 1, .c (.int .u8 3)), (1, 1, .p 34)], (some 35), none⟩,
    ⟨.boxobj (.p 35), (some 36), none⟩,
    ⟨.hcall 10 [(.p 36, false)], (some 37), none⟩,
    ⟨.extract 37 0, (some 38), none⟩,
    ⟨.extract 37 1, (some 39), none⟩,
    ⟨.extract 37 2, (some 40), none⟩,
    ⟨.assign (.p 38), (some 4), none⟩,
    ⟨.assign (.p 39), (some 5), none⟩,
    ⟨.assign (.p 40), (some 6), none⟩] .ret st := goC_ops
def k9_1 : ACode :=
  .ops [⟨.bin .add 1 true (.p 15) (.c (.int .i64 1)), (some 32), none⟩,
    ⟨.move .look (.p 32), (some 15), none⟩] .skip
@[simp] theorem xk9_1 : GoC fns Q s k9_1 st ↔ GoO fns Q s [⟨.bin .add 1 true (.p 15) (.c (.int .i64 1)), (some 32), none⟩,
    ⟨.move .look (.p 32), (some 15), none⟩] .skip st := goC_ops
def k9_2 : ACode :=
  .ops [⟨.move .look (.p 7), (some 19), none⟩,
    ⟨.move .look (.p 7), (some 20), none⟩,
    ⟨.nilCheck (.p 20), (some 21), none⟩,
    ⟨.fieldAddr 1 (.p 21), (some 22), none⟩,
    ⟨.load .take false 1 (.p 22), (some 23), none⟩,
    ⟨.move .look (.p 9), (some 24), none⟩,
    ⟨.mkIface 2 (.p 24), (some 25), none⟩,
    ⟨.build [.int .u8 0, .nilI] [(0, 1, .c (.int .u8 18)), (1, 1, .p 25)], (some 26), none⟩,
    ⟨.boxobj (.p 26), (some 27), none⟩,
    ⟨.buildSl 46 1 [.nilptr] [(0, 1, .p 27)], (some 28), none⟩,
    ⟨.append 46 1 8 false (.t 23) (.p 28), (some 29), none⟩,
    ⟨.nilCheck (.p 19), (some 30), none⟩,
    ⟨.fieldAddr 1 (.p 30), (some 31), none⟩,
    ⟨.store 1 (.p 31) (.t 29), none, none⟩] .skip
@[simp] theorem xk9_2 : GoC fns Q s k9_2 st ↔ GoO fns Q s [⟨.move .look (.p 7), (some 19), none⟩,
    ⟨.move .look (.p 7), (some 20), none⟩,
    ⟨.nilCheck (.p 20), (some 21), none⟩,
    ⟨.fieldAddr 1 (.p 21), (some 22), none⟩,
    ⟨.load .take false 1 (.p 22), (some 23), none⟩,
    ⟨.move .look (.p 9), (some 24), none⟩,
    ⟨.mkIface 2 (.p 24), (some 25), none⟩,
    ⟨.build [.int .u8 0, .nilI] [(0, 1, .c (.int .u8 18)), (1, 1, .p 25)], (some 26), none⟩,
    ⟨.boxobj (.p 26), (some 27), none⟩,
    ⟨.buildSl 46 1 [.nilptr] [(0, 1, .p 27)], (some 28), none⟩,
    ⟨.append 46 1 8 false (.t 23) (.p 28), (some 29), none⟩,
    ⟨.nilCheck (.p 19), (some 30), none⟩,
    ⟨.fieldAddr 1 (.p 30), (some 31), none⟩,
    ⟨.store 1 (.p 31) (.t 29), none, none⟩] .skip st := goC_ops
def k9_3 : ACode :=
  .ops [⟨.indexAddr 1 (.t 13) (.p 15), (some 17), none⟩,
    ⟨.load .take false 1 (.p 17), (some 18), none⟩,
    ⟨.assign (.p 18), (some 9), none⟩] k9_2
@[simp] theorem xk9_3 : GoC fns Q s k9_3 st ↔ GoO fns Q s [⟨.indexAddr 1 (.t 13) (.p 15), (some 17), none⟩,
    ⟨.load .take false 1 (.p 17), (some 18), none⟩,
    ⟨.assign (.p 18), (some 9), none⟩] k9_2 st := goC_ops
def k9_4 : ACode :=
  .block 1 k9_3
@[simp] theorem xk9_4 : GoC fns Q s k9_4 st ↔ GoC fns Q (.bl 1 :: s) k9_3 st := goC_block
def k9_5 : ACode :=
  .seq k9_4 k9_1
@[simp] theorem xk9_5 : GoC fns Q s k9_5 st ↔ GoC fns Q (.sq k9_1 :: s) k9_4 st := goC_seq
def k9_6 : ACode :=
  .cond (.p 16) .skip (.exit 0)
@[simp] theorem xk9_6 : GoC fns Q s k9_6 st ↔ GB fns Q s (peek st (.p 16)) .skip (.exit 0) st := goC_cond
def k9_7 : ACode :=
  .seq k9_6 k9_5
@[simp] theorem xk9_7 : GoC fns Q s k9_7 st ↔ GoC fns Q (.sq k9_5 :: s) k9_6 st := goC_seq
def k9_8 : ACode :=
  .ops [⟨.bin .lss 1 false (.p 15) (.p 14), (some 16), none⟩] k9_7
@[simp] theorem xk9_8 : GoC fns Q s k9_8 st ↔ GoO fns Q s [⟨.bin .lss 1 false (.p 15) (.p 14), (some 16), none⟩] k9_7 st := goC_ops
def lc9_0 : ACode :=
  k9_8
@[simp] theorem xlc9_0 : GoC fns Q s lc9_0 st ↔ GoC fns Q s k9_8 st := Iff.rfl
def k9_10 : ACode :=
  .loop lc9_0
@[simp] theorem xk9_10 : GoC fns Q s k9_10 st ↔ (LoopR fns lc9_0 st fun r => GoE fns Q s r.1 r.2) := goC_loop
def k9_11 : ACode :=
  .block 0 k9_10
@[simp] theorem xk9_11 : GoC fns Q s k9_11 st ↔ GoC fns Q (.bl 0 :: s) k9_10 st := goC_block
def k9_12 : ACode :=
  .seq k9_11 k9_0
@[simp] theorem xk9_12 : GoC fns Q s k9_12 st ↔ GoC fns Q (.sq k9_0 :: s) k9_11 st := goC_seq
def k9_13 : ACode :=
  .ops [⟨.move .head (.t 1), (some 13), none⟩,
    ⟨.len false (.p 13), (some 14), none⟩,
    ⟨.move .head (.c (.int .i64 0)), (some 15), none⟩] k9_12
@[simp] theorem xk9_13 : GoC fns Q s k9_13 st ↔ GoO fns Q s [⟨.move .head (.t 1), (some 13), none⟩,
    ⟨.len false (.p 13), (some 14), none⟩,
    ⟨.move .head (.c (.int .i64 0)), (some 15), none⟩] k9_12 st := goC_ops
def k9_14 : ACode :=
  .ops [⟨.move .look (.t 0), (some 10), none⟩,
    ⟨.build [.slice .nil 0 1 [], .slice .nil 0 1 []] [(0, 1, .t 10)], (some 11), none⟩,
    ⟨.boxobj (.p 11), (some 12), none⟩,
    ⟨.assign (.p 12), (some 7), none⟩] k9_13
@[simp] theorem xk9_14 : GoC fns Q s k9_14 st ↔ GoO fns Q s [⟨.move .look (.t 0), (some 10), none⟩,
    ⟨.build [.slice .nil 0 1 [], .slice .nil 0 1 []] [(0, 1, .t 10)], (some 11), none⟩,
    ⟨.boxobj (.p 11), (some 12), none⟩,
    ⟨.assign (.p 12), (some 7), none⟩] k9_13 st := goC_ops
def k9_15 : ACode :=
  .ops [⟨.assign (.c (.int .u32 0)), (some 4), none⟩,
    ⟨.assign (.c (.int .u32 0)), (some 5), none⟩,
    ⟨.assign (.c (.nilI)), (some 6), none⟩] k9_14
@[simp] theorem xk9_15 : GoC fns Q s k9_15 st ↔ GoO fns Q s [⟨.assign (.c (.int .u32 0)), (some 4), none⟩,
    ⟨.assign (.c (.int .u32 0)), (some 5), none⟩,
    ⟨.assign (.c (.nilI)), (some 6), none⟩] k9_14 st := goC_ops
def af9 : AFunc := ⟨41, k9_15, [.tmp 4, .tmp 5, .tmp 6]⟩

theorem ok9 : ∃ hs, pFunc Try.prog sg hs Try.f9 = some af9 := ⟨fun i => if i == 12 then 1 else if i == 27 then 1 else if i == 36 then 1 else 0, by kernel_rfl⟩
/-- No. 7 -/
def k7_0 : ACode :=
  .ops [⟨.move .look (.p 6), (some 25), none⟩,
    ⟨.convInt .u64 (.p 25), (some 26), none⟩,
    ⟨.bin .shl 1 true (.p 26) (.c (.int .u64 32)), (some 27), none⟩,
    ⟨.move .look (.p 7), (some 28), none⟩,
    ⟨.convInt .u64 (.p 28), (some 29), none⟩,
    ⟨.bin .or 1 false (.p 27) (.p 29), (some 30), none⟩,
    ⟨.build [.int .i64 0, .str [], .str [], .int .i64 0, .int .u64 0, .int .u64 0, .slice .nil 0 1 [], .slice .nil 0 1 []] [(0, 1, .c (.int .i64 17)), (4, 1, .p 30)], (some 31), none⟩,
    ⟨.store 8 (.p 4) (.p 31), none, none⟩,
    ⟨.assign (.c (.bool true)), (some 5), none⟩] .ret
@[simp] theorem xk7_0 : GoC fns Q s k7_0 st ↔ GoO fns Q s [⟨.move .look (.p 6), (some 25), none⟩,
    ⟨.convInt .u64 (.p 25), (some 26), none⟩,
    ⟨.bin .shl 1 true (.p 26) (.c (.int .u64 32)), (some 27), none⟩,
    ⟨.move .look (.p 7), (some 28), none⟩,
    ⟨.convInt .u64 (.p 28), (some 29), none⟩,
    ⟨.bin .or 1 false (.p 27) (.p 29), (some 30), none⟩,
    ⟨.build [.int .i64 0, .str [], .str [], .int .i64 0, .int .u64 0, .int .u64 0, .slice .nil 0 1 [], .slice .nil 0 1 []] [(0, 1, .c (.int .i64 17)), (4, 1, .p 30)], (some 31), none⟩,
    ⟨.store 8 (.p 4) (.p 31), none, none⟩,
    ⟨.assign (.c (.bool true)), (some 5), none⟩] .ret st := goC_ops
def k7_1 : ACode :=
  .ops [⟨.build [.int .i64 0, .str [], .str [], .int .i64 0, .int .u64 0, .int .u64 0, .slice .nil 0 1 [], .slice .nil 0 1 []] [], (some 24), none⟩,
    ⟨.store 8 (.p 4) (.p 24), none, none⟩,
    ⟨.assign (.c (.bool false)), (some 5), none⟩] .ret
@[simp] theorem xk7_1 : GoC fns Q s k7_1 st ↔ GoO fns Q s [⟨.build [.int .i64 0, .str [], .str [], .int .i64 0, .int .u64 0, .int .u64 0, .slice .nil 0 1 [], .slice .nil 0 1 []] [], (some 24), none⟩,
    ⟨.store 8 (.p 4) (.p 24), none, none⟩,
    ⟨.assign (.c (.bool false)), (some 5), none⟩] .ret st := goC_ops
def k7_2 : ACode :=
  .cond (.p 23) k7_1 .skip
@[simp] theorem xk7_2 : GoC fns Q s k7_2 st ↔ GB fns Q s (peek st (.p 23)) k7_1 .skip st := goC_cond
def k7_3 : ACode :=
  .seq k7_2 k7_0
@[simp] theorem xk7_3 : GoC fns Q s k7_3 st ↔ GoC fns Q (.sq k7_0 :: s) k7_2 st := goC_seq
def k7_4 : ACode :=
  .ops [⟨.move .head (.p 8), (some 22), none⟩,
    ⟨.bin .neq 5 true (.p 22) (.c (.nilI)), (some 23), none⟩] k7_3
@[simp] theorem xk7_4 : GoC fns Q s k7_4 st ↔ GoO fns Q s [⟨.move .head (.p 8), (some 22), none⟩,
    ⟨.bin .neq 5 true (.p 22) (.c (.nilI)), (some 23), none⟩] k7_3 st := goC_ops
def k7_5 : ACode :=
  .ops [⟨.move .look (.t 0), (some 16), none⟩,
    ⟨.move .look (.t 1), (some 17), none⟩,
    ⟨.hcall 9 [(.t 16, false), (.t 17, false)], (some 18), none⟩,
    ⟨.move .look (.t 18), (some 15), none⟩,
    ⟨.extract 15 0, (some 19), none⟩,
    ⟨.extract 15 1, (some 20), none⟩,
    ⟨.extract 15 2, (some 21), none⟩,
    ⟨.assign (.p 19), (some 6), none⟩,
    ⟨.assign (.p 20), (some 7), none⟩,
    ⟨.assign (.p 21), (some 8), none⟩] k7_4
@[simp] theorem xk7_5 : GoC fns Q s k7_5 st ↔ GoO fns Q s [⟨.move .look (.t 0), (some 16), none⟩,
    ⟨.move .look (.t 1), (some 17), none⟩,
    ⟨.hcall 9 [(.t 16, false), (.t 17, false)], (some 18), none⟩,
    ⟨.move .look (.t 18), (some 15), none⟩,
    ⟨.extract 15 0, (some 19), none⟩,
    ⟨.extract 15 1, (some 20), none⟩,
    ⟨.extract 15 2, (some 21), none⟩,
    ⟨.assign (.p 19), (some 6), none⟩,
    ⟨.assign (.p 20), (some 7), none⟩,
    ⟨.assign (.p 21), (some 8), none⟩] k7_4 st := goC_ops
def k7_6 : ACode :=
  .ops [⟨.build [.int .i64 0, .str [], .str [], .int .i64 0, .int .u64 0, .int .u64 0, .slice .nil 0 1 [], .slice .nil 0 1 []] [], (some 14), none⟩,
    ⟨.store 8 (.p 4) (.p 14), none, none⟩,
    ⟨.assign (.c (.bool false)), (some 5), none⟩] .ret
@[simp] theorem xk7_6 : GoC fns Q s k7_6 st ↔ GoO fns Q s [⟨.build [.int .i64 0, .str [], .str [], .int .i64 0, .int .u64 0, .int .u64 0, .slice .nil 0 1 [], .slice .nil 0 1 []] [], (some 14), none⟩,
    ⟨.store 8 (.p 4) (.p 14), none, none⟩,
    ⟨.assign (.c (.bool false)), (some 5), none⟩] .ret st := goC_ops
def k7_7 : ACode :=
  .cond (.p 13) k7_6 .skip
@[simp] theorem xk7_7 : GoC fns Q s k7_7 st ↔ GB fns Q s (peek st (.p 13)) k7_6 .skip st := goC_cond
def k7_8 : ACode :=
  .seq k7_7 k7_5
@[simp] theorem xk7_8 : GoC fns Q s k7_8 st ↔ GoC fns Q (.sq k7_5 :: s) k7_7 st := goC_seq
def k7_9 : ACode :=
  .ops [⟨.move .head (.t 0), (some 9), none⟩,
    ⟨.len false (.p 9), (some 10), none⟩,
    ⟨.move .head (.t 1), (some 11), none⟩,
    ⟨.len false (.p 11), (some 12), none⟩,
    ⟨.bin .neq 1 false (.p 10) (.p 12), (some 13), none⟩] k7_8
@[simp] theorem xk7_9 : GoC fns Q s k7_9 st ↔ GoO fns Q s [⟨.move .head (.t 0), (some 9), none⟩,
    ⟨.len false (.p 9), (some 10), none⟩,
    ⟨.move .head (.t 1), (some 11), none⟩,
    ⟨.len false (.p 11), (some 12), none⟩,
    ⟨.bin .neq 1 false (.p 10) (.p 12), (some 13), none⟩] k7_8 st := goC_ops
def k7_10 : ACode :=
  .ops [⟨.newbox 4 [.int .i64 0, .str [], .str [], .int .i64 0, .int .u64 0, .int .u64 0, .slice .nil 0 1 [], .slice .nil 0 1 []], (some 4), none⟩,
    ⟨.assign (.c (.bool false)), (some 5), none⟩] k7_9
@[simp] theorem xk7_10 : GoC fns Q s k7_10 st ↔ GoO fns Q s [⟨.newbox 4 [.int .i64 0, .str [], .str [], .int .i64 0, .int .u64 0, .int .u64 0, .slice .nil 0 1 [], .slice .nil 0 1 []], (some 4), none⟩,
    ⟨.assign (.c (.bool false)), (some 5), none⟩] k7_9 st := goC_ops
def af7 : AFunc := ⟨32, k7_10, [.cell 4 true 8, .tmp 5]⟩

theorem ok7 : ∃ hs, pFunc Try.prog sg hs Try.f7 = some af7 := ⟨fun i => 0, by kernel_rfl⟩
/-- No. 8 -/
def k8_0 : ACode :=
  .ops [⟨.move .head (.p 1), (some 9), none⟩,
    ⟨.move .head (.p 3), (some 10), none⟩,
    ⟨.bin .eql 0 false (.p 9) (.p 10), (some 11), none⟩,
    ⟨.move .look (.p 11), (some 12), none⟩,
    ⟨.move .look (.p 3), (some 13), (some (12, true))⟩,
    ⟨.un .not (.p 13), (some 14), (some (12, true))⟩,
    ⟨.move .look (.p 14), (some 15), (some (12, true))⟩,
    ⟨.fieldAddr 0 (.p 4), (some 16), (some (15, false))⟩,
    ⟨.load .head false 1 (.p 16), (some 17), (some (15, false))⟩,
    ⟨.fieldAddr 0 (.p 6), (some 18), (some (15, false))⟩,
    ⟨.load .head false 1 (.p 18), (some 19), (some (15, false))⟩,
    ⟨.bin .eql 1 false (.p 17) (.p 19), (some 20), (some (15, false))⟩,
    ⟨.move .look (.p 20), (some 21), (some (15, false))⟩,
    ⟨.fieldAddr 1 (.p 4), (some 22), (some (21, true))⟩,
    ⟨.load .head false 1 (.p 22), (some 23), (some (21, true))⟩,
    ⟨.fieldAddr 1 (.p 6), (some 24), (some (21, true))⟩,
    ⟨.load .head false 1 (.p 24), (some 25), (some (21, true))⟩,
    ⟨.bin .eql 2 false (.p 23) (.p 25), (some 26), (some (21, true))⟩,
    ⟨.pick (.p 21) (.p 26) (.c (.bool false)), (some 27), (some (15, false))⟩,
    ⟨.move .look (.p 27), (some 28), (some (15, false))⟩,
    ⟨.fieldAddr 2 (.p 4), (some 29), (some (28, true))⟩,
    ⟨.load .head false 1 (.p 29), (some 30), (some (28, true))⟩,
    ⟨.fieldAddr 2 (.p 6), (some 31), (some (28, true))⟩,
    ⟨.load .head false 1 (.p 31), (some 32), (some (28, true))⟩,
    ⟨.bin .eql 2 false (.p 30) (.p 32), (some 33), (some (28, true))⟩,
    ⟨.pick (.p 28) (.p 33) (.c (.bool false)), (some 34), (some (15, false))⟩,
    ⟨.move .look (.p 34), (some 35), (some (15, false))⟩,
    ⟨.fieldAddr 3 (.p 4), (some 36), (some (35, true))⟩,
    ⟨.load .head false 1 (.p 36), (some 37), (some (35, true))⟩,
    ⟨.fieldAddr 3 (.p 6), (some 38), (some (35, true))⟩,
    ⟨.load .head false 1 (.p 38), (some 39), (some (35, true))⟩,
    ⟨.bin .eql 1 false (.p 37) (.p 39), (some 40), (some (35, true))⟩,
    ⟨.pick (.p 35) (.p 40) (.c (.bool false)), (some 41), (some (15, false))⟩,
    ⟨.move .look (.p 41), (some 42), (some (15, false))⟩,
    ⟨.fieldAddr 4 (.p 4), (some 43), (some (42, true))⟩,
    ⟨.load .head false 1 (.p 43), (some 44), (some (42, true))⟩,
    ⟨.fieldAddr 4 (.p 6), (some 45), (some (42, true))⟩,
    ⟨.load .head false 1 (.p 45), (some 46), (some (42, true))⟩,
    ⟨.bin .eql 1 false (.p 44) (.p 46), (some 47), (some (42, true))⟩,
    ⟨.pick (.p 42) (.p 47) (.c (.bool false)), (some 48), (some (15, false))⟩,
    ⟨.move .look (.p 48), (some 49), (some (15, false))⟩,
    ⟨.fieldAddr 6 (.p 4), (some 50), (some (49, true))⟩,
    ⟨.load .look false 1 (.p 50), (some 51), (some (49, true))⟩,
    ⟨.convBS (.t 51), (some 52), (some (49, true))⟩,
    ⟨.fieldAddr 6 (.p 6), (some 53), (some (49, true))⟩,
    ⟨.load .look false 1 (.p 53), (some 54), (some (49, true))⟩,
    ⟨.convBS (.t 54), (some 55), (some (49, true))⟩,
    ⟨.bin .eql 2 false (.p 52) (.p 55), (some 56), (some (49, true))⟩,
    ⟨.pick (.p 49) (.p 56) (.c (.bool false)), (some 57), (some (15, false))⟩,
    ⟨.pick (.p 15) (.c (.bool true)) (.p 57), (some 58), (some (12, true))⟩,
    ⟨.pick (.p 12) (.p 58) (.c (.bool false)), (some 59), none⟩,
    ⟨.assign (.p 59), (some 8), none⟩] .ret
@[simp] theorem xk8_0 : GoC fns Q s k8_0 st ↔ GoO fns Q s [⟨.move .head (.p 1), (some 9), none⟩,
    ⟨.move .head (.p 3), (some 10), none⟩,
    ⟨.bin .eql 0 false (.p 9) (.p 10), (some 11), none⟩,
    ⟨.move .look (.p 11), (some 12), none⟩,
    ⟨.move .look (.p 3), (some 13), (some (12, true))⟩,
    ⟨.un .not (.p 13), (some 14), (some (12, true))⟩,
    ⟨.move .look (.p 14), (some 15), (some (12, true))⟩,
    ⟨.fieldAddr 0 (.p 4), (some 16), (some (15, false))⟩,
    ⟨.load .head false 1 (.p 16), (some 17), (some (15, false))⟩,
    ⟨.fieldAddr 0 (.p 6), (some 18), (some (15, false))⟩,
    ⟨.load .head false 1 (.p 18), (some 19), (some (15, false))⟩,
    ⟨.bin .eql 1 false (.p 17) (.p 19), (some 20), (some (15, false))⟩,
    ⟨.move .look (.p 20), (some 21), (some (15, false))⟩,
    ⟨.fieldAddr 1 (.p 4), (some 22), (some (21, true))⟩,
    ⟨.load .head false 1 (.p 22), (some 23), (some (21, true))⟩,
    ⟨.fieldAddr 1 (.p 6), (some 24), (some (21, true))⟩,
    ⟨.load .head false 1 (.p 24), (some 25), (some (21, true))⟩,
    ⟨.bin .eql 2 false (.p 23) (.p 25), (some 26), (some (21, true))⟩,
    ⟨.pick (.p 21) (.p 26) (.c (.bool false)), (some 27), (some (15, false))⟩,
    ⟨.move .look (.p 27), (some 28), (some (15, false))⟩,
    ⟨.fieldAddr 2 (.p 4), (some 29), (some (28, true))⟩,
    ⟨.load .head false 1 (.p 29), (some 30), (some (28, true))⟩,
    ⟨.fieldAddr 2 (.p 6), (some 31), (some (28, true))⟩,
    ⟨.load .head false 1 (.p 31), (some 32), (some (28, true))⟩,
    ⟨.bin .eql 2 false (.p 30) (.p 32), (some 33), (some (28, true))⟩,
    ⟨.pick (.p 28) (.p 33) (.c (.bool false)), (some 34), (some (15, false))⟩,
    ⟨.move .look (.p 34), (some 35), (some (15, false))⟩,
    ⟨.fieldAddr 3 (.p 4), (some 36), (some (35, true))⟩,
    ⟨.load .head false 1 (.p 36), (some 37), (some (35, true))⟩,
    ⟨.fieldAddr 3 (.p 6), (some 38), (some (35, true))⟩,
    ⟨.load .head false 1 (.p 38), (some 39), (some (35, true))⟩,
    ⟨.bin .eql 1 false (.p 37) (.p 39), (some 40), (some (35, true))⟩,
    ⟨.pick (.p 35) (.p 40) (.c (.bool false)), (some 41), (some (15, false))⟩,
    ⟨.move .look (.p 41), (some 42), (some (15, false))⟩,
    ⟨.fieldAddr 4 (.p 4), (some 43), (some (42, true))⟩,
    ⟨.load .head false 1 (.p 43), (some 44), (some (42, true))⟩,
    ⟨.fieldAddr 4 (.p 6), (some 45), (some (42, true))⟩,
    ⟨.load .head false 1 (.p 45), (some 46), (some (42, true))⟩,
    ⟨.bin .eql 1 false (.p 44) (.p 46), (some 47), (some (42, true))⟩,
    ⟨.pick (.p 42) (.p 47) (.c (.bool false)), (some 48), (some (15, false))⟩,
    ⟨.move .look (.p 48), (some 49), (some (15, false))⟩,
    ⟨.fieldAddr 6 (.p 4), (some 50), (some (49, true))⟩,
    ⟨.load .look false 1 (.p 50), (some 51), (some (49, true))⟩,
    ⟨.convBS (.t 51), (some 52), (some (49, true))⟩,
    ⟨.fieldAddr 6 (.p 6), (some 53), (some (49, true))⟩,
    ⟨.load .look false 1 (.p 53), (some 54), (some (49, true))⟩,
    ⟨.convBS (.t 54), (some 55), (some (49, true))⟩,
    ⟨.bin .eql 2 false (.p 52) (.p 55), (some 56), (some (49, true))⟩,
    ⟨.pick (.p 49) (.p 56) (.c (.bool false)), (some 57), (some (15, false))⟩,
    ⟨.pick (.p 15) (.c (.bool true)) (.p 57), (some 58), (some (12, true))⟩,
    ⟨.pick (.p 12) (.p 58) (.c (.bool false)), (some 59), none⟩,
    ⟨.assign (.p 59), (some 8), none⟩] .ret st := goC_ops
def k8_1 : ACode :=
  .ops [⟨.box 4 (.p 0), (some 4), none⟩,
    ⟨.box 6 (.p 2), (some 6), none⟩,
    ⟨.assign (.c (.bool false)), (some 8), none⟩] k8_0
@[simp] theorem xk8_1 : GoC fns Q s k8_1 st ↔ GoO fns Q s [⟨.box 4 (.p 0), (some 4), none⟩,
    ⟨.box 6 (.p 2), (some 6), none⟩,
    ⟨.assign (.c (.bool false)), (some 8), none⟩] k8_0 st := goC_ops
def af8 : AFunc := ⟨60, k8_1, [.tmp 8]⟩

theorem ok8 : ∃ hs, pFunc Try.prog sg hs Try.f8 = some af8 := ⟨fun i => 0, by kernel_rfl⟩
/-- No. 3 -/
def k3_0 : ACode :=
  .ops [⟨.move .look (.p 10), (some 48), none⟩,
    ⟨.move .look (.p 48), (some 49), none⟩,
    ⟨.fieldAddr 4 (.p 9), (some 50), (some (49, true))⟩,
    ⟨.load .head false 1 (.p 50), (some 51), (some (49, true))⟩,
    ⟨.bin .eql 1 true (.p 51) (.c (.int .u64 4294967298)), (some 52), (some (49, true))⟩,
    ⟨.pick (.p 49) (.p 52) (.c (.bool false)), (some 53), none⟩,
    ⟨.move .look (.p 53), (some 54), none⟩,
    ⟨.load .look true 8 (.p 7), (some 55), (some (54, true))⟩,
    ⟨.move .look (.p 8), (some 56), (some (54, true))⟩,
    ⟨.load .look true 8 (.p 5), (some 57), (some (54, true))⟩,
    ⟨.move .look (.p 6), (some 58), (some (54, true))⟩,
    ⟨.call 8 [(.p 55, false), (.p 56, false), (.p 57, false), (.p 58, false)], (some 59), (some (54, true))⟩,
    ⟨.pick (.p 54) (.p 59) (.c (.bool false)), (some 60), none⟩,
    ⟨.assign (.p 60), (some 4), none⟩] .ret
@[simp] theorem xk3_0 : GoC fns Q s k3_0 st ↔ GoO fns Q s [⟨.move .look (.p 10), (some 48), none⟩,
    ⟨.move .look (.p 48), (some 49), none⟩,
    ⟨.fieldAddr 4 (.p 9), (some 50), (some (49, true))⟩,
    ⟨.load .head false 1 (.p 50), (some 51), (some (49, true))⟩,
    ⟨.bin .eql 1 true (.p 51) (.c (.int .u64 4294967298)), (some 52), (some (49, true))⟩,
    ⟨.pick (.p 49) (.p 52) (.c (.bool false)), (some 53), none⟩,
    ⟨.move .look (.p 53), (some 54), none⟩,
    ⟨.load .look true 8 (.p 7), (some 55), (some (54, true))⟩,
    ⟨.move .look (.p 8), (some 56), (some (54, true))⟩,
    ⟨.load .look true 8 (.p 5), (some 57), (some (54, true))⟩,
    ⟨.move .look (.p 6), (some 58), (some (54, true))⟩,
    ⟨.call 8 [(.p 55, false), (.p 56, false), (.p 57, false), (.p 58, false)], (some 59), (some (54, true))⟩,
    ⟨.pick (.p 54) (.p 59) (.c (.bool false)), (some 60), none⟩,
    ⟨.assign (.p 60), (some 4), none⟩] .ret st := goC_ops
def k3_1 : ACode :=
  .ops [⟨.buildSl 9 1 [.str [], .str []] [(0, 1, .c (.str [116])), (1, 1, .c (.str [105]))], (some 43), none⟩,
    ⟨.buildSl 2 1 [.int .i64 0, .int .i64 0] [(0, 1, .c (.int .i64 1)), (1, 1, .c (.int .i64 2))], (some 44), none⟩,
    ⟨.call 7 [(.t 43, false), (.t 44, false)], (some 45), none⟩,
    ⟨.move .look (.t 45), (some 42), none⟩,
    ⟨.extract 42 0, (some 46), none⟩,
    ⟨.extract 42 1, (some 47), none⟩,
    ⟨.newbox 9 [.int .i64 0, .str [], .str [], .int .i64 0, .int .u64 0, .int .u64 0, .slice .nil 0 1 [], .slice .nil 0 1 []], (some 9), none⟩,
    ⟨.store 8 (.p 9) (.p 46), none, none⟩,
    ⟨.assign (.p 47), (some 10), none⟩] k3_0
@[simp] theorem xk3_1 : GoC fns Q s k3_1 st ↔ GoO fns Q s [⟨.buildSl 9 1 [.str [], .str []] [(0, 1, .c (.str [116])), (1, 1, .c (.str [105]))], (some 43), none⟩,
    ⟨.buildSl 2 1 [.int .i64 0, .int .i64 0] [(0, 1, .c (.int .i64 1)), (1, 1, .c (.int .i64 2))], (some 44), none⟩,
    ⟨.call 7 [(.t 43, false), (.t 44, false)], (some 45), none⟩,
    ⟨.move .look (.t 45), (some 42), none⟩,
    ⟨.extract 42 0, (some 46), none⟩,
    ⟨.extract 42 1, (some 47), none⟩,
    ⟨.newbox 9 [.int .i64 0, .str [], .str [], .int .i64 0, .int .u64 0, .int .u64 0, .slice .nil 0 1 [], .slice .nil 0 1 []], (some 9), none⟩,
    ⟨.store 8 (.p 9) (.p 46), none, none⟩,
    ⟨.assign (.p 47), (some 10), none⟩] k3_0 st := goC_ops
def k3_2 : ACode :=
  .ops [⟨.move .look (.t 0), (some 37), none⟩,
    ⟨.move .look (.t 1), (some 38), none⟩,
    ⟨.call 7 [(.t 37, false), (.t 38, false)], (some 39), none⟩,
    ⟨.move .look (.t 39), (some 36), none⟩,
    ⟨.extract 36 0, (some 40), none⟩,
    ⟨.extract 36 1, (some 41), none⟩,
    ⟨.newbox 7 [.int .i64 0, .str [], .str [], .int .i64 0, .int .u64 0, .int .u64 0, .slice .nil 0 1 [], .slice .nil 0 1 []], (some 7), none⟩,
    ⟨.store 8 (.p 7) (.p 40), none, none⟩,
    ⟨.assign (.p 41), (some 8), none⟩] k3_1
@[simp] theorem xk3_2 : GoC fns Q s k3_2 st ↔ GoO fns Q s [⟨.move .look (.t 0), (some 37), none⟩,
    ⟨.move .look (.t 1), (some 38), none⟩,
    ⟨.call 7 [(.t 37, false), (.t 38, false)], (some 39), none⟩,
    ⟨.move .look (.t 39), (some 36), none⟩,
    ⟨.extract 36 0, (some 40), none⟩,
    ⟨.extract 36 1, (some 41), none⟩,
    ⟨.newbox 7 [.int .i64 0, .str [], .str [], .int .i64 0, .int .u64 0, .int .u64 0, .slice .nil 0 1 [], .slice .nil 0 1 []], (some 7), none⟩,
    ⟨.store 8 (.p 7) (.p 40), none, none⟩,
    ⟨.assign (.p 41), (some 8), none⟩] k3_1 st := goC_ops
def k3_3 : ACode :=
  .ops [⟨.move .look (.t 0), (some 31), none⟩,
    ⟨.move .look (.t 1), (some 32), none⟩,
    ⟨.call 6 [(.t 31, false), (.t 32, false)], (some 33), none⟩,
    ⟨.move .look (.t 33), (some 30), none⟩,
    ⟨.extract 30 0, (some 34), none⟩,
    ⟨.extract 30 1, (some 35), none⟩,
    ⟨.newbox 5 [.int .i64 0, .str [], .str [], .int .i64 0, .int .u64 0, .int .u64 0, .slice .nil 0 1 [], .slice .nil 0 1 []], (some 5), none⟩,
    ⟨.store 8 (.p 5) (.p 34), none, none⟩,
    ⟨.assign (.p 35), (some 6), none⟩] k3_2
@[simp] theorem xk3_3 : GoC fns Q s k3_3 st ↔ GoO fns Q s [⟨.move .look (.t 0), (some 31), none⟩,
    ⟨.move .look (.t 1), (some 32), none⟩,
    ⟨.call 6 [(.t 31, false), (.t 32, false)], (some 33), none⟩,
    ⟨.move .look (.t 33), (some 30), none⟩,
    ⟨.extract 30 0, (some 34), none⟩,
    ⟨.extract 30 1, (some 35), none⟩,
    ⟨.newbox 5 [.int .i64 0, .str [], .str [], .int .i64 0, .int .u64 0, .int .u64 0, .slice .nil 0 1 [], .slice .nil 0 1 []], (some 5), none⟩,
    ⟨.store 8 (.p 5) (.p 34), none, none⟩,
    ⟨.assign (.p 35), (some 6), none⟩] k3_2 st := goC_ops
def k3_4 : ACode :=
  .ops [⟨.assign (.c (.bool true)), (some 4), none⟩] .ret
@[simp] theorem xk3_4 : GoC fns Q s k3_4 st ↔ GoO fns Q s [⟨.assign (.c (.bool true)), (some 4), none⟩] .ret st := goC_ops
def k3_5 : ACode :=
  .cond (.p 29) k3_4 .skip
@[simp] theorem xk3_5 : GoC fns Q s k3_5 st ↔ GB fns Q s (peek st (.p 29)) k3_4 .skip st := goC_cond
def k3_6 : ACode :=
  .seq k3_5 k3_3
@[simp] theorem xk3_6 : GoC fns Q s k3_6 st ↔ GoC fns Q (.sq k3_3 :: s) k3_5 st := goC_seq
def k3_7 : ACode :=
  .ops [⟨.move .look (.t 0), (some 19), none⟩,
    ⟨.buildSl 22 1 [.slice .nil 0 1 []] [(0, 1, .t 19)], (some 20), none⟩,
    ⟨.call 5 [(.t 20, false)], (some 21), none⟩,
    ⟨.un .not (.p 21), (some 22), none⟩,
    ⟨.move .look (.p 22), (some 23), none⟩,
    ⟨.move .head (.t 0), (some 24), (some (23, false))⟩,
    ⟨.len false (.p 24), (some 25), (some (23, false))⟩,
    ⟨.move .head (.t 1), (some 26), (some (23, false))⟩,
    ⟨.len false (.p 26), (some 27), (some (23, false))⟩,
    ⟨.bin .neq 1 false (.p 25) (.p 27), (some 28), (some (23, false))⟩,
    ⟨.pick (.p 23) (.c (.bool true)) (.p 28), (some 29), none⟩] k3_6
@[simp] theorem xk3_7 : GoC fns Q s k3_7 st ↔ GoO fns Q s [⟨.move .look (.t 0), (some 19), none⟩,
    ⟨.buildSl 22 1 [.slice .nil 0 1 []] [(0, 1, .t 19)], (some 20), none⟩,
    ⟨.call 5 [(.t 20, false)], (some 21), none⟩,
    ⟨.un .not (.p 21), (some 22), none⟩,
    ⟨.move .look (.p 22), (some 23), none⟩,
    ⟨.move .head (.t 0), (some 24), (some (23, false))⟩,
    ⟨.len false (.p 24), (some 25), (some (23, false))⟩,
    ⟨.move .head (.t 1), (some 26), (some (23, false))⟩,
    ⟨.len false (.p 26), (some 27), (some (23, false))⟩,
    ⟨.bin .neq 1 false (.p 25) (.p 27), (some 28), (some (23, false))⟩,
    ⟨.pick (.p 23) (.c (.bool true)) (.p 28), (some 29), none⟩] k3_6 st := goC_ops
def k3_8 : ACode :=
  .ops [⟨.assign (.c (.bool true)), (some 4), none⟩] .ret
@[simp] theorem xk3_8 : GoC fns Q s k3_8 st ↔ GoO fns Q s [⟨.assign (.c (.bool true)), (some 4), none⟩] .ret st := goC_ops
def k3_9 : ACode :=
  .cond (.p 18) k3_8 .skip
@[simp] theorem xk3_9 : GoC fns Q s k3_9 st ↔ GB fns Q s (peek st (.p 18)) k3_8 .skip st := goC_cond
def k3_10 : ACode :=
  .seq k3_9 k3_7
@[simp] theorem xk3_10 : GoC fns Q s k3_10 st ↔ GoC fns Q (.sq k3_7 :: s) k3_9 st := goC_seq
def k3_11 : ACode :=
  .ops [⟨.move .look (.t 0), (some 11), none⟩,
    ⟨.call 4 [(.t 11, false)], (some 12), none⟩,
    ⟨.un .not (.p 12), (some 13), none⟩,
    ⟨.move .look (.p 13), (some 14), none⟩,
    ⟨.move .head (.t 1), (some 15), (some (14, false))⟩,
    ⟨.len false (.p 15), (some 16), (some (14, false))⟩,
    ⟨.bin .gtr 1 true (.p 16) (.c (.int .i64 2147483647)), (some 17), (some (14, false))⟩,
    ⟨.pick (.p 14) (.c (.bool true)) (.p 17), (some 18), none⟩] k3_10
@[simp] theorem xk3_11 : GoC fns Q s k3_11 st ↔ GoO fns Q s [⟨.move .look (.t 0), (some 11), none⟩,
    ⟨.call 4 [(.t 11, false)], (some 12), none⟩,
    ⟨.un .not (.p 12), (some 13), none⟩,
    ⟨.move .look (.p 13), (some 14), none⟩,
    ⟨.move .head (.t 1), (some 15), (some (14, false))⟩,
    ⟨.len false (.p 15), (some 16), (some (14, false))⟩,
    ⟨.bin .gtr 1 true (.p 16) (.c (.int .i64 2147483647)), (some 17), (some (14, false))⟩,
    ⟨.pick (.p 14) (.c (.bool true)) (.p 17), (some 18), none⟩] k3_10 st := goC_ops
def k3_12 : ACode :=
  .ops [⟨.assign (.c (.bool false)), (some 4), none⟩] k3_11
@[simp] theorem xk3_12 : GoC fns Q s k3_12 st ↔ GoO fns Q s [⟨.assign (.c (.bool false)), (some 4), none⟩] k3_11 st := goC_ops
def af3 : AFunc := ⟨61, k3_12, [.tmp 4]⟩

theorem ok3 : ∃ hs, pFunc Try.prog sg hs Try.f3 = some af3 := ⟨fun i => 0, by kernel_rfl⟩
end
def fns : FuncId → Option AFunc
  | 4 => some af4
  | 5 => some af5
  | 6 => some af6
  | 11 => some af11
  | 12 => some af12
  | 10 => some af10
  | 9 => some af9
  | 7 => some af7
  | 8 => some af8
  | 3 => some af3
  | _ => none
theorem run4 {vs : List AV} {h0 : H} (hl : vs.length ≤ 18) {r : AV × H} (h : GoC fns (fun e => xends [.tmp 2] e = some r) [] k4_20 ⟨fun j => (vs[j]?).getD .undef, fun _ => none, h0⟩) : callω fns 4 vs h0 = some r :=
  callω_run fns (af := af4) rfl rfl rfl hl h
theorem runs4 {vs : List AV} {h0 : H} (hl : vs.length ≤ 18) {p : AV × H → Prop} (h : GoC fns (fun e => Run (xends [.tmp 2] e) p) [] k4_20 ⟨fun j => (vs[j]?).getD .undef, fun _ => none, h0⟩) : CW fns 4 vs h0 p :=
  callω_runs fns (af := af4) rfl rfl rfl hl h
theorem run5 {vs : List AV} {h0 : H} (hl : vs.length ≤ 27) {r : AV × H} (h : GoC fns (fun e => xends [.tmp 2] e = some r) [] k5_31 ⟨fun j => (vs[j]?).getD .undef, fun _ => none, h0⟩) : callω fns 5 vs h0 = some r :=
  callω_run fns (af := af5) rfl rfl rfl hl h
theorem runs5 {vs : List AV} {h0 : H} (hl : vs.length ≤ 27) {p : AV × H → Prop} (h : GoC fns (fun e => Run (xends [.tmp 2] e) p) [] k5_31 ⟨fun j => (vs[j]?).getD .undef, fun _ => none, h0⟩) : CW fns 5 vs h0 p :=
  callω_runs fns (af := af5) rfl rfl rfl hl h
theorem run6 {vs : List AV} {h0 : H} (hl : vs.length ≤ 68) {r : AV × H} (h : GoC fns (fun e => xends [.cell 4 true 8, .tmp 5] e = some r) [] k6_17 ⟨fun j => (vs[j]?).getD .undef, fun _ => none, h0⟩) : callω fns 6 vs h0 = some r :=
  callω_run fns (af := af6) rfl rfl rfl hl h
theorem runs6 {vs : List AV} {h0 : H} (hl : vs.length ≤ 68) {p : AV × H → Prop} (h : GoC fns (fun e => Run (xends [.cell 4 true 8, .tmp 5] e) p) [] k6_17 ⟨fun j => (vs[j]?).getD .undef, fun _ => none, h0⟩) : CW fns 6 vs h0 p :=
  callω_runs fns (af := af6) rfl rfl rfl hl h
theorem run11 {vs : List AV} {h0 : H} (hl : vs.length ≤ 7) {r : AV × H} (h : GoC fns (fun e => xends [.tmp 2] e = some r) [] k11_1 ⟨fun j => (vs[j]?).getD .undef, fun _ => none, h0⟩) : callω fns 11 vs h0 = some r :=
  callω_run fns (af := af11) rfl rfl rfl hl h
theorem runs11 {vs : List AV} {h0 : H} (hl : vs.length ≤ 7) {p : AV × H → Prop} (h : GoC fns (fun e => Run (xends [.tmp 2] e) p) [] k11_1 ⟨fun j => (vs[j]?).getD .undef, fun _ => none, h0⟩) : CW fns 11 vs h0 p :=
  callω_runs fns (af := af11) rfl rfl rfl hl h
theorem run12 {vs : List AV} {h0 : H} (hl : vs.length ≤ 45) {r : AV × H} (h : GoC fns (fun e => xends [.tmp 6, .tmp 7] e = some r) [] k12_24 ⟨fun j => (vs[j]?).getD .undef, fun _ => none, h0⟩) : callω fns 12 vs h0 = some r :=
  callω_run fns (af := af12) rfl rfl rfl hl h
theorem runs12 {vs : List AV} {h0 : H} (hl : vs.length ≤ 45) {p : AV × H → Prop} (h : GoC fns (fun e => Run (xends [.tmp 6, .tmp 7] e) p) [] k12_24 ⟨fun j => (vs[j]?).getD .undef, fun _ => none, h0⟩) : CW fns 12 vs h0 p :=
  callω_runs fns (af := af12) rfl rfl rfl hl h
theorem run10 {vs : List AV} {h0 : H} (hl : vs.length ≤ 77) {r : AV × H} (h : GoC fns (fun e => xends [.tmp 2, .tmp 3, .tmp 4] e = some r) [] k10_49 ⟨fun j => (vs[j]?).getD .undef, fun _ => none, h0⟩) : callω fns 10 vs h0 = some r :=
  callω_run fns (af := af10) rfl rfl rfl hl h
theorem runs10 {vs : List AV} {h0 : H} (hl : vs.length ≤ 77) {p : AV × H → Prop} (h : GoC fns (fun e => Run (xends [.tmp 2, .tmp 3, .tmp 4] e) p) [] k10_49 ⟨fun j => (vs[j]?).getD .undef, fun _ => none, h0⟩) : CW fns 10 vs h0 p :=
  callω_runs fns (af := af10) rfl rfl rfl hl h
theorem run9 {vs : List AV} {h0 : H} (hl : vs.length ≤ 41) {r : AV × H} (h : GoC fns (fun e => xends [.tmp 4, .tmp 5, .tmp 6] e = some r) [] k9_15 ⟨fun j => (vs[j]?).getD .undef, fun _ => none, h0⟩) : callω fns 9 vs h0 = some r :=
  callω_run fns (af := af9) rfl rfl rfl hl h
theorem runs9 {vs : List AV} {h0 : H} (hl : vs.length ≤ 41) {p : AV × H → Prop} (h : GoC fns (fun e => Run (xends [.tmp 4, .tmp 5, .tmp 6] e) p) [] k9_15 ⟨fun j => (vs[j]?).getD .undef, fun _ => none, h0⟩) : CW fns 9 vs h0 p :=
  callω_runs fns (af := af9) rfl rfl rfl hl h
theorem run7 {vs : List AV} {h0 : H} (hl : vs.length ≤ 32) {r : AV × H} (h : GoC fns (fun e => xends [.cell 4 true 8, .tmp 5] e = some r) [] k7_10 ⟨fun j => (vs[j]?).getD .undef, fun _ => none, h0⟩) : callω fns 7 vs h0 = some r :=
  callω_run fns (af := af7) rfl rfl rfl hl h
theorem runs7 {vs : List AV} {h0 : H} (hl : vs.length ≤ 32) {p : AV × H → Prop} (h : GoC fns (fun e => Run (xends [.cell 4 true 8, .tmp 5] e) p) [] k7_10 ⟨fun j => (vs[j]?).getD .undef, fun _ => none, h0⟩) : CW fns 7 vs h0 p :=
  callω_runs fns (af := af7) rfl rfl rfl hl h
theorem run8 {vs : List AV} {h0 : H} (hl : vs.length ≤ 60) {r : AV × H} (h : GoC fns (fun e => xends [.tmp 8] e = some r) [] k8_1 ⟨fun j => (vs[j]?).getD .undef, fun _ => none, h0⟩) : callω fns 8 vs h0 = some r :=
  callω_run fns (af := af8) rfl rfl rfl hl h
theorem runs8 {vs : List AV} {h0 : H} (hl : vs.length ≤ 60) {p : AV × H → Prop} (h : GoC fns (fun e => Run (xends [.tmp 8] e) p) [] k8_1 ⟨fun j => (vs[j]?).getD .undef, fun _ => none, h0⟩) : CW fns 8 vs h0 p :=
  callω_runs fns (af := af8) rfl rfl rfl hl h
theorem run3 {vs : List AV} {h0 : H} (hl : vs.length ≤ 61) {r : AV × H} (h : GoC fns (fun e => xends [.tmp 4] e = some r) [] k3_12 ⟨fun j => (vs[j]?).getD .undef, fun _ => none, h0⟩) : callω fns 3 vs h0 = some r :=
  callω_run fns (af := af3) rfl rfl rfl hl h
theorem runs3 {vs : List AV} {h0 : H} (hl : vs.length ≤ 61) {p : AV × H → Prop} (h : GoC fns (fun e => Run (xends [.tmp 4] e) p) [] k3_12 ⟨fun j => (vs[j]?).getD .undef, fun _ => none, h0⟩) : CW fns 3 vs h0 p :=
  callω_runs fns (af := af3) rfl rfl rfl hl h

theorem runv4 {vs : List AV} {h0 : H} (hl : vs.length ≤ 18) {v : AV} (h : GoC fns (fun e => Run (xends [.tmp 2] e) fun q => noHeap h0.n q = some v) [] k4_20 ⟨fun j => (vs[j]?).getD .undef, fun _ => none, h0⟩) : callv fns 4 vs h0 = some v :=
  callω_runv fns (af := af4) rfl rfl rfl hl h
theorem runv5 {vs : List AV} {h0 : H} (hl : vs.length ≤ 27) {v : AV} (h : GoC fns (fun e => Run (xends [.tmp 2] e) fun q => noHeap h0.n q = some v) [] k5_31 ⟨fun j => (vs[j]?).getD .undef, fun _ => none, h0⟩) : callv fns 5 vs h0 = some v :=
  callω_runv fns (af := af5) rfl rfl rfl hl h
theorem runv6 {vs : List AV} {h0 : H} (hl : vs.length ≤ 68) {v : AV} (h : GoC fns (fun e => Run (xends [.cell 4 true 8, .tmp 5] e) fun q => noHeap h0.n q = some v) [] k6_17 ⟨fun j => (vs[j]?).getD .undef, fun _ => none, h0⟩) : callv fns 6 vs h0 = some v :=
  callω_runv fns (af := af6) rfl rfl rfl hl h
theorem runv11 {vs : List AV} {h0 : H} (hl : vs.length ≤ 7) {v : AV} (h : GoC fns (fun e => Run (xends [.tmp 2] e) fun q => noHeap h0.n q = some v) [] k11_1 ⟨fun j => (vs[j]?).getD .undef, fun _ => none, h0⟩) : callv fns 11 vs h0 = some v :=
  callω_runv fns (af := af11) rfl rfl rfl hl h
theorem runv12 {vs : List AV} {h0 : H} (hl : vs.length ≤ 45) {v : AV} (h : GoC fns (fun e => Run (xends [.tmp 6, .tmp 7] e) fun q => noHeap h0.n q = some v) [] k12_24 ⟨fun j => (vs[j]?).getD .undef, fun _ => none, h0⟩) : callv fns 12 vs h0 = some v :=
  callω_runv fns (af := af12) rfl rfl rfl hl h
theorem runv10 {vs : List AV} {h0 : H} (hl : vs.length ≤ 77) {v : AV} (h : GoC fns (fun e => Run (xends [.tmp 2, .tmp 3, .tmp 4] e) fun q => noHeap h0.n q = some v) [] k10_49 ⟨fun j => (vs[j]?).getD .undef, fun _ => none, h0⟩) : callv fns 10 vs h0 = some v :=
  callω_runv fns (af := af10) rfl rfl rfl hl h
theorem runv9 {vs : List AV} {h0 : H} (hl : vs.length ≤ 41) {v : AV} (h : GoC fns (fun e => Run (xends [.tmp 4, .tmp 5, .tmp 6] e) fun q => noHeap h0.n q = some v) [] k9_15 ⟨fun j => (vs[j]?).getD .undef, fun _ => none, h0⟩) : callv fns 9 vs h0 = some v :=
  callω_runv fns (af := af9) rfl rfl rfl hl h
theorem runv7 {vs : List AV} {h0 : H} (hl : vs.length ≤ 32) {v : AV} (h : GoC fns (fun e => Run (xends [.cell 4 true 8, .tmp 5] e) fun q => noHeap h0.n q = some v) [] k7_10 ⟨fun j => (vs[j]?).getD .undef, fun _ => none, h0⟩) : callv fns 7 vs h0 = some v :=
  callω_runv fns (af := af7) rfl rfl rfl hl h
theorem runv8 {vs : List AV} {h0 : H} (hl : vs.length ≤ 60) {v : AV} (h : GoC fns (fun e => Run (xends [.tmp 8] e) fun q => noHeap h0.n q = some v) [] k8_1 ⟨fun j => (vs[j]?).getD .undef, fun _ => none, h0⟩) : callv fns 8 vs h0 = some v :=
  callω_runv fns (af := af8) rfl rfl rfl hl h
theorem runv3 {vs : List AV} {h0 : H} (hl : vs.length ≤ 61) {v : AV} (h : GoC fns (fun e => Run (xends [.tmp 4] e) fun q => noHeap h0.n q = some v) [] k3_12 ⟨fun j => (vs[j]?).getD .undef, fun _ => none, h0⟩) : callv fns 3 vs h0 = some v :=
  callω_runv fns (af := af3) rfl rfl rfl hl h
theorem fnsOk : FnsOk Try.prog sg fns := by
  intro f af h
  unfold fns at h
  split at h <;> first
    | (injection h with h; subst h; exact ⟨Try.f4, Try.func4, by kernel_rfl, ok4⟩)
    | (injection h with h; subst h; exact ⟨Try.f5, Try.func5, by kernel_rfl, ok5⟩)
    | (injection h with h; subst h; exact ⟨Try.f6, Try.func6, by kernel_rfl, ok6⟩)
    | (injection h with h; subst h; exact ⟨Try.f11, Try.func11, by kernel_rfl, ok11⟩)
    | (injection h with h; subst h; exact ⟨Try.f12, Try.func12, by kernel_rfl, ok12⟩)
    | (injection h with h; subst h; exact ⟨Try.f10, Try.func10, by kernel_rfl, ok10⟩)
    | (injection h with h; subst h; exact ⟨Try.f9, Try.func9, by kernel_rfl, ok9⟩)
    | (injection h with h; subst h; exact ⟨Try.f7, Try.func7, by kernel_rfl, ok7⟩)
    | (injection h with h; subst h; exact ⟨Try.f8, Try.func8, by kernel_rfl, ok8⟩)
    | (injection h with h; subst h; exact ⟨Try.f3, Try.func3, by kernel_rfl, ok3⟩)
    | cases h
end Go.Proofs.Ytcipaobalemdoaa.Abs
