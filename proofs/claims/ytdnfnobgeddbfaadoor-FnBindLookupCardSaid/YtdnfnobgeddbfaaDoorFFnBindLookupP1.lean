/- The functions that the law reaches, made ready for the interpreter (printed by a program of this session; the kernel compares each with the given program). -/
import Derived.Test.YtdnfnobgeddbfaaDoorA27
import Derived.Test.YtdnfnobgeddbfaaDoorIsXYtdnfnobgeddbfaaDoor
import Derived.Test.YtdnfnobgeddbfaaDoorProg
import Derived.KernelRfl
namespace Go.Proofs.YtdnfnobgeddbfaaDoor.Abs
set_option linter.all false
set_option maxRecDepth 100000
open Go.Proofs
def sg : FuncId → Nat → Nat := fun f i =>
  if f == 49 then (if i == 0 then 1 else 0) else
  if f == 50 then (if i == 0 then 1 else 0) else
  if f == 51 then (if i == 0 then 1 else 0) else
  0
section
variable {fns : FuncId → Option AFunc} {Q : Ex × St → Prop} {s : List Fr} {c : ACode} {st : St}
/-- No. 7 -/
def q7_0 : List AOper :=
  [⟨.fieldAddr 7 (.p 1), (some 15), none⟩,
    ⟨.load .head false 1 (.p 15), (some 16), none⟩,
    ⟨.len false (.p 16), (some 17), none⟩,
    ⟨.bin .gtr 1 true (.p 17) (.c (.int .i64 2147483647)), (some 18), none⟩]
@[simp] def eq7_0 := id q7_0.eq_1
def q7_1 : List AOper :=
  [⟨.fieldAddr 6 (.p 1), (some 11), none⟩,
    ⟨.load .head false 1 (.p 11), (some 12), none⟩,
    ⟨.len false (.p 12), (some 13), none⟩,
    ⟨.bin .gtr 1 true (.p 13) (.c (.int .i64 2147483647)), (some 14), none⟩]
@[simp] def eq7_1 := id q7_1.eq_1
def q7_2 : List AOper :=
  [⟨.fieldAddr 2 (.p 1), (some 7), none⟩,
    ⟨.load .head false 1 (.p 7), (some 8), none⟩,
    ⟨.len true (.p 8), (some 9), none⟩,
    ⟨.bin .gtr 1 true (.p 9) (.c (.int .i64 2147483647)), (some 10), none⟩]
@[simp] def eq7_2 := id q7_2.eq_1
def q7_3 : List AOper :=
  [⟨.fieldAddr 1 (.p 1), (some 3), none⟩,
    ⟨.load .head false 1 (.p 3), (some 4), none⟩,
    ⟨.len true (.p 4), (some 5), none⟩,
    ⟨.bin .gtr 1 true (.p 5) (.c (.int .i64 2147483647)), (some 6), none⟩]
@[simp] def eq7_3 := id q7_3.eq_1
def q7_4 : List AOper :=
  [⟨.box 1 (.p 0), (some 1), none⟩,
    ⟨.assign (.c (.bool false)), (some 2), none⟩]
@[simp] def eq7_4 := id q7_4.eq_1
def k7_0 : ACode :=
  .ops [⟨.assign (.c (.bool true)), (some 2), none⟩] .ret
@[simp] theorem xk7_0 : GoC fns Q s k7_0 st ↔ GoO fns Q s [⟨.assign (.c (.bool true)), (some 2), none⟩] .ret st := goC_ops
def k7_1 : ACode :=
  .ops [⟨.assign (.c (.bool false)), (some 2), none⟩] .ret
@[simp] theorem xk7_1 : GoC fns Q s k7_1 st ↔ GoO fns Q s [⟨.assign (.c (.bool false)), (some 2), none⟩] .ret st := goC_ops
def k7_2 : ACode :=
  .cond (.p 18) k7_1 .skip
@[simp] theorem xk7_2 : GoC fns Q s k7_2 st ↔ GB fns Q s (peek st (.p 18)) k7_1 .skip st := goC_cond
def k7_3 : ACode :=
  .seq k7_2 k7_0
@[simp] theorem xk7_3 : GoC fns Q s k7_3 st ↔ GoC fns Q (.sq k7_0 :: s) k7_2 st := goC_seq
def k7_4 : ACode :=
  .ops q7_0 k7_3
@[simp] theorem xk7_4 : GoC fns Q s k7_4 st ↔ GoO fns Q s q7_0 k7_3 st := goC_ops
def k7_5 : ACode :=
  .ops [⟨.assign (.c (.bool false)), (some 2), none⟩] .ret
@[simp] theorem xk7_5 : GoC fns Q s k7_5 st ↔ GoO fns Q s [⟨.assign (.c (.bool false)), (some 2), none⟩] .ret st := goC_ops
def k7_6 : ACode :=
  .cond (.p 14) k7_5 .skip
@[simp] theorem xk7_6 : GoC fns Q s k7_6 st ↔ GB fns Q s (peek st (.p 14)) k7_5 .skip st := goC_cond
def k7_7 : ACode :=
  .seq k7_6 k7_4
@[simp] theorem xk7_7 : GoC fns Q s k7_7 st ↔ GoC fns Q (.sq k7_4 :: s) k7_6 st := goC_seq
def k7_8 : ACode :=
  .ops q7_1 k7_7
@[simp] theorem xk7_8 : GoC fns Q s k7_8 st ↔ GoO fns Q s q7_1 k7_7 st := goC_ops
def k7_9 : ACode :=
  .ops [⟨.assign (.c (.bool false)), (some 2), none⟩] .ret
@[simp] theorem xk7_9 : GoC fns Q s k7_9 st ↔ GoO fns Q s [⟨.assign (.c (.bool false)), (some 2), none⟩] .ret st := goC_ops
def k7_10 : ACode :=
  .cond (.p 10) k7_9 .skip
@[simp] theorem xk7_10 : GoC fns Q s k7_10 st ↔ GB fns Q s (peek st (.p 10)) k7_9 .skip st := goC_cond
def k7_11 : ACode :=
  .seq k7_10 k7_8
@[simp] theorem xk7_11 : GoC fns Q s k7_11 st ↔ GoC fns Q (.sq k7_8 :: s) k7_10 st := goC_seq
def k7_12 : ACode :=
  .ops q7_2 k7_11
@[simp] theorem xk7_12 : GoC fns Q s k7_12 st ↔ GoO fns Q s q7_2 k7_11 st := goC_ops
def k7_13 : ACode :=
  .ops [⟨.assign (.c (.bool false)), (some 2), none⟩] .ret
@[simp] theorem xk7_13 : GoC fns Q s k7_13 st ↔ GoO fns Q s [⟨.assign (.c (.bool false)), (some 2), none⟩] .ret st := goC_ops
def k7_14 : ACode :=
  .cond (.p 6) k7_13 .skip
@[simp] theorem xk7_14 : GoC fns Q s k7_14 st ↔ GB fns Q s (peek st (.p 6)) k7_13 .skip st := goC_cond
def k7_15 : ACode :=
  .seq k7_14 k7_12
@[simp] theorem xk7_15 : GoC fns Q s k7_15 st ↔ GoC fns Q (.sq k7_12 :: s) k7_14 st := goC_seq
def k7_16 : ACode :=
  .ops q7_3 k7_15
@[simp] theorem xk7_16 : GoC fns Q s k7_16 st ↔ GoO fns Q s q7_3 k7_15 st := goC_ops
def k7_17 : ACode :=
  .ops q7_4 k7_16
@[simp] theorem xk7_17 : GoC fns Q s k7_17 st ↔ GoO fns Q s q7_4 k7_16 st := goC_ops
def af7 : AFunc := ⟨19, k7_17, [.tmp 2], fun _ => none⟩

theorem ok7 : ∃ hs, pFunc Tryd.prog sg hs Tryd.f7 = some af7 := ⟨fun i => 0, by kernel_rfl⟩
/-- No. 11 -/
def q11_0 : List AOper :=
  [⟨.bin .add 1 true (.p 10) (.c (.int .i64 1)), (some 17), none⟩,
    ⟨.move .look (.p 17), (some 10), none⟩]
@[simp] def eq11_0 := id q11_0.eq_1
def q11_1 : List AOper :=
  [⟨.move .head (.p 4), (some 14), none⟩,
    ⟨.len true (.p 14), (some 15), none⟩,
    ⟨.bin .gtr 1 true (.p 15) (.c (.int .i64 2147483647)), (some 16), none⟩]
@[simp] def eq11_1 := id q11_1.eq_1
def q11_2 : List AOper :=
  [⟨.indexAddr 1 (.t 8) (.p 10), (some 12), none⟩,
    ⟨.load .take false 1 (.p 12), (some 13), none⟩,
    ⟨.assign (.p 13), (some 4), none⟩]
@[simp] def eq11_2 := id q11_2.eq_1
def q11_3 : List AOper :=
  [⟨.move .look (.t 0), (some 8), none⟩,
    ⟨.len false (.p 8), (some 9), none⟩,
    ⟨.move .head (.c (.int .i64 0)), (some 10), none⟩]
@[simp] def eq11_3 := id q11_3.eq_1
def q11_4 : List AOper :=
  [⟨.move .head (.t 0), (some 5), none⟩,
    ⟨.len false (.p 5), (some 6), none⟩,
    ⟨.bin .gtr 1 true (.p 6) (.c (.int .i64 2147483647)), (some 7), none⟩]
@[simp] def eq11_4 := id q11_4.eq_1
def k11_0 : ACode :=
  .ops [⟨.assign (.c (.bool true)), (some 2), none⟩] .ret
@[simp] theorem xk11_0 : GoC fns Q s k11_0 st ↔ GoO fns Q s [⟨.assign (.c (.bool true)), (some 2), none⟩] .ret st := goC_ops
def k11_1 : ACode :=
  .ops q11_0 .skip
@[simp] theorem xk11_1 : GoC fns Q s k11_1 st ↔ GoO fns Q s q11_0 .skip st := goC_ops
def k11_2 : ACode :=
  .ops [⟨.assign (.c (.bool false)), (some 2), none⟩] .ret
@[simp] theorem xk11_2 : GoC fns Q s k11_2 st ↔ GoO fns Q s [⟨.assign (.c (.bool false)), (some 2), none⟩] .ret st := goC_ops
def k11_3 : ACode :=
  .cond (.p 16) k11_2 .skip
@[simp] theorem xk11_3 : GoC fns Q s k11_3 st ↔ GB fns Q s (peek st (.p 16)) k11_2 .skip st := goC_cond
def k11_4 : ACode :=
  .ops q11_1 k11_3
@[simp] theorem xk11_4 : GoC fns Q s k11_4 st ↔ GoO fns Q s q11_1 k11_3 st := goC_ops
def k11_5 : ACode :=
  .ops q11_2 k11_4
@[simp] theorem xk11_5 : GoC fns Q s k11_5 st ↔ GoO fns Q s q11_2 k11_4 st := goC_ops
def k11_6 : ACode :=
  .block 1 k11_5
@[simp] theorem xk11_6 : GoC fns Q s k11_6 st ↔ GoC fns Q (.bl 1 :: s) k11_5 st := goC_block
def k11_7 : ACode :=
  .seq k11_6 k11_1
@[simp] theorem xk11_7 : GoC fns Q s k11_7 st ↔ GoC fns Q (.sq k11_1 :: s) k11_6 st := goC_seq
def k11_8 : ACode :=
  .cond (.p 11) .skip (.exit 0)
@[simp] theorem xk11_8 : GoC fns Q s k11_8 st ↔ GB fns Q s (peek st (.p 11)) .skip (.exit 0) st := goC_cond
def k11_9 : ACode :=
  .seq k11_8 k11_7
@[simp] theorem xk11_9 : GoC fns Q s k11_9 st ↔ GoC fns Q (.sq k11_7 :: s) k11_8 st := goC_seq
def k11_10 : ACode :=
  .ops [⟨.bin .lss 1 false (.p 10) (.p 9), (some 11), none⟩] k11_9
@[simp] theorem xk11_10 : GoC fns Q s k11_10 st ↔ GoO fns Q s [⟨.bin .lss 1 false (.p 10) (.p 9), (some 11), none⟩] k11_9 st := goC_ops
def lc11_0 : ACode :=
  k11_10
@[simp] theorem xlc11_0 : GoC fns Q s lc11_0 st ↔ GoC fns Q s k11_10 st := Iff.rfl
def k11_12 : ACode :=
  .loop lc11_0
@[simp] theorem xk11_12 : GoC fns Q s k11_12 st ↔ (LoopR fns lc11_0 st fun r => GoE fns Q s r.1 r.2) := goC_loop
def k11_13 : ACode :=
  .block 0 k11_12
@[simp] theorem xk11_13 : GoC fns Q s k11_13 st ↔ GoC fns Q (.bl 0 :: s) k11_12 st := goC_block
def k11_14 : ACode :=
  .seq k11_13 k11_0
@[simp] theorem xk11_14 : GoC fns Q s k11_14 st ↔ GoC fns Q (.sq k11_0 :: s) k11_13 st := goC_seq
def k11_15 : ACode :=
  .ops q11_3 k11_14
@[simp] theorem xk11_15 : GoC fns Q s k11_15 st ↔ GoO fns Q s q11_3 k11_14 st := goC_ops
def k11_16 : ACode :=
  .ops [⟨.assign (.c (.bool false)), (some 2), none⟩] .ret
@[simp] theorem xk11_16 : GoC fns Q s k11_16 st ↔ GoO fns Q s [⟨.assign (.c (.bool false)), (some 2), none⟩] .ret st := goC_ops
def k11_17 : ACode :=
  .cond (.p 7) k11_16 .skip
@[simp] theorem xk11_17 : GoC fns Q s k11_17 st ↔ GB fns Q s (peek st (.p 7)) k11_16 .skip st := goC_cond
def k11_18 : ACode :=
  .seq k11_17 k11_15
@[simp] theorem xk11_18 : GoC fns Q s k11_18 st ↔ GoC fns Q (.sq k11_15 :: s) k11_17 st := goC_seq
def k11_19 : ACode :=
  .ops q11_4 k11_18
@[simp] theorem xk11_19 : GoC fns Q s k11_19 st ↔ GoO fns Q s q11_4 k11_18 st := goC_ops
def k11_20 : ACode :=
  .ops [⟨.assign (.c (.bool false)), (some 2), none⟩] k11_19
@[simp] theorem xk11_20 : GoC fns Q s k11_20 st ↔ GoO fns Q s [⟨.assign (.c (.bool false)), (some 2), none⟩] k11_19 st := goC_ops
def af11 : AFunc := ⟨18, k11_20, [.tmp 2], fun _ => none⟩

theorem ok11 : ∃ hs, pFunc Tryd.prog sg hs Tryd.f11 = some af11 := ⟨fun i => if i == 8 then 5 else 0, by kernel_rfl⟩
/-- No. 27 -/
def q27_0 : List AOper :=
  [⟨.move .take (.p 5), (some 31), none⟩,
    ⟨.assign (.p 31), (some 4), none⟩]
@[simp] def eq27_0 := id q27_0.eq_1
def q27_1 : List AOper :=
  [⟨.move .look (.p 6), (some 17), none⟩,
    ⟨.bin .add 1 true (.p 17) (.c (.int .i64 1)), (some 18), none⟩,
    ⟨.assign (.p 18), (some 6), none⟩]
@[simp] def eq27_1 := id q27_1.eq_1
def q27_2 : List AOper :=
  [⟨.move .look (.p 5), (some 19), none⟩,
    ⟨.fieldAddr 7 (.p 2), (some 20), none⟩,
    ⟨.load .look false 1 (.p 20), (some 21), none⟩,
    ⟨.move .look (.p 6), (some 22), none⟩,
    ⟨.indexAddr 9 (.t 21) (.p 22), (some 23), none⟩,
    ⟨.fieldAddr 1 (.p 23), (some 24), none⟩,
    ⟨.load .look true 8 (.p 24), (some 25), none⟩,
    ⟨.move .look (.p 1), (some 26), none⟩,
    ⟨.move .look (.p 5), (some 27), none⟩,
    ⟨.bin .sub 1 false (.p 26) (.p 27), (some 28), none⟩,
    ⟨.call 27 [(.p 25, false), (.p 28, false)], (some 29), none⟩,
    ⟨.bin .add 1 false (.p 19) (.p 29), (some 30), none⟩,
    ⟨.assign (.p 30), (some 5), none⟩]
@[simp] def eq27_2 := id q27_2.eq_1
def q27_3 : List AOper :=
  [⟨.move .look (.p 6), (some 7), none⟩,
    ⟨.fieldAddr 7 (.p 2), (some 8), none⟩,
    ⟨.load .head false 1 (.p 8), (some 9), none⟩,
    ⟨.len false (.p 9), (some 10), none⟩,
    ⟨.bin .lss 1 false (.p 7) (.p 10), (some 11), none⟩,
    ⟨.move .look (.p 11), (some 12), none⟩,
    ⟨.move .look (.p 5), (some 13), (some (12, true))⟩,
    ⟨.move .look (.p 1), (some 14), (some (12, true))⟩,
    ⟨.bin .leq 1 false (.p 13) (.p 14), (some 15), (some (12, true))⟩,
    ⟨.pick (.p 12) (.p 15) (.c (.bool false)), (some 16), none⟩]
@[simp] def eq27_3 := id q27_3.eq_1
def q27_4 : List AOper :=
  [⟨.box 2 (.p 0), (some 2), none⟩,
    ⟨.assign (.c (.int .i64 0)), (some 4), none⟩]
@[simp] def eq27_4 := id q27_4.eq_1
def k27_0 : ACode :=
  .ops q27_0 .ret
@[simp] theorem xk27_0 : GoC fns Q s k27_0 st ↔ GoO fns Q s q27_0 .ret st := goC_ops
def k27_1 : ACode :=
  .ops q27_1 .skip
@[simp] theorem xk27_1 : GoC fns Q s k27_1 st ↔ GoO fns Q s q27_1 .skip st := goC_ops
def k27_2 : ACode :=
  .ops q27_2 .skip
@[simp] theorem xk27_2 : GoC fns Q s k27_2 st ↔ GoO fns Q s q27_2 .skip st := goC_ops
def k27_3 : ACode :=
  .block 1 k27_2
@[simp] theorem xk27_3 : GoC fns Q s k27_3 st ↔ GoC fns Q (.bl 1 :: s) k27_2 st := goC_block
def k27_4 : ACode :=
  .seq k27_3 k27_1
@[simp] theorem xk27_4 : GoC fns Q s k27_4 st ↔ GoC fns Q (.sq k27_1 :: s) k27_3 st := goC_seq
def k27_5 : ACode :=
  .cond (.p 16) .skip (.exit 0)
@[simp] theorem xk27_5 : GoC fns Q s k27_5 st ↔ GB fns Q s (peek st (.p 16)) .skip (.exit 0) st := goC_cond
def k27_6 : ACode :=
  .seq k27_5 k27_4
@[simp] theorem xk27_6 : GoC fns Q s k27_6 st ↔ GoC fns Q (.sq k27_4 :: s) k27_5 st := goC_seq
def k27_7 : ACode :=
  .ops q27_3 k27_6
@[simp] theorem xk27_7 : GoC fns Q s k27_7 st ↔ GoO fns Q s q27_3 k27_6 st := goC_ops
def lc27_0 : ACode :=
  k27_7
@[simp] theorem xlc27_0 : GoC fns Q s lc27_0 st ↔ GoC fns Q s k27_7 st := Iff.rfl
def k27_9 : ACode :=
  .loop lc27_0
@[simp] theorem xk27_9 : GoC fns Q s k27_9 st ↔ (LoopR fns lc27_0 st fun r => GoE fns Q s r.1 r.2) := goC_loop
def k27_10 : ACode :=
  .block 0 k27_9
@[simp] theorem xk27_10 : GoC fns Q s k27_10 st ↔ GoC fns Q (.bl 0 :: s) k27_9 st := goC_block
def k27_11 : ACode :=
  .seq k27_10 k27_0
@[simp] theorem xk27_11 : GoC fns Q s k27_11 st ↔ GoC fns Q (.sq k27_0 :: s) k27_10 st := goC_seq
def k27_12 : ACode :=
  .ops [⟨.assign (.c (.int .i64 0)), (some 6), none⟩] k27_11
@[simp] theorem xk27_12 : GoC fns Q s k27_12 st ↔ GoO fns Q s [⟨.assign (.c (.int .i64 0)), (some 6), none⟩] k27_11 st := goC_ops
def k27_13 : ACode :=
  .ops [⟨.assign (.c (.int .i64 1)), (some 5), none⟩] k27_12
@[simp] theorem xk27_13 : GoC fns Q s k27_13 st ↔ GoO fns Q s [⟨.assign (.c (.int .i64 1)), (some 5), none⟩] k27_12 st := goC_ops
def k27_14 : ACode :=
  .ops q27_4 k27_13
@[simp] theorem xk27_14 : GoC fns Q s k27_14 st ↔ GoO fns Q s q27_4 k27_13 st := goC_ops
def af27 : AFunc := ⟨32, k27_14, [.tmp 4], fun _ => none⟩

theorem ok27 : ∃ hs, pFunc Tryd.prog sg hs Tryd.f27 = some af27 := ⟨fun i => 0, by kernel_rfl⟩
/-- No. 64 -/
def q64_0 : List AOper :=
  [⟨.move .look (.p 0), (some 3), none⟩,
    ⟨.bin .geq 1 true (.p 3) (.c (.int .i64 1)), (some 4), none⟩,
    ⟨.move .look (.p 4), (some 5), none⟩,
    ⟨.move .look (.p 0), (some 6), (some (5, true))⟩,
    ⟨.bin .leq 1 true (.p 6) (.c (.int .i64 19)), (some 7), (some (5, true))⟩,
    ⟨.pick (.p 5) (.p 7) (.c (.bool false)), (some 8), none⟩,
    ⟨.move .look (.p 8), (some 9), none⟩,
    ⟨.move .head (.p 0), (some 10), (some (9, false))⟩,
    ⟨.bin .eql 1 true (.p 10) (.c (.int .i64 255)), (some 11), (some (9, false))⟩,
    ⟨.pick (.p 9) (.c (.bool true)) (.p 11), (some 12), none⟩,
    ⟨.move .look (.p 12), (some 13), none⟩,
    ⟨.move .head (.p 0), (some 14), (some (13, false))⟩,
    ⟨.bin .eql 1 true (.p 14) (.c (.int .i64 127)), (some 15), (some (13, false))⟩,
    ⟨.pick (.p 13) (.c (.bool true)) (.p 15), (some 16), none⟩,
    ⟨.assign (.p 16), (some 2), none⟩]
@[simp] def eq64_0 := id q64_0.eq_1
def k64_0 : ACode :=
  .ops q64_0 .ret
@[simp] theorem xk64_0 : GoC fns Q s k64_0 st ↔ GoO fns Q s q64_0 .ret st := goC_ops
def k64_1 : ACode :=
  .ops [⟨.assign (.c (.bool false)), (some 2), none⟩] k64_0
@[simp] theorem xk64_1 : GoC fns Q s k64_1 st ↔ GoO fns Q s [⟨.assign (.c (.bool false)), (some 2), none⟩] k64_0 st := goC_ops
def af64 : AFunc := ⟨17, k64_1, [.tmp 2], fun _ => none⟩

theorem ok64 : ∃ hs, pFunc Tryd.prog sg hs Tryd.f64 = some af64 := ⟨fun i => 0, by kernel_rfl⟩
/-- No. 65 -/
def q65_0 : List AOper :=
  [⟨.load .take true 8 (.p 1), (some 47), none⟩,
    ⟨.store 8 (.p 2) (.p 47), none, none⟩]
@[simp] def eq65_0 := id q65_0.eq_1
def q65_1 : List AOper :=
  [⟨.fieldAddr 4 (.p 1), (some 8), none⟩,
    ⟨.store 1 (.p 8) (.c (.int .u64 0)), none, none⟩]
@[simp] def eq65_1 := id q65_1.eq_1
def q65_2 : List AOper :=
  [⟨.fieldAddr 1 (.p 1), (some 13), none⟩,
    ⟨.store 1 (.p 13) (.c (.str [])), none, none⟩]
@[simp] def eq65_2 := id q65_2.eq_1
def q65_3 : List AOper :=
  [⟨.fieldAddr 7 (.p 1), (some 17), none⟩,
    ⟨.store 1 (.p 17) (.c (.slice .nil 0 1 [])), none, none⟩]
@[simp] def eq65_3 := id q65_3.eq_1
def q65_4 : List AOper :=
  [⟨.fieldAddr 3 (.p 1), (some 20), none⟩,
    ⟨.store 1 (.p 20) (.c (.int .i64 0)), none, none⟩,
    ⟨.fieldAddr 6 (.p 1), (some 21), none⟩,
    ⟨.store 1 (.p 21) (.c (.slice .nil 0 1 [])), none, none⟩]
@[simp] def eq65_4 := id q65_4.eq_1
def q65_5 : List AOper :=
  [⟨.fieldAddr 6 (.p 1), (some 24), none⟩,
    ⟨.store 1 (.p 24) (.c (.slice .nil 0 1 [])), none, none⟩]
@[simp] def eq65_5 := id q65_5.eq_1
def q65_6 : List AOper :=
  [⟨.fieldAddr 3 (.p 1), (some 30), none⟩,
    ⟨.store 1 (.p 30) (.c (.int .i64 0)), none, none⟩]
@[simp] def eq65_6 := id q65_6.eq_1
def q65_7 : List AOper :=
  [⟨.fieldAddr 1 (.p 1), (some 33), none⟩,
    ⟨.store 1 (.p 33) (.c (.str [])), none, none⟩,
    ⟨.fieldAddr 2 (.p 1), (some 34), none⟩,
    ⟨.store 1 (.p 34) (.c (.str [])), none, none⟩]
@[simp] def eq65_7 := id q65_7.eq_1
def q65_8 : List AOper :=
  [⟨.fieldAddr 1 (.p 1), (some 37), none⟩,
    ⟨.store 1 (.p 37) (.c (.str [])), none, none⟩,
    ⟨.fieldAddr 6 (.p 1), (some 38), none⟩,
    ⟨.store 1 (.p 38) (.c (.slice .nil 0 1 [])), none, none⟩]
@[simp] def eq65_8 := id q65_8.eq_1
def q65_9 : List AOper :=
  [⟨.fieldAddr 1 (.p 1), (some 41), none⟩,
    ⟨.store 1 (.p 41) (.c (.str [])), none, none⟩,
    ⟨.fieldAddr 7 (.p 1), (some 42), none⟩,
    ⟨.store 1 (.p 42) (.c (.slice .nil 0 1 [])), none, none⟩]
@[simp] def eq65_9 := id q65_9.eq_1
def q65_10 : List AOper :=
  [⟨.fieldAddr 4 (.p 1), (some 45), none⟩,
    ⟨.store 1 (.p 45) (.c (.int .u64 0)), none, none⟩,
    ⟨.fieldAddr 5 (.p 1), (some 46), none⟩,
    ⟨.store 1 (.p 46) (.c (.int .u64 0)), none, none⟩]
@[simp] def eq65_10 := id q65_10.eq_1
def q65_11 : List AOper :=
  [⟨.bin .eql 1 true (.p 4) (.c (.int .i64 19)), (some 44), none⟩,
    ⟨.assign (.p 44), (some 43), none⟩]
@[simp] def eq65_11 := id q65_11.eq_1
def q65_12 : List AOper :=
  [⟨.bin .eql 1 true (.p 4) (.c (.int .i64 15)), (some 40), none⟩,
    ⟨.assign (.p 40), (some 39), none⟩]
@[simp] def eq65_12 := id q65_12.eq_1
def q65_13 : List AOper :=
  [⟨.bin .eql 1 true (.p 4) (.c (.int .i64 12)), (some 36), none⟩,
    ⟨.assign (.p 36), (some 35), none⟩]
@[simp] def eq65_13 := id q65_13.eq_1
def q65_14 : List AOper :=
  [⟨.bin .eql 1 true (.p 4) (.c (.int .i64 11)), (some 32), none⟩,
    ⟨.assign (.p 32), (some 31), none⟩]
@[simp] def eq65_14 := id q65_14.eq_1
def q65_15 : List AOper :=
  [⟨.bin .eql 1 true (.p 4) (.c (.int .i64 18)), (some 29), none⟩,
    ⟨.assign (.p 29), (some 25), none⟩]
@[simp] def eq65_15 := id q65_15.eq_1
def q65_16 : List AOper :=
  [⟨.bin .eql 1 true (.p 4) (.c (.int .i64 16)), (some 28), none⟩,
    ⟨.assign (.p 28), (some 25), none⟩]
@[simp] def eq65_16 := id q65_16.eq_1
def q65_17 : List AOper :=
  [⟨.bin .eql 1 true (.p 4) (.c (.int .i64 9)), (some 27), none⟩,
    ⟨.assign (.p 27), (some 25), none⟩]
@[simp] def eq65_17 := id q65_17.eq_1
def q65_18 : List AOper :=
  [⟨.bin .eql 1 true (.p 4) (.c (.int .i64 8)), (some 26), none⟩,
    ⟨.assign (.p 26), (some 25), none⟩]
@[simp] def eq65_18 := id q65_18.eq_1
def q65_19 : List AOper :=
  [⟨.bin .eql 1 true (.p 4) (.c (.int .i64 7)), (some 23), none⟩,
    ⟨.assign (.p 23), (some 22), none⟩]
@[simp] def eq65_19 := id q65_19.eq_1
def q65_20 : List AOper :=
  [⟨.bin .eql 1 true (.p 4) (.c (.int .i64 5)), (some 19), none⟩,
    ⟨.assign (.p 19), (some 18), none⟩]
@[simp] def eq65_20 := id q65_20.eq_1
def q65_21 : List AOper :=
  [⟨.bin .eql 1 true (.p 4) (.c (.int .i64 4)), (some 16), none⟩,
    ⟨.assign (.p 16), (some 14), none⟩]
@[simp] def eq65_21 := id q65_21.eq_1
def q65_22 : List AOper :=
  [⟨.bin .eql 1 true (.p 4) (.c (.int .i64 3)), (some 15), none⟩,
    ⟨.assign (.p 15), (some 14), none⟩]
@[simp] def eq65_22 := id q65_22.eq_1
def q65_23 : List AOper :=
  [⟨.bin .eql 1 true (.p 4) (.c (.int .i64 14)), (some 12), none⟩,
    ⟨.assign (.p 12), (some 9), none⟩]
@[simp] def eq65_23 := id q65_23.eq_1
def q65_24 : List AOper :=
  [⟨.bin .eql 1 true (.p 4) (.c (.int .i64 13)), (some 11), none⟩,
    ⟨.assign (.p 11), (some 9), none⟩]
@[simp] def eq65_24 := id q65_24.eq_1
def q65_25 : List AOper :=
  [⟨.bin .eql 1 true (.p 4) (.c (.int .i64 2)), (some 10), none⟩,
    ⟨.assign (.p 10), (some 9), none⟩]
@[simp] def eq65_25 := id q65_25.eq_1
def q65_26 : List AOper :=
  [⟨.bin .eql 1 true (.p 4) (.c (.int .i64 17)), (some 7), none⟩,
    ⟨.assign (.p 7), (some 5), none⟩]
@[simp] def eq65_26 := id q65_26.eq_1
def q65_27 : List AOper :=
  [⟨.bin .eql 1 true (.p 4) (.c (.int .i64 1)), (some 6), none⟩,
    ⟨.assign (.p 6), (some 5), none⟩]
@[simp] def eq65_27 := id q65_27.eq_1
def q65_28 : List AOper :=
  [⟨.fieldAddr 0 (.p 1), (some 3), none⟩,
    ⟨.load .head false 1 (.p 3), (some 4), none⟩]
@[simp] def eq65_28 := id q65_28.eq_1
def q65_29 : List AOper :=
  [⟨.box 1 (.p 0), (some 1), none⟩,
    ⟨.newbox 2 [.int .i64 0, .str [], .str [], .int .i64 0, .int .u64 0, .int .u64 0, .slice .nil 0 1 [], .slice .nil 0 1 []], (some 2), none⟩]
@[simp] def eq65_29 := id q65_29.eq_1
def k65_0 : ACode :=
  .ops q65_0 .ret
@[simp] theorem xk65_0 : GoC fns Q s k65_0 st ↔ GoO fns Q s q65_0 .ret st := goC_ops
def k65_1 : ACode :=
  .ops q65_1 .skip
@[simp] theorem xk65_1 : GoC fns Q s k65_1 st ↔ GoO fns Q s q65_1 .skip st := goC_ops
def k65_2 : ACode :=
  .ops q65_2 .skip
@[simp] theorem xk65_2 : GoC fns Q s k65_2 st ↔ GoO fns Q s q65_2 .skip st := goC_ops
def k65_3 : ACode :=
  .ops q65_3 .skip
@[simp] theorem xk65_3 : GoC fns Q s k65_3 st ↔ GoO fns Q s q65_3 .skip st := goC_ops
def k65_4 : ACode :=
  .ops q65_4 .skip
@[simp] theorem xk65_4 : GoC fns Q s k65_4 st ↔ GoO fns Q s q65_4 .skip st := goC_ops
def k65_5 : ACode :=
  .ops q65_5 .skip
@[simp] theorem xk65_5 : GoC fns Q s k65_5 st ↔ GoO fns Q s q65_5 .skip st := goC_ops
def k65_6 : ACode :=
  .ops q65_6 .skip
@[simp] theorem xk65_6 : GoC fns Q s k65_6 st ↔ GoO fns Q s q65_6 .skip st := goC_ops
def k65_7 : ACode :=
  .ops q65_7 .skip
@[simp] theorem xk65_7 : GoC fns Q s k65_7 st ↔ GoO fns Q s q65_7 .skip st := goC_ops
def k65_8 : ACode :=
  .ops q65_8 .skip
@[simp] theorem xk65_8 : GoC fns Q s k65_8 st ↔ GoO fns Q s q65_8 .skip st := goC_ops
def k65_9 : ACode :=
  .ops q65_9 .skip
@[simp] theorem xk65_9 : GoC fns Q s k65_9 st ↔ GoO fns Q s q65_9 .skip st := goC_ops
def k65_10 : ACode :=
  .ops q65_10 .skip
@[simp] theorem xk65_10 : GoC fns Q s k65_10 st ↔ GoO fns Q s q65_10 .skip st := goC_ops
def k65_11 : ACode :=
  .cond (.p 43) k65_10 .skip
@[simp] theorem xk65_11 : GoC fns Q s k65_11 st ↔ GB fns Q s (peek st (.p 43)) k65_10 .skip st := goC_cond
def k65_12 : ACode :=
  .ops q65_11 k65_11
@[simp] theorem xk65_12 : GoC fns Q s k65_12 st ↔ GoO fns Q s q65_11 k65_11 st := goC_ops
def k65_13 : ACode :=
  .cond (.p 39) k65_9 k65_12
@[simp] theorem xk65_13 : GoC fns Q s k65_13 st ↔ GB fns Q s (peek st (.p 39)) k65_9 k65_12 st := goC_cond
def k65_14 : ACode :=
  .ops q65_12 k65_13
@[simp] theorem xk65_14 : GoC fns Q s k65_14 st ↔ GoO fns Q s q65_12 k65_13 st := goC_ops
def k65_15 : ACode :=
  .cond (.p 35) k65_8 k65_14
@[simp] theorem xk65_15 : GoC fns Q s k65_15 st ↔ GB fns Q s (peek st (.p 35)) k65_8 k65_14 st := goC_cond
def k65_16 : ACode :=
  .ops q65_13 k65_15
@[simp] theorem xk65_16 : GoC fns Q s k65_16 st ↔ GoO fns Q s q65_13 k65_15 st := goC_ops
def k65_17 : ACode :=
  .cond (.p 31) k65_7 k65_16
@[simp] theorem xk65_17 : GoC fns Q s k65_17 st ↔ GB fns Q s (peek st (.p 31)) k65_7 k65_16 st := goC_cond
def k65_18 : ACode :=
  .ops q65_14 k65_17
@[simp] theorem xk65_18 : GoC fns Q s k65_18 st ↔ GoO fns Q s q65_14 k65_17 st := goC_ops
def k65_19 : ACode :=
  .cond (.p 25) k65_6 k65_18
@[simp] theorem xk65_19 : GoC fns Q s k65_19 st ↔ GB fns Q s (peek st (.p 25)) k65_6 k65_18 st := goC_cond
def k65_20 : ACode :=
  .ops q65_15 .skip
@[simp] theorem xk65_20 : GoC fns Q s k65_20 st ↔ GoO fns Q s q65_15 .skip st := goC_ops
def k65_21 : ACode :=
  .cond (.p 25) .skip k65_20
@[simp] theorem xk65_21 : GoC fns Q s k65_21 st ↔ GB fns Q s (peek st (.p 25)) .skip k65_20 st := goC_cond
def k65_22 : ACode :=
  .ops q65_16 k65_21
@[simp] theorem xk65_22 : GoC fns Q s k65_22 st ↔ GoO fns Q s q65_16 k65_21 st := goC_ops
def k65_23 : ACode :=
  .cond (.p 25) .skip k65_22
@[simp] theorem xk65_23 : GoC fns Q s k65_23 st ↔ GB fns Q s (peek st (.p 25)) .skip k65_22 st := goC_cond
def k65_24 : ACode :=
  .ops q65_17 k65_23
@[simp] theorem xk65_24 : GoC fns Q s k65_24 st ↔ GoO fns Q s q65_17 k65_23 st := goC_ops
def k65_25 : ACode :=
  .cond (.p 25) .skip k65_24
@[simp] theorem xk65_25 : GoC fns Q s k65_25 st ↔ GB fns Q s (peek st (.p 25)) .skip k65_24 st := goC_cond
def k65_26 : ACode :=
  .seq k65_25 k65_19
@[simp] theorem xk65_26 : GoC fns Q s k65_26 st ↔ GoC fns Q (.sq k65_19 :: s) k65_25 st := goC_seq
def k65_27 : ACode :=
  .ops q65_18 k65_26
@[simp] theorem xk65_27 : GoC fns Q s k65_27 st ↔ GoO fns Q s q65_18 k65_26 st := goC_ops
def k65_28 : ACode :=
  .cond (.p 22) k65_5 k65_27
@[simp] theorem xk65_28 : GoC fns Q s k65_28 st ↔ GB fns Q s (peek st (.p 22)) k65_5 k65_27 st := goC_cond
def k65_29 : ACode :=
  .ops q65_19 k65_28
@[simp] theorem xk65_29 : GoC fns Q s k65_29 st ↔ GoO fns Q s q65_19 k65_28 st := goC_ops
def k65_30 : ACode :=
  .cond (.p 18) k65_4 k65_29
@[simp] theorem xk65_30 : GoC fns Q s k65_30 st ↔ GB fns Q s (peek st (.p 18)) k65_4 k65_29 st := goC_cond
def k65_31 : ACode :=
  .ops q65_20 k65_30
@[simp] theorem xk65_31 : GoC fns Q s k65_31 st ↔ GoO fns Q s q65_20 k65_30 st := goC_ops
def k65_32 : ACode :=
  .cond (.p 14) k65_3 k65_31
@[simp] theorem xk65_32 : GoC fns Q s k65_32 st ↔ GB fns Q s (peek st (.p 14)) k65_3 k65_31 st := goC_cond
def k65_33 : ACode :=
  .ops q65_21 .skip
@[simp] theorem xk65_33 : GoC fns Q s k65_33 st ↔ GoO fns Q s q65_21 .skip st := goC_ops
def k65_34 : ACode :=
  .cond (.p 14) .skip k65_33
@[simp] theorem xk65_34 : GoC fns Q s k65_34 st ↔ GB fns Q s (peek st (.p 14)) .skip k65_33 st := goC_cond
def k65_35 : ACode :=
  .seq k65_34 k65_32
@[simp] theorem xk65_35 : GoC fns Q s k65_35 st ↔ GoC fns Q (.sq k65_32 :: s) k65_34 st := goC_seq
def k65_36 : ACode :=
  .ops q65_22 k65_35
@[simp] theorem xk65_36 : GoC fns Q s k65_36 st ↔ GoO fns Q s q65_22 k65_35 st := goC_ops
def k65_37 : ACode :=
  .cond (.p 9) k65_2 k65_36
@[simp] theorem xk65_37 : GoC fns Q s k65_37 st ↔ GB fns Q s (peek st (.p 9)) k65_2 k65_36 st := goC_cond
def k65_38 : ACode :=
  .ops q65_23 .skip
@[simp] theorem xk65_38 : GoC fns Q s k65_38 st ↔ GoO fns Q s q65_23 .skip st := goC_ops
def k65_39 : ACode :=
  .cond (.p 9) .skip k65_38
@[simp] theorem xk65_39 : GoC fns Q s k65_39 st ↔ GB fns Q s (peek st (.p 9)) .skip k65_38 st := goC_cond
def k65_40 : ACode :=
  .ops q65_24 k65_39
@[simp] theorem xk65_40 : GoC fns Q s k65_40 st ↔ GoO fns Q s q65_24 k65_39 st := goC_ops
def k65_41 : ACode :=
  .cond (.p 9) .skip k65_40
@[simp] theorem xk65_41 : GoC fns Q s k65_41 st ↔ GB fns Q s (peek st (.p 9)) .skip k65_40 st := goC_cond
def k65_42 : ACode :=
  .seq k65_41 k65_37
@[simp] theorem xk65_42 : GoC fns Q s k65_42 st ↔ GoC fns Q (.sq k65_37 :: s) k65_41 st := goC_seq
def k65_43 : ACode :=
  .ops q65_25 k65_42
@[simp] theorem xk65_43 : GoC fns Q s k65_43 st ↔ GoO fns Q s q65_25 k65_42 st := goC_ops
def k65_44 : ACode :=
  .cond (.p 5) k65_1 k65_43
@[simp] theorem xk65_44 : GoC fns Q s k65_44 st ↔ GB fns Q s (peek st (.p 5)) k65_1 k65_43 st := goC_cond
def k65_45 : ACode :=
  .ops q65_26 .skip
@[simp] theorem xk65_45 : GoC fns Q s k65_45 st ↔ GoO fns Q s q65_26 .skip st := goC_ops
def k65_46 : ACode :=
  .cond (.p 5) .skip k65_45
@[simp] theorem xk65_46 : GoC fns Q s k65_46 st ↔ GB fns Q s (peek st (.p 5)) .skip k65_45 st := goC_cond
def k65_47 : ACode :=
  .seq k65_46 k65_44
@[simp] theorem xk65_47 : GoC fns Q s k65_47 st ↔ GoC fns Q (.sq k65_44 :: s) k65_46 st := goC_seq
def k65_48 : ACode :=
  .ops q65_27 k65_47
@[simp] theorem xk65_48 : GoC fns Q s k65_48 st ↔ GoO fns Q s q65_27 k65_47 st := goC_ops
def k65_49 : ACode :=
  .block 0 k65_48
@[simp] theorem xk65_49 : GoC fns Q s k65_49 st ↔ GoC fns Q (.bl 0 :: s) k65_48 st := goC_block
def k65_50 : ACode :=
  .seq k65_49 k65_0
@[simp] theorem xk65_50 : GoC fns Q s k65_50 st ↔ GoC fns Q (.sq k65_0 :: s) k65_49 st := goC_seq
def k65_51 : ACode :=
  .ops q65_28 k65_50
@[simp] theorem xk65_51 : GoC fns Q s k65_51 st ↔ GoO fns Q s q65_28 k65_50 st := goC_ops
def k65_52 : ACode :=
  .ops q65_29 k65_51
@[simp] theorem xk65_52 : GoC fns Q s k65_52 st ↔ GoO fns Q s q65_29 k65_51 st := goC_ops
def af65 : AFunc := ⟨48, k65_52, [.cell 2 true 8], fun _ => none⟩

theorem ok65 : ∃ hs, pFunc Tryd.prog sg hs Tryd.f65 = some af65 := ⟨fun i => 0, by kernel_rfl⟩
/-- No. 13 -/
def q13_0 : List AOper :=
  [⟨.move .look (.p 3), (some 8), none⟩,
    ⟨.bin .add 1 true (.p 8) (.c (.int .i64 1)), (some 9), none⟩,
    ⟨.assign (.p 9), (some 3), none⟩]
@[simp] def eq13_0 := id q13_0.eq_1
def q13_1 : List AOper :=
  [⟨.move .look (.p 0), (some 10), none⟩,
    ⟨.move .look (.p 3), (some 11), none⟩,
    ⟨.indexStr (.p 10) (.p 11), (some 12), none⟩,
    ⟨.bin .eql 1 true (.p 12) (.c (.int .u8 0)), (some 13), none⟩]
@[simp] def eq13_1 := id q13_1.eq_1
def q13_2 : List AOper :=
  [⟨.move .look (.p 3), (some 4), none⟩,
    ⟨.move .head (.p 0), (some 5), none⟩,
    ⟨.len true (.p 5), (some 6), none⟩,
    ⟨.bin .lss 1 false (.p 4) (.p 6), (some 7), none⟩]
@[simp] def eq13_2 := id q13_2.eq_1
def k13_0 : ACode :=
  .ops [⟨.assign (.c (.bool true)), (some 2), none⟩] .ret
@[simp] theorem xk13_0 : GoC fns Q s k13_0 st ↔ GoO fns Q s [⟨.assign (.c (.bool true)), (some 2), none⟩] .ret st := goC_ops
def k13_1 : ACode :=
  .ops q13_0 .skip
@[simp] theorem xk13_1 : GoC fns Q s k13_1 st ↔ GoO fns Q s q13_0 .skip st := goC_ops
def k13_2 : ACode :=
  .ops [⟨.assign (.c (.bool false)), (some 2), none⟩] .ret
@[simp] theorem xk13_2 : GoC fns Q s k13_2 st ↔ GoO fns Q s [⟨.assign (.c (.bool false)), (some 2), none⟩] .ret st := goC_ops
def k13_3 : ACode :=
  .cond (.p 13) k13_2 .skip
@[simp] theorem xk13_3 : GoC fns Q s k13_3 st ↔ GB fns Q s (peek st (.p 13)) k13_2 .skip st := goC_cond
def k13_4 : ACode :=
  .ops q13_1 k13_3
@[simp] theorem xk13_4 : GoC fns Q s k13_4 st ↔ GoO fns Q s q13_1 k13_3 st := goC_ops
def k13_5 : ACode :=
  .block 1 k13_4
@[simp] theorem xk13_5 : GoC fns Q s k13_5 st ↔ GoC fns Q (.bl 1 :: s) k13_4 st := goC_block
def k13_6 : ACode :=
  .seq k13_5 k13_1
@[simp] theorem xk13_6 : GoC fns Q s k13_6 st ↔ GoC fns Q (.sq k13_1 :: s) k13_5 st := goC_seq
def k13_7 : ACode :=
  .cond (.p 7) .skip (.exit 0)
@[simp] theorem xk13_7 : GoC fns Q s k13_7 st ↔ GB fns Q s (peek st (.p 7)) .skip (.exit 0) st := goC_cond
def k13_8 : ACode :=
  .seq k13_7 k13_6
@[simp] theorem xk13_8 : GoC fns Q s k13_8 st ↔ GoC fns Q (.sq k13_6 :: s) k13_7 st := goC_seq
def k13_9 : ACode :=
  .ops q13_2 k13_8
@[simp] theorem xk13_9 : GoC fns Q s k13_9 st ↔ GoO fns Q s q13_2 k13_8 st := goC_ops
def lc13_0 : ACode :=
  k13_9
@[simp] theorem xlc13_0 : GoC fns Q s lc13_0 st ↔ GoC fns Q s k13_9 st := Iff.rfl
def k13_11 : ACode :=
  .loop lc13_0
@[simp] theorem xk13_11 : GoC fns Q s k13_11 st ↔ (LoopR fns lc13_0 st fun r => GoE fns Q s r.1 r.2) := goC_loop
def k13_12 : ACode :=
  .block 0 k13_11
@[simp] theorem xk13_12 : GoC fns Q s k13_12 st ↔ GoC fns Q (.bl 0 :: s) k13_11 st := goC_block
def k13_13 : ACode :=
  .seq k13_12 k13_0
@[simp] theorem xk13_13 : GoC fns Q s k13_13 st ↔ GoC fns Q (.sq k13_0 :: s) k13_12 st := goC_seq
def k13_14 : ACode :=
  .ops [⟨.assign (.c (.int .i64 0)), (some 3), none⟩] k13_13
@[simp] theorem xk13_14 : GoC fns Q s k13_14 st ↔ GoO fns Q s [⟨.assign (.c (.int .i64 0)), (some 3), none⟩] k13_13 st := goC_ops
def k13_15 : ACode :=
  .ops [⟨.assign (.c (.bool false)), (some 2), none⟩] k13_14
@[simp] theorem xk13_15 : GoC fns Q s k13_15 st ↔ GoO fns Q s [⟨.assign (.c (.bool false)), (some 2), none⟩] k13_14 st := goC_ops
def af13 : AFunc := ⟨14, k13_15, [.tmp 2], fun _ => none⟩

theorem ok13 : ∃ hs, pFunc Tryd.prog sg hs Tryd.f13 = some af13 := ⟨fun i => 0, by kernel_rfl⟩
/-- No. 66 -/
def q66_0 : List AOper :=
  [⟨.move .look (.p 0), (some 10), none⟩,
    ⟨.bin .quo 1 true (.p 10) (.c (.int .i64 10)), (some 11), none⟩,
    ⟨.move .look (.p 0), (some 13), none⟩,
    ⟨.bin .rem 1 true (.p 13) (.c (.int .i64 10)), (some 14), none⟩,
    ⟨.bin .add 1 true (.c (.int .i64 48)) (.p 14), (some 15), none⟩,
    ⟨.convInt .u8 (.p 15), (some 16), none⟩,
    ⟨.buildSl 5 1 [.int .u8 0] [(0, 1, .p 16)], (some 17), none⟩,
    ⟨.convBS (.t 17), (some 18), none⟩,
    ⟨.call 66 [(.p 11, false)], (some 12), none⟩,
    ⟨.bin .add 2 false (.p 12) (.p 18), (some 19), none⟩,
    ⟨.assign (.p 19), (some 2), none⟩]
@[simp] def eq66_0 := id q66_0.eq_1
def q66_1 : List AOper :=
  [⟨.move .look (.p 0), (some 5), none⟩,
    ⟨.bin .add 1 true (.c (.int .i64 48)) (.p 5), (some 6), none⟩,
    ⟨.convInt .u8 (.p 6), (some 7), none⟩,
    ⟨.buildSl 5 1 [.int .u8 0] [(0, 1, .p 7)], (some 8), none⟩,
    ⟨.convBS (.t 8), (some 9), none⟩,
    ⟨.assign (.p 9), (some 2), none⟩]
@[simp] def eq66_1 := id q66_1.eq_1
def q66_2 : List AOper :=
  [⟨.move .look (.p 0), (some 3), none⟩,
    ⟨.bin .lss 1 true (.p 3) (.c (.int .i64 10)), (some 4), none⟩]
@[simp] def eq66_2 := id q66_2.eq_1
def k66_0 : ACode :=
  .ops q66_0 .ret
@[simp] theorem xk66_0 : GoC fns Q s k66_0 st ↔ GoO fns Q s q66_0 .ret st := goC_ops
def k66_1 : ACode :=
  .ops q66_1 .ret
@[simp] theorem xk66_1 : GoC fns Q s k66_1 st ↔ GoO fns Q s q66_1 .ret st := goC_ops
def k66_2 : ACode :=
  .cond (.p 4) k66_1 .skip
@[simp] theorem xk66_2 : GoC fns Q s k66_2 st ↔ GB fns Q s (peek st (.p 4)) k66_1 .skip st := goC_cond
def k66_3 : ACode :=
  .seq k66_2 k66_0
@[simp] theorem xk66_3 : GoC fns Q s k66_3 st ↔ GoC fns Q (.sq k66_0 :: s) k66_2 st := goC_seq
def k66_4 : ACode :=
  .ops q66_2 k66_3
@[simp] theorem xk66_4 : GoC fns Q s k66_4 st ↔ GoO fns Q s q66_2 k66_3 st := goC_ops
def k66_5 : ACode :=
  .ops [⟨.assign (.c (.str [])), (some 2), none⟩] k66_4
@[simp] theorem xk66_5 : GoC fns Q s k66_5 st ↔ GoO fns Q s [⟨.assign (.c (.str [])), (some 2), none⟩] k66_4 st := goC_ops
def af66 : AFunc := ⟨20, k66_5, [.tmp 2], fun _ => none⟩

theorem ok66 : ∃ hs, pFunc Tryd.prog sg hs Tryd.f66 = some af66 := ⟨fun i => 0, by kernel_rfl⟩
/-- No. 48 -/
def rg48_4 : List AOper :=
  [⟨.fieldAddr 1 (.p 5), (some 18), none⟩,
    ⟨.load .head false 1 (.p 18), (some 19), none⟩,
    ⟨.bin .neq 2 true (.p 19) (.c (.str [])), (some 20), none⟩,
    ⟨.move .look (.p 20), (some 21), none⟩,
    ⟨.fieldAddr 2 (.p 5), (some 22), (some (21, false))⟩,
    ⟨.load .head false 1 (.p 22), (some 23), (some (21, false))⟩,
    ⟨.bin .neq 2 true (.p 23) (.c (.str [])), (some 24), (some (21, false))⟩,
    ⟨.pick (.p 21) (.c (.bool true)) (.p 24), (some 25), none⟩,
    ⟨.move .look (.p 25), (some 26), none⟩,
    ⟨.fieldAddr 3 (.p 5), (some 27), (some (26, false))⟩,
    ⟨.load .head false 1 (.p 27), (some 28), (some (26, false))⟩,
    ⟨.bin .neq 1 true (.p 28) (.c (.int .i64 0)), (some 29), (some (26, false))⟩,
    ⟨.pick (.p 26) (.c (.bool true)) (.p 29), (some 30), none⟩,
    ⟨.move .look (.p 30), (some 31), none⟩,
    ⟨.fieldAddr 4 (.p 5), (some 32), (some (31, false))⟩,
    ⟨.load .head false 1 (.p 32), (some 33), (some (31, false))⟩,
    ⟨.bin .neq 1 true (.p 33) (.c (.int .u64 0)), (some 34), (some (31, false))⟩,
    ⟨.pick (.p 31) (.c (.bool true)) (.p 34), (some 35), none⟩,
    ⟨.move .look (.p 35), (some 36), none⟩,
    ⟨.fieldAddr 5 (.p 5), (some 37), (some (36, false))⟩,
    ⟨.load .head false 1 (.p 37), (some 38), (some (36, false))⟩,
    ⟨.bin .neq 1 true (.p 38) (.c (.int .u64 0)), (some 39), (some (36, false))⟩,
    ⟨.pick (.p 36) (.c (.bool true)) (.p 39), (some 40), none⟩,
    ⟨.move .look (.p 40), (some 41), none⟩,
    ⟨.fieldAddr 6 (.p 5), (some 42), (some (41, false))⟩,
    ⟨.load .head false 1 (.p 42), (some 43), (some (41, false))⟩,
    ⟨.len false (.p 43), (some 44), (some (41, false))⟩,
    ⟨.bin .neq 1 true (.p 44) (.c (.int .i64 0)), (some 45), (some (41, false))⟩,
    ⟨.pick (.p 41) (.c (.bool true)) (.p 45), (some 46), none⟩,
    ⟨.move .look (.p 46), (some 47), none⟩,
    ⟨.fieldAddr 7 (.p 5), (some 48), (some (47, false))⟩,
    ⟨.load .head false 1 (.p 48), (some 49), (some (47, false))⟩,
    ⟨.len false (.p 49), (some 50), (some (47, false))⟩,
    ⟨.bin .neq 1 true (.p 50) (.c (.int .i64 0)), (some 51), (some (47, false))⟩,
    ⟨.pick (.p 47) (.c (.bool true)) (.p 51), (some 52), none⟩]
theorem org48_4 : GoO fns Q s rg48_4 c st ↔ GoO fns Q s [⟨.fieldAddr 1 (.p 5), (some 18), none⟩,
    ⟨.load .head false 1 (.p 18), (some 19), none⟩,
    ⟨.bin .neq 2 true (.p 19) (.c (.str [])), (some 20), none⟩,
    ⟨.move .look (.p 20), (some 21), none⟩,
    ⟨.fieldAddr 2 (.p 5), (some 22), (some (21, false))⟩,
    ⟨.load .head false 1 (.p 22), (some 23), (some (21, false))⟩,
    ⟨.bin .neq 2 true (.p 23) (.c (.str [])), (some 24), (some (21, false))⟩,
    ⟨.pick (.p 21) (.c (.bool true)) (.p 24), (some 25), none⟩,
    ⟨.move .look (.p 25), (some 26), none⟩,
    ⟨.fieldAddr 3 (.p 5), (some 27), (some (26, false))⟩,
    ⟨.load .head false 1 (.p 27), (some 28), (some (26, false))⟩,
    ⟨.bin .neq 1 true (.p 28) (.c (.int .i64 0)), (some 29), (some (26, false))⟩,
    ⟨.pick (.p 26) (.c (.bool true)) (.p 29), (some 30), none⟩,
    ⟨.move .look (.p 30), (some 31), none⟩,
    ⟨.fieldAddr 4 (.p 5), (some 32), (some (31, false))⟩,
    ⟨.load .head false 1 (.p 32), (some 33), (some (31, false))⟩,
    ⟨.bin .neq 1 true (.p 33) (.c (.int .u64 0)), (some 34), (some (31, false))⟩,
    ⟨.pick (.p 31) (.c (.bool true)) (.p 34), (some 35), none⟩,
    ⟨.move .look (.p 35), (some 36), none⟩,
    ⟨.fieldAddr 5 (.p 5), (some 37), (some (36, false))⟩,
    ⟨.load .head false 1 (.p 37), (some 38), (some (36, false))⟩,
    ⟨.bin .neq 1 true (.p 38) (.c (.int .u64 0)), (some 39), (some (36, false))⟩,
    ⟨.pick (.p 36) (.c (.bool true)) (.p 39), (some 40), none⟩,
    ⟨.move .look (.p 40), (some 41), none⟩,
    ⟨.fieldAddr 6 (.p 5), (some 42), (some (41, false))⟩,
    ⟨.load .head false 1 (.p 42), (some 43), (some (41, false))⟩,
    ⟨.len false (.p 43), (some 44), (some (41, false))⟩,
    ⟨.bin .neq 1 true (.p 44) (.c (.int .i64 0)), (some 45), (some (41, false))⟩,
    ⟨.pick (.p 41) (.c (.bool true)) (.p 45), (some 46), none⟩,
    ⟨.move .look (.p 46), (some 47), none⟩,
    ⟨.fieldAddr 7 (.p 5), (some 48), (some (47, false))⟩,
    ⟨.load .head false 1 (.p 48), (some 49), (some (47, false))⟩,
    ⟨.len false (.p 49), (some 50), (some (47, false))⟩,
    ⟨.bin .neq 1 true (.p 50) (.c (.int .i64 0)), (some 51), (some (47, false))⟩,
    ⟨.pick (.p 47) (.c (.bool true)) (.p 51), (some 52), none⟩] c st := Iff.rfl
def q48_0 : List AOper :=
  [⟨.move .look (.p 6), (some 107), none⟩,
    ⟨.bin .add 1 true (.p 107) (.c (.int .i64 1)), (some 108), none⟩,
    ⟨.assign (.p 108), (some 6), none⟩]
@[simp] def eq48_0 := id q48_0.eq_1
def q48_1 : List AOper :=
  [⟨.fieldAddr 0 (.p 7), (some 114), none⟩,
    ⟨.load .look false 1 (.p 114), (some 115), none⟩,
    ⟨.call 13 [(.p 115, false)], (some 116), none⟩,
    ⟨.un .not (.p 116), (some 117), none⟩,
    ⟨.move .look (.p 117), (some 118), none⟩,
    ⟨.fieldAddr 0 (.p 2), (some 119), (some (118, false))⟩,
    ⟨.load .head false 1 (.p 119), (some 120), (some (118, false))⟩,
    ⟨.bin .eql 1 true (.p 120) (.c (.int .i64 4)), (some 121), (some (118, false))⟩,
    ⟨.move .look (.p 121), (some 122), (some (118, false))⟩,
    ⟨.fieldAddr 0 (.p 7), (some 123), (some (122, true))⟩,
    ⟨.load .head false 1 (.p 123), (some 124), (some (122, true))⟩,
    ⟨.move .look (.p 6), (some 125), (some (122, true))⟩,
    ⟨.call 66 [(.p 125, false)], (some 126), (some (122, true))⟩,
    ⟨.bin .neq 2 false (.p 124) (.p 126), (some 127), (some (122, true))⟩,
    ⟨.pick (.p 122) (.p 127) (.c (.bool false)), (some 128), (some (118, false))⟩,
    ⟨.pick (.p 118) (.c (.bool true)) (.p 128), (some 129), none⟩,
    ⟨.move .look (.p 129), (some 130), none⟩,
    ⟨.fieldAddr 1 (.p 7), (some 131), (some (130, false))⟩,
    ⟨.load .look true 8 (.p 131), (some 132), (some (130, false))⟩,
    ⟨.move .look (.p 1), (some 133), (some (130, false))⟩,
    ⟨.bin .sub 1 true (.p 133) (.c (.int .i64 1)), (some 134), (some (130, false))⟩,
    ⟨.call 48 [(.p 132, false), (.p 134, false)], (some 135), (some (130, false))⟩,
    ⟨.un .not (.p 135), (some 136), (some (130, false))⟩,
    ⟨.pick (.p 130) (.c (.bool true)) (.p 136), (some 137), none⟩]
@[simp] def eq48_1 := id q48_1.eq_1
def q48_2 : List AOper :=
  [⟨.fieldAddr 7 (.p 2), (some 109), none⟩,
    ⟨.load .look false 1 (.p 109), (some 110), none⟩,
    ⟨.move .look (.p 6), (some 111), none⟩,
    ⟨.indexAddr 9 (.t 110) (.p 111), (some 112), none⟩,
    ⟨.load .take true 9 (.p 112), (some 113), none⟩,
    ⟨.newbox 7 [.str [], .int .i64 0, .str [], .str [], .int .i64 0, .int .u64 0, .int .u64 0, .slice .nil 0 1 [], .slice .nil 0 1 []], (some 7), none⟩,
    ⟨.store 9 (.p 7) (.p 113), none, none⟩]
@[simp] def eq48_2 := id q48_2.eq_1
def q48_3 : List AOper :=
  [⟨.move .look (.p 6), (some 102), none⟩,
    ⟨.fieldAddr 7 (.p 2), (some 103), none⟩,
    ⟨.load .head false 1 (.p 103), (some 104), none⟩,
    ⟨.len false (.p 104), (some 105), none⟩,
    ⟨.bin .lss 1 false (.p 102) (.p 105), (some 106), none⟩]
@[simp] def eq48_3 := id q48_3.eq_1
def q48_4 : List AOper :=
  [⟨.fieldAddr 3 (.p 2), (some 57), none⟩,
    ⟨.load .look false 1 (.p 57), (some 58), none⟩,
    ⟨.bin .geq 1 true (.p 58) (.c (.int .i64 0)), (some 59), none⟩,
    ⟨.move .look (.p 59), (some 60), none⟩,
    ⟨.fieldAddr 3 (.p 2), (some 61), (some (60, true))⟩,
    ⟨.load .look false 1 (.p 61), (some 62), (some (60, true))⟩,
    ⟨.bin .leq 1 true (.p 62) (.c (.int .i64 255)), (some 63), (some (60, true))⟩,
    ⟨.pick (.p 60) (.p 63) (.c (.bool false)), (some 64), none⟩,
    ⟨.assign (.p 64), (some 4), none⟩]
@[simp] def eq48_4 := id q48_4.eq_1
def q48_5 : List AOper :=
  [⟨.fieldAddr 6 (.p 2), (some 68), none⟩,
    ⟨.load .head false 1 (.p 68), (some 69), none⟩,
    ⟨.len false (.p 69), (some 70), none⟩,
    ⟨.bin .eql 1 true (.p 70) (.c (.int .i64 12)), (some 71), none⟩,
    ⟨.assign (.p 71), (some 4), none⟩]
@[simp] def eq48_5 := id q48_5.eq_1
def q48_6 : List AOper :=
  [⟨.fieldAddr 3 (.p 2), (some 74), none⟩,
    ⟨.load .head false 1 (.p 74), (some 75), none⟩,
    ⟨.bin .eql 1 true (.p 75) (.c (.int .i64 0)), (some 76), none⟩,
    ⟨.move .look (.p 76), (some 77), none⟩,
    ⟨.fieldAddr 3 (.p 2), (some 78), (some (77, false))⟩,
    ⟨.load .head false 1 (.p 78), (some 79), (some (77, false))⟩,
    ⟨.bin .eql 1 true (.p 79) (.c (.int .i64 1)), (some 80), (some (77, false))⟩,
    ⟨.pick (.p 77) (.c (.bool true)) (.p 80), (some 81), none⟩,
    ⟨.assign (.p 81), (some 4), none⟩]
@[simp] def eq48_6 := id q48_6.eq_1
def q48_7 : List AOper :=
  [⟨.fieldAddr 3 (.p 2), (some 84), none⟩,
    ⟨.load .look false 1 (.p 84), (some 85), none⟩,
    ⟨.bin .geq 1 true (.p 85) (.c (.int .i64 (-2147483648))), (some 86), none⟩,
    ⟨.move .look (.p 86), (some 87), none⟩,
    ⟨.fieldAddr 3 (.p 2), (some 88), (some (87, true))⟩,
    ⟨.load .look false 1 (.p 88), (some 89), (some (87, true))⟩,
    ⟨.bin .lss 1 true (.p 89) (.c (.int .i64 2147483648)), (some 90), (some (87, true))⟩,
    ⟨.pick (.p 87) (.p 90) (.c (.bool false)), (some 91), none⟩,
    ⟨.assign (.p 91), (some 4), none⟩]
@[simp] def eq48_7 := id q48_7.eq_1
def q48_8 : List AOper :=
  [⟨.fieldAddr 1 (.p 2), (some 94), none⟩,
    ⟨.load .look false 1 (.p 94), (some 95), none⟩,
    ⟨.call 13 [(.p 95, false)], (some 96), none⟩,
    ⟨.move .look (.p 96), (some 97), none⟩,
    ⟨.fieldAddr 2 (.p 2), (some 98), (some (97, true))⟩,
    ⟨.load .look false 1 (.p 98), (some 99), (some (97, true))⟩,
    ⟨.call 13 [(.p 99, false)], (some 100), (some (97, true))⟩,
    ⟨.pick (.p 97) (.p 100) (.c (.bool false)), (some 101), none⟩,
    ⟨.assign (.p 101), (some 4), none⟩]
@[simp] def eq48_8 := id q48_8.eq_1
def q48_9 : List AOper :=
  [⟨.bin .eql 1 true (.p 54) (.c (.int .i64 11)), (some 93), none⟩,
    ⟨.assign (.p 93), (some 92), none⟩]
@[simp] def eq48_9 := id q48_9.eq_1
def q48_10 : List AOper :=
  [⟨.bin .eql 1 true (.p 54) (.c (.int .i64 16)), (some 83), none⟩,
    ⟨.assign (.p 83), (some 82), none⟩]
@[simp] def eq48_10 := id q48_10.eq_1
def q48_11 : List AOper :=
  [⟨.bin .eql 1 true (.p 54) (.c (.int .i64 8)), (some 73), none⟩,
    ⟨.assign (.p 73), (some 72), none⟩]
@[simp] def eq48_11 := id q48_11.eq_1
def q48_12 : List AOper :=
  [⟨.bin .eql 1 true (.p 54) (.c (.int .i64 12)), (some 67), none⟩,
    ⟨.assign (.p 67), (some 65), none⟩]
@[simp] def eq48_12 := id q48_12.eq_1
def q48_13 : List AOper :=
  [⟨.bin .eql 1 true (.p 54) (.c (.int .i64 7)), (some 66), none⟩,
    ⟨.assign (.p 66), (some 65), none⟩]
@[simp] def eq48_13 := id q48_13.eq_1
def q48_14 : List AOper :=
  [⟨.bin .eql 1 true (.p 54) (.c (.int .i64 5)), (some 56), none⟩,
    ⟨.assign (.p 56), (some 55), none⟩]
@[simp] def eq48_14 := id q48_14.eq_1
def q48_15 : List AOper :=
  [⟨.fieldAddr 0 (.p 2), (some 53), none⟩,
    ⟨.load .head false 1 (.p 53), (some 54), none⟩]
@[simp] def eq48_15 := id q48_15.eq_1
def q48_16 : List AOper :=
  [⟨.load .look true 8 (.p 2), (some 16), none⟩,
    ⟨.call 65 [(.p 16, false)], (some 17), none⟩,
    ⟨.newbox 5 [.int .i64 0, .str [], .str [], .int .i64 0, .int .u64 0, .int .u64 0, .slice .nil 0 1 [], .slice .nil 0 1 []], (some 5), none⟩,
    ⟨.store 8 (.p 5) (.p 17), none, none⟩]
@[simp] def eq48_16 := id q48_16.eq_1
def q48_17 : List AOper :=
  [⟨.fieldAddr 0 (.p 2), (some 8), none⟩,
    ⟨.load .look false 1 (.p 8), (some 9), none⟩,
    ⟨.call 64 [(.p 9, false)], (some 10), none⟩,
    ⟨.un .not (.p 10), (some 11), none⟩,
    ⟨.move .look (.p 11), (some 12), none⟩,
    ⟨.move .head (.p 1), (some 13), (some (12, false))⟩,
    ⟨.bin .eql 1 true (.p 13) (.c (.int .i64 0)), (some 14), (some (12, false))⟩,
    ⟨.pick (.p 12) (.c (.bool true)) (.p 14), (some 15), none⟩]
@[simp] def eq48_17 := id q48_17.eq_1
def q48_18 : List AOper :=
  [⟨.box 2 (.p 0), (some 2), none⟩,
    ⟨.assign (.c (.bool false)), (some 4), none⟩]
@[simp] def eq48_18 := id q48_18.eq_1
def k48_0 : ACode :=
  .ops [⟨.assign (.c (.bool true)), (some 4), none⟩] .ret
@[simp] theorem xk48_0 : GoC fns Q s k48_0 st ↔ GoO fns Q s [⟨.assign (.c (.bool true)), (some 4), none⟩] .ret st := goC_ops
def k48_1 : ACode :=
  .ops q48_0 .skip
@[simp] theorem xk48_1 : GoC fns Q s k48_1 st ↔ GoO fns Q s q48_0 .skip st := goC_ops
def k48_2 : ACode :=
  .ops [⟨.assign (.c (.bool false)), (some 4), none⟩] .ret
@[simp] theorem xk48_2 : GoC fns Q s k48_2 st ↔ GoO fns Q s [⟨.assign (.c (.bool false)), (some 4), none⟩] .ret st := goC_ops
def k48_3 : ACode :=
  .cond (.p 137) k48_2 .skip
@[simp] theorem xk48_3 : GoC fns Q s k48_3 st ↔ GB fns Q s (peek st (.p 137)) k48_2 .skip st := goC_cond
def k48_4 : ACode :=
  .ops q48_1 k48_3
@[simp] theorem xk48_4 : GoC fns Q s k48_4 st ↔ GoO fns Q s q48_1 k48_3 st := goC_ops
def k48_5 : ACode :=
  .ops q48_2 k48_4
@[simp] theorem xk48_5 : GoC fns Q s k48_5 st ↔ GoO fns Q s q48_2 k48_4 st := goC_ops
def k48_6 : ACode :=
  .block 2 k48_5
@[simp] theorem xk48_6 : GoC fns Q s k48_6 st ↔ GoC fns Q (.bl 2 :: s) k48_5 st := goC_block
def k48_7 : ACode :=
  .seq k48_6 k48_1
@[simp] theorem xk48_7 : GoC fns Q s k48_7 st ↔ GoC fns Q (.sq k48_1 :: s) k48_6 st := goC_seq
def k48_8 : ACode :=
  .cond (.p 106) .skip (.exit 1)
@[simp] theorem xk48_8 : GoC fns Q s k48_8 st ↔ GB fns Q s (peek st (.p 106)) .skip (.exit 1) st := goC_cond
def k48_9 : ACode :=
  .seq k48_8 k48_7
@[simp] theorem xk48_9 : GoC fns Q s k48_9 st ↔ GoC fns Q (.sq k48_7 :: s) k48_8 st := goC_seq
def k48_10 : ACode :=
  .ops q48_3 k48_9
@[simp] theorem xk48_10 : GoC fns Q s k48_10 st ↔ GoO fns Q s q48_3 k48_9 st := goC_ops
def lc48_0 : ACode :=
  k48_10
@[simp] theorem xlc48_0 : GoC fns Q s lc48_0 st ↔ GoC fns Q s k48_10 st := Iff.rfl
def k48_12 : ACode :=
  .loop lc48_0
@[simp] theorem xk48_12 : GoC fns Q s k48_12 st ↔ (LoopR fns lc48_0 st fun r => GoE fns Q s r.1 r.2) := goC_loop
def k48_13 : ACode :=
  .block 1 k48_12
@[simp] theorem xk48_13 : GoC fns Q s k48_13 st ↔ GoC fns Q (.bl 1 :: s) k48_12 st := goC_block
def k48_14 : ACode :=
  .seq k48_13 k48_0
@[simp] theorem xk48_14 : GoC fns Q s k48_14 st ↔ GoC fns Q (.sq k48_0 :: s) k48_13 st := goC_seq
def k48_15 : ACode :=
  .ops [⟨.assign (.c (.int .i64 0)), (some 6), none⟩] k48_14
@[simp] theorem xk48_15 : GoC fns Q s k48_15 st ↔ GoO fns Q s [⟨.assign (.c (.int .i64 0)), (some 6), none⟩] k48_14 st := goC_ops
def k48_16 : ACode :=
  .ops q48_4 .ret
@[simp] theorem xk48_16 : GoC fns Q s k48_16 st ↔ GoO fns Q s q48_4 .ret st := goC_ops
def k48_17 : ACode :=
  .ops q48_5 .ret
@[simp] theorem xk48_17 : GoC fns Q s k48_17 st ↔ GoO fns Q s q48_5 .ret st := goC_ops
def k48_18 : ACode :=
  .ops q48_6 .ret
@[simp] theorem xk48_18 : GoC fns Q s k48_18 st ↔ GoO fns Q s q48_6 .ret st := goC_ops
def k48_19 : ACode :=
  .ops q48_7 .ret
@[simp] theorem xk48_19 : GoC fns Q s k48_19 st ↔ GoO fns Q s q48_7 .ret st := goC_ops
def k48_20 : ACode :=
  .ops q48_8 .ret
@[simp] theorem xk48_20 : GoC fns Q s k48_20 st ↔ GoO fns Q s q48_8 .ret st := goC_ops
def k48_21 : ACode :=
  .cond (.p 92) k48_20 .skip
@[simp] theorem xk48_21 : GoC fns Q s k48_21 st ↔ GB fns Q s (peek st (.p 92)) k48_20 .skip st := goC_cond
def k48_22 : ACode :=
  .ops q48_9 k48_21
@[simp] theorem xk48_22 : GoC fns Q s k48_22 st ↔ GoO fns Q s q48_9 k48_21 st := goC_ops
def k48_23 : ACode :=
  .cond (.p 82) k48_19 k48_22
@[simp] theorem xk48_23 : GoC fns Q s k48_23 st ↔ GB fns Q s (peek st (.p 82)) k48_19 k48_22 st := goC_cond
def k48_24 : ACode :=
  .ops q48_10 k48_23
@[simp] theorem xk48_24 : GoC fns Q s k48_24 st ↔ GoO fns Q s q48_10 k48_23 st := goC_ops
def k48_25 : ACode :=
  .cond (.p 72) k48_18 k48_24
@[simp] theorem xk48_25 : GoC fns Q s k48_25 st ↔ GB fns Q s (peek st (.p 72)) k48_18 k48_24 st := goC_cond
def k48_26 : ACode :=
  .ops q48_11 k48_25
@[simp] theorem xk48_26 : GoC fns Q s k48_26 st ↔ GoO fns Q s q48_11 k48_25 st := goC_ops
def k48_27 : ACode :=
  .cond (.p 65) k48_17 k48_26
@[simp] theorem xk48_27 : GoC fns Q s k48_27 st ↔ GB fns Q s (peek st (.p 65)) k48_17 k48_26 st := goC_cond
def k48_28 : ACode :=
  .ops q48_12 .skip
@[simp] theorem xk48_28 : GoC fns Q s k48_28 st ↔ GoO fns Q s q48_12 .skip st := goC_ops
def k48_29 : ACode :=
  .cond (.p 65) .skip k48_28
@[simp] theorem xk48_29 : GoC fns Q s k48_29 st ↔ GB fns Q s (peek st (.p 65)) .skip k48_28 st := goC_cond
def k48_30 : ACode :=
  .seq k48_29 k48_27
@[simp] theorem xk48_30 : GoC fns Q s k48_30 st ↔ GoC fns Q (.sq k48_27 :: s) k48_29 st := goC_seq
def k48_31 : ACode :=
  .ops q48_13 k48_30
@[simp] theorem xk48_31 : GoC fns Q s k48_31 st ↔ GoO fns Q s q48_13 k48_30 st := goC_ops
def k48_32 : ACode :=
  .cond (.p 55) k48_16 k48_31
@[simp] theorem xk48_32 : GoC fns Q s k48_32 st ↔ GB fns Q s (peek st (.p 55)) k48_16 k48_31 st := goC_cond
def k48_33 : ACode :=
  .ops q48_14 k48_32
@[simp] theorem xk48_33 : GoC fns Q s k48_33 st ↔ GoO fns Q s q48_14 k48_32 st := goC_ops
def k48_34 : ACode :=
  .block 0 k48_33
@[simp] theorem xk48_34 : GoC fns Q s k48_34 st ↔ GoC fns Q (.bl 0 :: s) k48_33 st := goC_block
def k48_35 : ACode :=
  .seq k48_34 k48_15
@[simp] theorem xk48_35 : GoC fns Q s k48_35 st ↔ GoC fns Q (.sq k48_15 :: s) k48_34 st := goC_seq
def k48_36 : ACode :=
  .ops q48_15 k48_35
@[simp] theorem xk48_36 : GoC fns Q s k48_36 st ↔ GoO fns Q s q48_15 k48_35 st := goC_ops
def k48_37 : ACode :=
  .ops [⟨.assign (.c (.bool false)), (some 4), none⟩] .ret
@[simp] theorem xk48_37 : GoC fns Q s k48_37 st ↔ GoO fns Q s [⟨.assign (.c (.bool false)), (some 4), none⟩] .ret st := goC_ops
def k48_38 : ACode :=
  .cond (.p 52) k48_37 .skip
@[simp] theorem xk48_38 : GoC fns Q s k48_38 st ↔ GB fns Q s (peek st (.p 52)) k48_37 .skip st := goC_cond
def k48_39 : ACode :=
  .seq k48_38 k48_36
@[simp] theorem xk48_39 : GoC fns Q s k48_39 st ↔ GoC fns Q (.sq k48_36 :: s) k48_38 st := goC_seq
def k48_40 : ACode :=
  .ops rg48_4 k48_39
@[simp] theorem xk48_40 : GoC fns Q s k48_40 st ↔ GoO fns Q s rg48_4 k48_39 st := goC_ops
def k48_41 : ACode :=
  .ops q48_16 k48_40
@[simp] theorem xk48_41 : GoC fns Q s k48_41 st ↔ GoO fns Q s q48_16 k48_40 st := goC_ops
def k48_42 : ACode :=
  .ops [⟨.assign (.c (.bool false)), (some 4), none⟩] .ret
@[simp] theorem xk48_42 : GoC fns Q s k48_42 st ↔ GoO fns Q s [⟨.assign (.c (.bool false)), (some 4), none⟩] .ret st := goC_ops
def k48_43 : ACode :=
  .cond (.p 15) k48_42 .skip
@[simp] theorem xk48_43 : GoC fns Q s k48_43 st ↔ GB fns Q s (peek st (.p 15)) k48_42 .skip st := goC_cond
def k48_44 : ACode :=
  .seq k48_43 k48_41
@[simp] theorem xk48_44 : GoC fns Q s k48_44 st ↔ GoC fns Q (.sq k48_41 :: s) k48_43 st := goC_seq
def k48_45 : ACode :=
  .ops q48_17 k48_44
@[simp] theorem xk48_45 : GoC fns Q s k48_45 st ↔ GoO fns Q s q48_17 k48_44 st := goC_ops
def k48_46 : ACode :=
  .ops q48_18 k48_45
@[simp] theorem xk48_46 : GoC fns Q s k48_46 st ↔ GoO fns Q s q48_18 k48_45 st := goC_ops
def af48 : AFunc := ⟨138, k48_46, [.tmp 4], fun _ => none⟩

theorem ok48 : ∃ hs, pFunc Tryd.prog sg hs Tryd.f48 = some af48 := ⟨fun i => 0, by kernel_rfl⟩
/-- No. 28 -/
def q28_0 : List AOper :=
  [⟨.load .look true 8 (.p 1), (some 3), none⟩,
    ⟨.call 48 [(.p 3, false), (.c (.int .i64 200), false)], (some 4), none⟩,
    ⟨.assign (.p 4), (some 2), none⟩]
@[simp] def eq28_0 := id q28_0.eq_1
def q28_1 : List AOper :=
  [⟨.box 1 (.p 0), (some 1), none⟩,
    ⟨.assign (.c (.bool false)), (some 2), none⟩]
@[simp] def eq28_1 := id q28_1.eq_1
def k28_0 : ACode :=
  .ops q28_0 .ret
@[simp] theorem xk28_0 : GoC fns Q s k28_0 st ↔ GoO fns Q s q28_0 .ret st := goC_ops
def k28_1 : ACode :=
  .ops q28_1 k28_0
@[simp] theorem xk28_1 : GoC fns Q s k28_1 st ↔ GoO fns Q s q28_1 k28_0 st := goC_ops
def af28 : AFunc := ⟨5, k28_1, [.tmp 2], fun _ => none⟩

theorem ok28 : ∃ hs, pFunc Tryd.prog sg hs Tryd.f28 = some af28 := ⟨fun i => 0, by kernel_rfl⟩
/-- No. 29 -/
def q29_0 : List AOper :=
  [⟨.move .take (.p 3), (some 40), none⟩,
    ⟨.assign (.p 40), (some 2), none⟩]
@[simp] def eq29_0 := id q29_0.eq_1
def q29_1 : List AOper :=
  [⟨.move .look (.p 4), (some 21), none⟩,
    ⟨.bin .add 1 true (.p 21) (.c (.int .i64 1)), (some 22), none⟩,
    ⟨.assign (.p 22), (some 4), none⟩]
@[simp] def eq29_1 := id q29_1.eq_1
def q29_2 : List AOper :=
  [⟨.move .look (.p 3), (some 23), none⟩,
    ⟨.fieldAddr 7 (.p 1), (some 24), none⟩,
    ⟨.load .look false 1 (.p 24), (some 25), none⟩,
    ⟨.move .look (.p 4), (some 26), none⟩,
    ⟨.indexAddr 9 (.t 25) (.p 26), (some 27), none⟩,
    ⟨.fieldAddr 0 (.p 27), (some 28), none⟩,
    ⟨.load .head false 1 (.p 28), (some 29), none⟩,
    ⟨.len true (.p 29), (some 30), none⟩,
    ⟨.bin .add 1 false (.p 23) (.p 30), (some 31), none⟩,
    ⟨.fieldAddr 7 (.p 1), (some 32), none⟩,
    ⟨.load .look false 1 (.p 32), (some 33), none⟩,
    ⟨.move .look (.p 4), (some 34), none⟩,
    ⟨.indexAddr 9 (.t 33) (.p 34), (some 35), none⟩,
    ⟨.fieldAddr 1 (.p 35), (some 36), none⟩,
    ⟨.load .look true 8 (.p 36), (some 37), none⟩,
    ⟨.call 29 [(.p 37, false)], (some 38), none⟩,
    ⟨.bin .add 1 false (.p 31) (.p 38), (some 39), none⟩,
    ⟨.assign (.p 39), (some 3), none⟩]
@[simp] def eq29_2 := id q29_2.eq_1
def q29_3 : List AOper :=
  [⟨.move .look (.p 4), (some 16), none⟩,
    ⟨.fieldAddr 7 (.p 1), (some 17), none⟩,
    ⟨.load .head false 1 (.p 17), (some 18), none⟩,
    ⟨.len false (.p 18), (some 19), none⟩,
    ⟨.bin .lss 1 false (.p 16) (.p 19), (some 20), none⟩]
@[simp] def eq29_3 := id q29_3.eq_1
def q29_4 : List AOper :=
  [⟨.fieldAddr 1 (.p 1), (some 5), none⟩,
    ⟨.load .head false 1 (.p 5), (some 6), none⟩,
    ⟨.len true (.p 6), (some 7), none⟩,
    ⟨.fieldAddr 2 (.p 1), (some 8), none⟩,
    ⟨.load .head false 1 (.p 8), (some 9), none⟩,
    ⟨.len true (.p 9), (some 10), none⟩,
    ⟨.bin .add 1 false (.p 7) (.p 10), (some 11), none⟩,
    ⟨.fieldAddr 6 (.p 1), (some 12), none⟩,
    ⟨.load .head false 1 (.p 12), (some 13), none⟩,
    ⟨.len false (.p 13), (some 14), none⟩,
    ⟨.bin .add 1 false (.p 11) (.p 14), (some 15), none⟩,
    ⟨.assign (.p 15), (some 3), none⟩]
@[simp] def eq29_4 := id q29_4.eq_1
def q29_5 : List AOper :=
  [⟨.box 1 (.p 0), (some 1), none⟩,
    ⟨.assign (.c (.int .i64 0)), (some 2), none⟩]
@[simp] def eq29_5 := id q29_5.eq_1
def k29_0 : ACode :=
  .ops q29_0 .ret
@[simp] theorem xk29_0 : GoC fns Q s k29_0 st ↔ GoO fns Q s q29_0 .ret st := goC_ops
def k29_1 : ACode :=
  .ops q29_1 .skip
@[simp] theorem xk29_1 : GoC fns Q s k29_1 st ↔ GoO fns Q s q29_1 .skip st := goC_ops
def k29_2 : ACode :=
  .ops q29_2 .skip
@[simp] theorem xk29_2 : GoC fns Q s k29_2 st ↔ GoO fns Q s q29_2 .skip st := goC_ops
def k29_3 : ACode :=
  .block 1 k29_2
@[simp] theorem xk29_3 : GoC fns Q s k29_3 st ↔ GoC fns Q (.bl 1 :: s) k29_2 st := goC_block
def k29_4 : ACode :=
  .seq k29_3 k29_1
@[simp] theorem xk29_4 : GoC fns Q s k29_4 st ↔ GoC fns Q (.sq k29_1 :: s) k29_3 st := goC_seq
def k29_5 : ACode :=
  .cond (.p 20) .skip (.exit 0)
@[simp] theorem xk29_5 : GoC fns Q s k29_5 st ↔ GB fns Q s (peek st (.p 20)) .skip (.exit 0) st := goC_cond
def k29_6 : ACode :=
  .seq k29_5 k29_4
@[simp] theorem xk29_6 : GoC fns Q s k29_6 st ↔ GoC fns Q (.sq k29_4 :: s) k29_5 st := goC_seq
def k29_7 : ACode :=
  .ops q29_3 k29_6
@[simp] theorem xk29_7 : GoC fns Q s k29_7 st ↔ GoO fns Q s q29_3 k29_6 st := goC_ops
def lc29_0 : ACode :=
  k29_7
@[simp] theorem xlc29_0 : GoC fns Q s lc29_0 st ↔ GoC fns Q s k29_7 st := Iff.rfl
def k29_9 : ACode :=
  .loop lc29_0
@[simp] theorem xk29_9 : GoC fns Q s k29_9 st ↔ (LoopR fns lc29_0 st fun r => GoE fns Q s r.1 r.2) := goC_loop
def k29_10 : ACode :=
  .block 0 k29_9
@[simp] theorem xk29_10 : GoC fns Q s k29_10 st ↔ GoC fns Q (.bl 0 :: s) k29_9 st := goC_block
def k29_11 : ACode :=
  .seq k29_10 k29_0
@[simp] theorem xk29_11 : GoC fns Q s k29_11 st ↔ GoC fns Q (.sq k29_0 :: s) k29_10 st := goC_seq
def k29_12 : ACode :=
  .ops [⟨.assign (.c (.int .i64 0)), (some 4), none⟩] k29_11
@[simp] theorem xk29_12 : GoC fns Q s k29_12 st ↔ GoO fns Q s [⟨.assign (.c (.int .i64 0)), (some 4), none⟩] k29_11 st := goC_ops
def k29_13 : ACode :=
  .ops q29_4 k29_12
@[simp] theorem xk29_13 : GoC fns Q s k29_13 st ↔ GoO fns Q s q29_4 k29_12 st := goC_ops
def k29_14 : ACode :=
  .ops q29_5 k29_13
@[simp] theorem xk29_14 : GoC fns Q s k29_14 st ↔ GoO fns Q s q29_5 k29_13 st := goC_ops
def af29 : AFunc := ⟨41, k29_14, [.tmp 2], fun _ => none⟩

theorem ok29 : ∃ hs, pFunc Tryd.prog sg hs Tryd.f29 = some af29 := ⟨fun i => 0, by kernel_rfl⟩
/-- No. 8 -/
def q8_0 : List AOper :=
  [⟨.load .look true 8 (.p 1), (some 3), none⟩,
    ⟨.call 27 [(.p 3, false), (.c (.int .i64 1000), false)], (some 4), none⟩,
    ⟨.bin .leq 1 true (.p 4) (.c (.int .i64 1000)), (some 5), none⟩,
    ⟨.move .look (.p 5), (some 6), none⟩,
    ⟨.load .look true 8 (.p 1), (some 7), (some (6, true))⟩,
    ⟨.call 28 [(.p 7, false)], (some 8), (some (6, true))⟩,
    ⟨.pick (.p 6) (.p 8) (.c (.bool false)), (some 9), none⟩,
    ⟨.move .look (.p 9), (some 10), none⟩,
    ⟨.load .look true 8 (.p 1), (some 11), (some (10, true))⟩,
    ⟨.call 29 [(.p 11, false)], (some 12), (some (10, true))⟩,
    ⟨.bin .leq 1 true (.p 12) (.c (.int .i64 65536)), (some 13), (some (10, true))⟩,
    ⟨.pick (.p 10) (.p 13) (.c (.bool false)), (some 14), none⟩,
    ⟨.assign (.p 14), (some 2), none⟩]
@[simp] def eq8_0 := id q8_0.eq_1
def q8_1 : List AOper :=
  [⟨.box 1 (.p 0), (some 1), none⟩,
    ⟨.assign (.c (.bool false)), (some 2), none⟩]
@[simp] def eq8_1 := id q8_1.eq_1
def k8_0 : ACode :=
  .ops q8_0 .ret
@[simp] theorem xk8_0 : GoC fns Q s k8_0 st ↔ GoO fns Q s q8_0 .ret st := goC_ops
def k8_1 : ACode :=
  .ops q8_1 k8_0
@[simp] theorem xk8_1 : GoC fns Q s k8_1 st ↔ GoO fns Q s q8_1 k8_0 st := goC_ops
def af8 : AFunc := ⟨15, k8_1, [.tmp 2], fun _ => none⟩

theorem ok8 : ∃ hs, pFunc Tryd.prog sg hs Tryd.f8 = some af8 := ⟨fun i => 0, by kernel_rfl⟩
/-- No. 34 -/
def q34_0 : List AOper :=
  [⟨.move .look (.p 3), (some 16), none⟩,
    ⟨.bin .add 1 true (.p 16) (.c (.int .i64 1)), (some 17), none⟩,
    ⟨.assign (.p 17), (some 3), none⟩]
@[simp] def eq34_0 := id q34_0.eq_1
def q34_1 : List AOper :=
  [⟨.fieldAddr 7 (.p 1), (some 18), none⟩,
    ⟨.load .look false 1 (.p 18), (some 19), none⟩,
    ⟨.move .look (.p 3), (some 20), none⟩,
    ⟨.indexAddr 9 (.t 19) (.p 20), (some 21), none⟩,
    ⟨.fieldAddr 1 (.p 21), (some 22), none⟩,
    ⟨.load .look true 8 (.p 22), (some 23), none⟩,
    ⟨.call 34 [(.p 23, false)], (some 24), none⟩,
    ⟨.un .not (.p 24), (some 25), none⟩]
@[simp] def eq34_1 := id q34_1.eq_1
def q34_2 : List AOper :=
  [⟨.move .look (.p 3), (some 11), none⟩,
    ⟨.fieldAddr 7 (.p 1), (some 12), none⟩,
    ⟨.load .head false 1 (.p 12), (some 13), none⟩,
    ⟨.len false (.p 13), (some 14), none⟩,
    ⟨.bin .lss 1 false (.p 11) (.p 14), (some 15), none⟩]
@[simp] def eq34_2 := id q34_2.eq_1
def q34_3 : List AOper :=
  [⟨.fieldAddr 2 (.p 1), (some 4), none⟩,
    ⟨.load .look false 1 (.p 4), (some 5), none⟩,
    ⟨.convSR 21 (.p 5), (some 6), none⟩,
    ⟨.px .rStr [.p 6], (some 7), none⟩,
    ⟨.fieldAddr 2 (.p 1), (some 8), none⟩,
    ⟨.load .head false 1 (.p 8), (some 9), none⟩,
    ⟨.bin .neq 2 false (.p 7) (.p 9), (some 10), none⟩]
@[simp] def eq34_3 := id q34_3.eq_1
def q34_4 : List AOper :=
  [⟨.box 1 (.p 0), (some 1), none⟩,
    ⟨.assign (.c (.bool false)), (some 2), none⟩]
@[simp] def eq34_4 := id q34_4.eq_1
def k34_0 : ACode :=
  .ops [⟨.assign (.c (.bool true)), (some 2), none⟩] .ret
@[simp] theorem xk34_0 : GoC fns Q s k34_0 st ↔ GoO fns Q s [⟨.assign (.c (.bool true)), (some 2), none⟩] .ret st := goC_ops
def k34_1 : ACode :=
  .ops q34_0 .skip
@[simp] theorem xk34_1 : GoC fns Q s k34_1 st ↔ GoO fns Q s q34_0 .skip st := goC_ops
def k34_2 : ACode :=
  .ops [⟨.assign (.c (.bool false)), (some 2), none⟩] .ret
@[simp] theorem xk34_2 : GoC fns Q s k34_2 st ↔ GoO fns Q s [⟨.assign (.c (.bool false)), (some 2), none⟩] .ret st := goC_ops
def k34_3 : ACode :=
  .cond (.p 25) k34_2 .skip
@[simp] theorem xk34_3 : GoC fns Q s k34_3 st ↔ GB fns Q s (peek st (.p 25)) k34_2 .skip st := goC_cond
def k34_4 : ACode :=
  .ops q34_1 k34_3
@[simp] theorem xk34_4 : GoC fns Q s k34_4 st ↔ GoO fns Q s q34_1 k34_3 st := goC_ops
def k34_5 : ACode :=
  .block 1 k34_4
@[simp] theorem xk34_5 : GoC fns Q s k34_5 st ↔ GoC fns Q (.bl 1 :: s) k34_4 st := goC_block
def k34_6 : ACode :=
  .seq k34_5 k34_1
@[simp] theorem xk34_6 : GoC fns Q s k34_6 st ↔ GoC fns Q (.sq k34_1 :: s) k34_5 st := goC_seq
def k34_7 : ACode :=
  .cond (.p 15) .skip (.exit 0)
@[simp] theorem xk34_7 : GoC fns Q s k34_7 st ↔ GB fns Q s (peek st (.p 15)) .skip (.exit 0) st := goC_cond
def k34_8 : ACode :=
  .seq k34_7 k34_6
@[simp] theorem xk34_8 : GoC fns Q s k34_8 st ↔ GoC fns Q (.sq k34_6 :: s) k34_7 st := goC_seq
def k34_9 : ACode :=
  .ops q34_2 k34_8
@[simp] theorem xk34_9 : GoC fns Q s k34_9 st ↔ GoO fns Q s q34_2 k34_8 st := goC_ops
def lc34_0 : ACode :=
  k34_9
@[simp] theorem xlc34_0 : GoC fns Q s lc34_0 st ↔ GoC fns Q s k34_9 st := Iff.rfl
def k34_11 : ACode :=
  .loop lc34_0
@[simp] theorem xk34_11 : GoC fns Q s k34_11 st ↔ (LoopR fns lc34_0 st fun r => GoE fns Q s r.1 r.2) := goC_loop
def k34_12 : ACode :=
  .block 0 k34_11
@[simp] theorem xk34_12 : GoC fns Q s k34_12 st ↔ GoC fns Q (.bl 0 :: s) k34_11 st := goC_block
def k34_13 : ACode :=
  .seq k34_12 k34_0
@[simp] theorem xk34_13 : GoC fns Q s k34_13 st ↔ GoC fns Q (.sq k34_0 :: s) k34_12 st := goC_seq
def k34_14 : ACode :=
  .ops [⟨.assign (.c (.int .i64 0)), (some 3), none⟩] k34_13
@[simp] theorem xk34_14 : GoC fns Q s k34_14 st ↔ GoO fns Q s [⟨.assign (.c (.int .i64 0)), (some 3), none⟩] k34_13 st := goC_ops
def k34_15 : ACode :=
  .ops [⟨.assign (.c (.bool false)), (some 2), none⟩] .ret
@[simp] theorem xk34_15 : GoC fns Q s k34_15 st ↔ GoO fns Q s [⟨.assign (.c (.bool false)), (some 2), none⟩] .ret st := goC_ops
def k34_16 : ACode :=
  .cond (.p 10) k34_15 .skip
@[simp] theorem xk34_16 : GoC fns Q s k34_16 st ↔ GB fns Q s (peek st (.p 10)) k34_15 .skip st := goC_cond
def k34_17 : ACode :=
  .seq k34_16 k34_14
@[simp] theorem xk34_17 : GoC fns Q s k34_17 st ↔ GoC fns Q (.sq k34_14 :: s) k34_16 st := goC_seq
def k34_18 : ACode :=
  .ops q34_3 k34_17
@[simp] theorem xk34_18 : GoC fns Q s k34_18 st ↔ GoO fns Q s q34_3 k34_17 st := goC_ops
def k34_19 : ACode :=
  .ops q34_4 k34_18
@[simp] theorem xk34_19 : GoC fns Q s k34_19 st ↔ GoO fns Q s q34_4 k34_18 st := goC_ops
def af34 : AFunc := ⟨26, k34_19, [.tmp 2], fun _ => none⟩

theorem ok34 : ∃ hs, pFunc Tryd.prog sg hs Tryd.f34 = some af34 := ⟨fun i => 0, by kernel_rfl⟩
/-- No. 26 -/
def q26_0 : List AOper :=
  [⟨.move .take (.t 5), (some 11), none⟩,
    ⟨.buildSl 5 1 [.int .u8 0] [(0, 1, .c (.int .u8 0))], (some 12), none⟩,
    ⟨.append 5 1 1 false (.t 11) (.p 12), (some 13), none⟩,
    ⟨.assign (.t 13), (some 4), none⟩]
@[simp] def eq26_0 := id q26_0.eq_1
def q26_1 : List AOper :=
  [⟨.move .look (.p 0), (some 6), none⟩,
    ⟨.convInt .u8 (.p 6), (some 7), none⟩,
    ⟨.buildSl 5 1 [.int .u8 0] [(0, 1, .p 7)], (some 8), none⟩,
    ⟨.move .look (.p 1), (some 9), none⟩,
    ⟨.append 5 1 1 true (.t 8) (.p 9), (some 10), none⟩,
    ⟨.assign (.t 10), (some 5), none⟩]
@[simp] def eq26_1 := id q26_1.eq_1
def k26_0 : ACode :=
  .ops q26_0 .ret
@[simp] theorem xk26_0 : GoC fns Q s k26_0 st ↔ GoO fns Q s q26_0 .ret st := goC_ops
def k26_1 : ACode :=
  .ops q26_1 k26_0
@[simp] theorem xk26_1 : GoC fns Q s k26_1 st ↔ GoO fns Q s q26_1 k26_0 st := goC_ops
def k26_2 : ACode :=
  .ops [⟨.assign (.c (.slice .nil 0 1 [])), (some 4), none⟩] k26_1
@[simp] theorem xk26_2 : GoC fns Q s k26_2 st ↔ GoO fns Q s [⟨.assign (.c (.slice .nil 0 1 [])), (some 4), none⟩] k26_1 st := goC_ops
def af26 : AFunc := ⟨14, k26_2, [.tmp 4], fun _ => none⟩

theorem ok26 : ∃ hs, pFunc Tryd.prog sg hs Tryd.f26 = some af26 := ⟨fun i => 0, by kernel_rfl⟩
/-- No. 49 -/
def q49_0 : List AOper :=
  [⟨.move .take (.t 0), (some 17), none⟩,
    ⟨.assign (.t 17), (some 4), none⟩]
@[simp] def eq49_0 := id q49_0.eq_1
def q49_1 : List AOper :=
  [⟨.move .look (.p 5), (some 8), none⟩,
    ⟨.bin .add 1 true (.p 8) (.c (.int .i64 8)), (some 9), none⟩,
    ⟨.assign (.p 9), (some 5), none⟩]
@[simp] def eq49_1 := id q49_1.eq_1
def q49_2 : List AOper :=
  [⟨.move .take (.t 0), (some 10), none⟩,
    ⟨.move .look (.p 1), (some 11), none⟩,
    ⟨.move .look (.p 5), (some 12), none⟩,
    ⟨.bin .shr 1 false (.p 11) (.p 12), (some 13), none⟩,
    ⟨.convInt .u8 (.p 13), (some 14), none⟩,
    ⟨.buildSl 5 1 [.int .u8 0] [(0, 1, .p 14)], (some 15), none⟩,
    ⟨.append 5 1 1 false (.t 10) (.p 15), (some 16), none⟩,
    ⟨.assign (.t 16), (some 0), none⟩]
@[simp] def eq49_2 := id q49_2.eq_1
def q49_3 : List AOper :=
  [⟨.move .look (.p 5), (some 6), none⟩,
    ⟨.bin .lss 1 true (.p 6) (.c (.int .i64 64)), (some 7), none⟩]
@[simp] def eq49_3 := id q49_3.eq_1
def k49_0 : ACode :=
  .ops q49_0 .ret
@[simp] theorem xk49_0 : GoC fns Q s k49_0 st ↔ GoO fns Q s q49_0 .ret st := goC_ops
def k49_1 : ACode :=
  .ops q49_1 .skip
@[simp] theorem xk49_1 : GoC fns Q s k49_1 st ↔ GoO fns Q s q49_1 .skip st := goC_ops
def k49_2 : ACode :=
  .ops q49_2 .skip
@[simp] theorem xk49_2 : GoC fns Q s k49_2 st ↔ GoO fns Q s q49_2 .skip st := goC_ops
def k49_3 : ACode :=
  .block 1 k49_2
@[simp] theorem xk49_3 : GoC fns Q s k49_3 st ↔ GoC fns Q (.bl 1 :: s) k49_2 st := goC_block
def k49_4 : ACode :=
  .seq k49_3 k49_1
@[simp] theorem xk49_4 : GoC fns Q s k49_4 st ↔ GoC fns Q (.sq k49_1 :: s) k49_3 st := goC_seq
def k49_5 : ACode :=
  .cond (.p 7) .skip (.exit 0)
@[simp] theorem xk49_5 : GoC fns Q s k49_5 st ↔ GB fns Q s (peek st (.p 7)) .skip (.exit 0) st := goC_cond
def k49_6 : ACode :=
  .seq k49_5 k49_4
@[simp] theorem xk49_6 : GoC fns Q s k49_6 st ↔ GoC fns Q (.sq k49_4 :: s) k49_5 st := goC_seq
def k49_7 : ACode :=
  .ops q49_3 k49_6
@[simp] theorem xk49_7 : GoC fns Q s k49_7 st ↔ GoO fns Q s q49_3 k49_6 st := goC_ops
def lc49_0 : ACode :=
  k49_7
@[simp] theorem xlc49_0 : GoC fns Q s lc49_0 st ↔ GoC fns Q s k49_7 st := Iff.rfl
def k49_9 : ACode :=
  .loop lc49_0
@[simp] theorem xk49_9 : GoC fns Q s k49_9 st ↔ (LoopR fns lc49_0 st fun r => GoE fns Q s r.1 r.2) := goC_loop
def k49_10 : ACode :=
  .block 0 k49_9
@[simp] theorem xk49_10 : GoC fns Q s k49_10 st ↔ GoC fns Q (.bl 0 :: s) k49_9 st := goC_block
def k49_11 : ACode :=
  .seq k49_10 k49_0
@[simp] theorem xk49_11 : GoC fns Q s k49_11 st ↔ GoC fns Q (.sq k49_0 :: s) k49_10 st := goC_seq
def k49_12 : ACode :=
  .ops [⟨.assign (.c (.int .i64 0)), (some 5), none⟩] k49_11
@[simp] theorem xk49_12 : GoC fns Q s k49_12 st ↔ GoO fns Q s [⟨.assign (.c (.int .i64 0)), (some 5), none⟩] k49_11 st := goC_ops
def k49_13 : ACode :=
  .ops [⟨.assign (.c (.slice .nil 0 1 [])), (some 4), none⟩] k49_12
@[simp] theorem xk49_13 : GoC fns Q s k49_13 st ↔ GoO fns Q s [⟨.assign (.c (.slice .nil 0 1 [])), (some 4), none⟩] k49_12 st := goC_ops
def af49 : AFunc := ⟨18, k49_13, [.tmp 4], fun _ => none⟩

theorem ok49 : ∃ hs, pFunc Tryd.prog sg hs Tryd.f49 = some af49 := ⟨fun i => 0, by kernel_rfl⟩
/-- No. 51 -/
def q51_0 : List AOper :=
  [⟨.move .take (.t 0), (some 5), none⟩,
    ⟨.move .look (.p 1), (some 6), none⟩,
    ⟨.convInt .u8 (.p 6), (some 7), none⟩,
    ⟨.move .look (.p 1), (some 8), none⟩,
    ⟨.bin .shr 1 true (.p 8) (.c (.int .u64 8)), (some 9), none⟩,
    ⟨.convInt .u8 (.p 9), (some 10), none⟩,
    ⟨.move .look (.p 1), (some 11), none⟩,
    ⟨.bin .shr 1 true (.p 11) (.c (.int .u64 16)), (some 12), none⟩,
    ⟨.convInt .u8 (.p 12), (some 13), none⟩,
    ⟨.move .look (.p 1), (some 14), none⟩,
    ⟨.bin .shr 1 true (.p 14) (.c (.int .u64 24)), (some 15), none⟩,
    ⟨.convInt .u8 (.p 15), (some 16), none⟩,
    ⟨.buildSl 5 1 [.int .u8 0, .int .u8 0, .int .u8 0, .int .u8 0] [(0, 1, .p 7), (1, 1, .p 10), (2, 1, .p 13), (3, 1, .p 16)], (some 17), none⟩,
    ⟨.append 5 1 1 false (.t 5) (.p 17), (some 18), none⟩,
    ⟨.assign (.t 18), (some 4), none⟩]
@[simp] def eq51_0 := id q51_0.eq_1
def k51_0 : ACode :=
  .ops q51_0 .ret
@[simp] theorem xk51_0 : GoC fns Q s k51_0 st ↔ GoO fns Q s q51_0 .ret st := goC_ops
def k51_1 : ACode :=
  .ops [⟨.assign (.c (.slice .nil 0 1 [])), (some 4), none⟩] k51_0
@[simp] theorem xk51_1 : GoC fns Q s k51_1 st ↔ GoO fns Q s [⟨.assign (.c (.slice .nil 0 1 [])), (some 4), none⟩] k51_0 st := goC_ops
def af51 : AFunc := ⟨19, k51_1, [.tmp 4], fun _ => none⟩

theorem ok51 : ∃ hs, pFunc Tryd.prog sg hs Tryd.f51 = some af51 := ⟨fun i => 0, by kernel_rfl⟩
/-- No. 50 -/
def q50_0 : List AOper :=
  [⟨.move .take (.t 0), (some 13), none⟩,
    ⟨.buildSl 5 1 [.int .u8 0] [(0, 1, .c (.int .u8 0))], (some 14), none⟩,
    ⟨.append 5 1 1 false (.t 13) (.p 14), (some 15), none⟩,
    ⟨.assign (.t 15), (some 4), none⟩]
@[simp] def eq50_0 := id q50_0.eq_1
def q50_1 : List AOper :=
  [⟨.move .take (.t 0), (some 10), none⟩,
    ⟨.move .look (.p 1), (some 11), none⟩,
    ⟨.append 5 1 1 true (.t 10) (.p 11), (some 12), none⟩,
    ⟨.assign (.t 12), (some 0), none⟩]
@[simp] def eq50_1 := id q50_1.eq_1
def q50_2 : List AOper :=
  [⟨.move .take (.t 0), (some 5), none⟩,
    ⟨.move .head (.p 1), (some 6), none⟩,
    ⟨.len true (.p 6), (some 7), none⟩,
    ⟨.bin .add 1 true (.p 7) (.c (.int .i64 1)), (some 8), none⟩,
    ⟨.call 51 [(.t 5, true), (.p 8, false)], (some 9), none⟩,
    ⟨.assign (.t 9), (some 0), none⟩]
@[simp] def eq50_2 := id q50_2.eq_1
def k50_0 : ACode :=
  .ops q50_0 .ret
@[simp] theorem xk50_0 : GoC fns Q s k50_0 st ↔ GoO fns Q s q50_0 .ret st := goC_ops
def k50_1 : ACode :=
  .ops q50_1 k50_0
@[simp] theorem xk50_1 : GoC fns Q s k50_1 st ↔ GoO fns Q s q50_1 k50_0 st := goC_ops
def k50_2 : ACode :=
  .ops q50_2 k50_1
@[simp] theorem xk50_2 : GoC fns Q s k50_2 st ↔ GoO fns Q s q50_2 k50_1 st := goC_ops
def k50_3 : ACode :=
  .ops [⟨.assign (.c (.slice .nil 0 1 [])), (some 4), none⟩] k50_2
@[simp] theorem xk50_3 : GoC fns Q s k50_3 st ↔ GoO fns Q s [⟨.assign (.c (.slice .nil 0 1 [])), (some 4), none⟩] k50_2 st := goC_ops
def af50 : AFunc := ⟨16, k50_3, [.tmp 4], fun _ => none⟩

theorem ok50 : ∃ hs, pFunc Tryd.prog sg hs Tryd.f50 = some af50 := ⟨fun i => 0, by kernel_rfl⟩
/-- No. 30 -/
def q30_0 : List AOper :=
  [⟨.move .take (.t 3), (some 147), none⟩,
    ⟨.assign (.t 147), (some 2), none⟩]
@[simp] def eq30_0 := id q30_0.eq_1
def q30_1 : List AOper :=
  [⟨.move .take (.t 3), (some 12), none⟩,
    ⟨.fieldAddr 4 (.p 1), (some 13), none⟩,
    ⟨.load .look false 1 (.p 13), (some 14), none⟩,
    ⟨.call 49 [(.t 12, true), (.p 14, false)], (some 15), none⟩,
    ⟨.assign (.t 15), (some 3), none⟩]
@[simp] def eq30_1 := id q30_1.eq_1
def q30_2 : List AOper :=
  [⟨.move .take (.t 3), (some 20), none⟩,
    ⟨.fieldAddr 1 (.p 1), (some 21), none⟩,
    ⟨.load .look false 1 (.p 21), (some 22), none⟩,
    ⟨.call 50 [(.t 20, true), (.p 22, false)], (some 23), none⟩,
    ⟨.assign (.t 23), (some 3), none⟩]
@[simp] def eq30_2 := id q30_2.eq_1
def q30_3 : List AOper :=
  [⟨.fieldAddr 7 (.p 1), (some 27), none⟩,
    ⟨.load .look false 1 (.p 27), (some 28), none⟩,
    ⟨.call 35 [(.t 28, false)], (some 29), none⟩,
    ⟨.assign (.t 29), (some 3), none⟩]
@[simp] def eq30_3 := id q30_3.eq_1
def q30_4 : List AOper :=
  [⟨.move .take (.t 3), (some 57), none⟩,
    ⟨.fieldAddr 6 (.p 1), (some 58), none⟩,
    ⟨.load .look false 1 (.p 58), (some 59), none⟩,
    ⟨.append 5 1 1 false (.t 57) (.p 59), (some 60), none⟩,
    ⟨.assign (.t 60), (some 3), none⟩]
@[simp] def eq30_4 := id q30_4.eq_1
def q30_5 : List AOper :=
  [⟨.move .take (.t 3), (some 45), none⟩,
    ⟨.move .look (.p 4), (some 46), none⟩,
    ⟨.call 51 [(.t 45, true), (.p 46, false)], (some 47), none⟩,
    ⟨.assign (.t 47), (some 3), none⟩]
@[simp] def eq30_5 := id q30_5.eq_1
def q30_6 : List AOper :=
  [⟨.move .take (.t 3), (some 42), none⟩,
    ⟨.buildSl 5 1 [.int .u8 0] [(0, 1, .c (.int .u8 2))], (some 43), none⟩,
    ⟨.append 5 1 1 false (.t 42) (.p 43), (some 44), none⟩,
    ⟨.assign (.t 44), (some 3), none⟩]
@[simp] def eq30_6 := id q30_6.eq_1
def q30_7 : List AOper :=
  [⟨.move .take (.t 3), (some 38), none⟩,
    ⟨.move .look (.p 4), (some 39), none⟩,
    ⟨.bin .add 1 true (.p 39) (.c (.int .i64 4)), (some 40), none⟩,
    ⟨.call 51 [(.t 38, true), (.p 40, false)], (some 41), none⟩,
    ⟨.assign (.t 41), (some 3), none⟩]
@[simp] def eq30_7 := id q30_7.eq_1
def q30_8 : List AOper :=
  [⟨.move .take (.t 3), (some 51), none⟩,
    ⟨.fieldAddr 3 (.p 1), (some 52), none⟩,
    ⟨.load .look false 1 (.p 52), (some 53), none⟩,
    ⟨.convInt .u8 (.p 53), (some 54), none⟩,
    ⟨.buildSl 5 1 [.int .u8 0] [(0, 1, .p 54)], (some 55), none⟩,
    ⟨.append 5 1 1 false (.t 51) (.p 55), (some 56), none⟩,
    ⟨.assign (.t 56), (some 3), none⟩]
@[simp] def eq30_8 := id q30_8.eq_1
def q30_9 : List AOper :=
  [⟨.move .take (.t 3), (some 48), none⟩,
    ⟨.move .look (.p 4), (some 49), none⟩,
    ⟨.call 51 [(.t 48, true), (.p 49, false)], (some 50), none⟩,
    ⟨.assign (.t 50), (some 3), none⟩]
@[simp] def eq30_9 := id q30_9.eq_1
def q30_10 : List AOper :=
  [⟨.fieldAddr 3 (.p 1), (some 35), none⟩,
    ⟨.load .head false 1 (.p 35), (some 36), none⟩,
    ⟨.bin .eql 1 true (.p 36) (.c (.int .i64 2)), (some 37), none⟩]
@[simp] def eq30_10 := id q30_10.eq_1
def q30_11 : List AOper :=
  [⟨.fieldAddr 6 (.p 1), (some 32), none⟩,
    ⟨.load .head false 1 (.p 32), (some 33), none⟩,
    ⟨.len false (.p 33), (some 34), none⟩,
    ⟨.assign (.p 34), (some 4), none⟩]
@[simp] def eq30_11 := id q30_11.eq_1
def q30_12 : List AOper :=
  [⟨.move .take (.t 3), (some 63), none⟩,
    ⟨.fieldAddr 6 (.p 1), (some 64), none⟩,
    ⟨.load .look false 1 (.p 64), (some 65), none⟩,
    ⟨.append 5 1 1 false (.t 63) (.p 65), (some 66), none⟩,
    ⟨.assign (.t 66), (some 3), none⟩]
@[simp] def eq30_12 := id q30_12.eq_1
def q30_13 : List AOper :=
  [⟨.move .take (.t 3), (some 69), none⟩,
    ⟨.fieldAddr 3 (.p 1), (some 70), none⟩,
    ⟨.load .look false 1 (.p 70), (some 71), none⟩,
    ⟨.convInt .u8 (.p 71), (some 72), none⟩,
    ⟨.buildSl 5 1 [.int .u8 0] [(0, 1, .p 72)], (some 73), none⟩,
    ⟨.append 5 1 1 false (.t 69) (.p 73), (some 74), none⟩,
    ⟨.assign (.t 74), (some 3), none⟩]
@[simp] def eq30_13 := id q30_13.eq_1
def q30_14 : List AOper :=
  [⟨.move .take (.t 3), (some 78), none⟩,
    ⟨.fieldAddr 3 (.p 1), (some 79), none⟩,
    ⟨.load .look false 1 (.p 79), (some 80), none⟩,
    ⟨.convInt .u64 (.p 80), (some 81), none⟩,
    ⟨.call 49 [(.t 78, true), (.p 81, false)], (some 82), none⟩,
    ⟨.assign (.t 82), (some 3), none⟩]
@[simp] def eq30_14 := id q30_14.eq_1
def q30_15 : List AOper :=
  [⟨.move .take (.t 3), (some 85), none⟩,
    ⟨.fieldAddr 3 (.p 1), (some 86), none⟩,
    ⟨.load .look false 1 (.p 86), (some 87), none⟩,
    ⟨.call 51 [(.t 85, true), (.p 87, false)], (some 88), none⟩,
    ⟨.assign (.t 88), (some 3), none⟩]
@[simp] def eq30_15 := id q30_15.eq_1
def q30_16 : List AOper :=
  [⟨.move .take (.t 3), (some 102), none⟩,
    ⟨.buildSl 5 1 [.int .u8 0] [(0, 1, .c (.int .u8 0))], (some 103), none⟩,
    ⟨.append 5 1 1 false (.t 102) (.p 103), (some 104), none⟩,
    ⟨.assign (.t 104), (some 3), none⟩]
@[simp] def eq30_16 := id q30_16.eq_1
def q30_17 : List AOper :=
  [⟨.move .take (.t 3), (some 98), none⟩,
    ⟨.fieldAddr 2 (.p 1), (some 99), none⟩,
    ⟨.load .look false 1 (.p 99), (some 100), none⟩,
    ⟨.append 5 1 1 true (.t 98) (.p 100), (some 101), none⟩,
    ⟨.assign (.t 101), (some 3), none⟩]
@[simp] def eq30_17 := id q30_17.eq_1
def q30_18 : List AOper :=
  [⟨.move .take (.t 3), (some 95), none⟩,
    ⟨.buildSl 5 1 [.int .u8 0] [(0, 1, .c (.int .u8 0))], (some 96), none⟩,
    ⟨.append 5 1 1 false (.t 95) (.p 96), (some 97), none⟩,
    ⟨.assign (.t 97), (some 3), none⟩]
@[simp] def eq30_18 := id q30_18.eq_1
def q30_19 : List AOper :=
  [⟨.move .take (.t 3), (some 91), none⟩,
    ⟨.fieldAddr 1 (.p 1), (some 92), none⟩,
    ⟨.load .look false 1 (.p 92), (some 93), none⟩,
    ⟨.append 5 1 1 true (.t 91) (.p 93), (some 94), none⟩,
    ⟨.assign (.t 94), (some 3), none⟩]
@[simp] def eq30_19 := id q30_19.eq_1
def q30_20 : List AOper :=
  [⟨.move .take (.t 3), (some 111), none⟩,
    ⟨.fieldAddr 6 (.p 1), (some 112), none⟩,
    ⟨.load .look false 1 (.p 112), (some 113), none⟩,
    ⟨.append 5 1 1 false (.t 111) (.p 113), (some 114), none⟩,
    ⟨.assign (.t 114), (some 3), none⟩]
@[simp] def eq30_20 := id q30_20.eq_1
def q30_21 : List AOper :=
  [⟨.move .take (.t 3), (some 107), none⟩,
    ⟨.fieldAddr 1 (.p 1), (some 108), none⟩,
    ⟨.load .look false 1 (.p 108), (some 109), none⟩,
    ⟨.call 50 [(.t 107, true), (.p 109, false)], (some 110), none⟩,
    ⟨.assign (.t 110), (some 3), none⟩]
@[simp] def eq30_21 := id q30_21.eq_1
def q30_22 : List AOper :=
  [⟨.move .take (.t 3), (some 134), none⟩,
    ⟨.move .look (.t 6), (some 135), none⟩,
    ⟨.append 5 1 1 false (.t 134) (.p 135), (some 136), none⟩,
    ⟨.assign (.t 136), (some 3), none⟩]
@[simp] def eq30_22 := id q30_22.eq_1
def q30_23 : List AOper :=
  [⟨.move .take (.t 3), (some 131), none⟩,
    ⟨.move .look (.t 5), (some 132), none⟩,
    ⟨.append 5 1 1 false (.t 131) (.p 132), (some 133), none⟩,
    ⟨.assign (.t 133), (some 3), none⟩]
@[simp] def eq30_23 := id q30_23.eq_1
def q30_24 : List AOper :=
  [⟨.move .take (.t 3), (some 123), none⟩,
    ⟨.move .head (.t 5), (some 124), none⟩,
    ⟨.len false (.p 124), (some 125), none⟩,
    ⟨.bin .add 1 true (.c (.int .i64 4)) (.p 125), (some 126), none⟩,
    ⟨.move .head (.t 6), (some 127), none⟩,
    ⟨.len false (.p 127), (some 128), none⟩,
    ⟨.bin .add 1 false (.p 126) (.p 128), (some 129), none⟩,
    ⟨.call 51 [(.t 123, true), (.p 129, false)], (some 130), none⟩,
    ⟨.assign (.t 130), (some 3), none⟩]
@[simp] def eq30_24 := id q30_24.eq_1
def q30_25 : List AOper :=
  [⟨.fieldAddr 7 (.p 1), (some 120), none⟩,
    ⟨.load .look false 1 (.p 120), (some 121), none⟩,
    ⟨.call 35 [(.t 121, false)], (some 122), none⟩,
    ⟨.assign (.t 122), (some 6), none⟩]
@[simp] def eq30_25 := id q30_25.eq_1
def q30_26 : List AOper :=
  [⟨.fieldAddr 1 (.p 1), (some 117), none⟩,
    ⟨.load .look false 1 (.p 117), (some 118), none⟩,
    ⟨.call 50 [(.c (.slice .nil 0 1 []), true), (.p 118, false)], (some 119), none⟩,
    ⟨.assign (.t 119), (some 5), none⟩]
@[simp] def eq30_26 := id q30_26.eq_1
def q30_27 : List AOper :=
  [⟨.move .take (.t 3), (some 143), none⟩,
    ⟨.fieldAddr 5 (.p 1), (some 144), none⟩,
    ⟨.load .look false 1 (.p 144), (some 145), none⟩,
    ⟨.call 49 [(.t 143, true), (.p 145, false)], (some 146), none⟩,
    ⟨.assign (.t 146), (some 3), none⟩]
@[simp] def eq30_27 := id q30_27.eq_1
def q30_28 : List AOper :=
  [⟨.move .take (.t 3), (some 139), none⟩,
    ⟨.fieldAddr 4 (.p 1), (some 140), none⟩,
    ⟨.load .look false 1 (.p 140), (some 141), none⟩,
    ⟨.call 49 [(.t 139, true), (.p 141, false)], (some 142), none⟩,
    ⟨.assign (.t 142), (some 3), none⟩]
@[simp] def eq30_28 := id q30_28.eq_1
def q30_29 : List AOper :=
  [⟨.bin .eql 1 true (.p 8) (.c (.int .i64 19)), (some 138), none⟩,
    ⟨.assign (.p 138), (some 137), none⟩]
@[simp] def eq30_29 := id q30_29.eq_1
def q30_30 : List AOper :=
  [⟨.bin .eql 1 true (.p 8) (.c (.int .i64 15)), (some 116), none⟩,
    ⟨.assign (.p 116), (some 115), none⟩]
@[simp] def eq30_30 := id q30_30.eq_1
def q30_31 : List AOper :=
  [⟨.bin .eql 1 true (.p 8) (.c (.int .i64 12)), (some 106), none⟩,
    ⟨.assign (.p 106), (some 105), none⟩]
@[simp] def eq30_31 := id q30_31.eq_1
def q30_32 : List AOper :=
  [⟨.bin .eql 1 true (.p 8) (.c (.int .i64 11)), (some 90), none⟩,
    ⟨.assign (.p 90), (some 89), none⟩]
@[simp] def eq30_32 := id q30_32.eq_1
def q30_33 : List AOper :=
  [⟨.bin .eql 1 true (.p 8) (.c (.int .i64 16)), (some 84), none⟩,
    ⟨.assign (.p 84), (some 83), none⟩]
@[simp] def eq30_33 := id q30_33.eq_1
def q30_34 : List AOper :=
  [⟨.bin .eql 1 true (.p 8) (.c (.int .i64 18)), (some 77), none⟩,
    ⟨.assign (.p 77), (some 75), none⟩]
@[simp] def eq30_34 := id q30_34.eq_1
def q30_35 : List AOper :=
  [⟨.bin .eql 1 true (.p 8) (.c (.int .i64 9)), (some 76), none⟩,
    ⟨.assign (.p 76), (some 75), none⟩]
@[simp] def eq30_35 := id q30_35.eq_1
def q30_36 : List AOper :=
  [⟨.bin .eql 1 true (.p 8) (.c (.int .i64 8)), (some 68), none⟩,
    ⟨.assign (.p 68), (some 67), none⟩]
@[simp] def eq30_36 := id q30_36.eq_1
def q30_37 : List AOper :=
  [⟨.bin .eql 1 true (.p 8) (.c (.int .i64 7)), (some 62), none⟩,
    ⟨.assign (.p 62), (some 61), none⟩]
@[simp] def eq30_37 := id q30_37.eq_1
def q30_38 : List AOper :=
  [⟨.bin .eql 1 true (.p 8) (.c (.int .i64 5)), (some 31), none⟩,
    ⟨.assign (.p 31), (some 30), none⟩]
@[simp] def eq30_38 := id q30_38.eq_1
def q30_39 : List AOper :=
  [⟨.bin .eql 1 true (.p 8) (.c (.int .i64 4)), (some 26), none⟩,
    ⟨.assign (.p 26), (some 24), none⟩]
@[simp] def eq30_39 := id q30_39.eq_1
def q30_40 : List AOper :=
  [⟨.bin .eql 1 true (.p 8) (.c (.int .i64 3)), (some 25), none⟩,
    ⟨.assign (.p 25), (some 24), none⟩]
@[simp] def eq30_40 := id q30_40.eq_1
def q30_41 : List AOper :=
  [⟨.bin .eql 1 true (.p 8) (.c (.int .i64 14)), (some 19), none⟩,
    ⟨.assign (.p 19), (some 16), none⟩]
@[simp] def eq30_41 := id q30_41.eq_1
def q30_42 : List AOper :=
  [⟨.bin .eql 1 true (.p 8) (.c (.int .i64 13)), (some 18), none⟩,
    ⟨.assign (.p 18), (some 16), none⟩]
@[simp] def eq30_42 := id q30_42.eq_1
def q30_43 : List AOper :=
  [⟨.bin .eql 1 true (.p 8) (.c (.int .i64 2)), (some 17), none⟩,
    ⟨.assign (.p 17), (some 16), none⟩]
@[simp] def eq30_43 := id q30_43.eq_1
def q30_44 : List AOper :=
  [⟨.bin .eql 1 true (.p 8) (.c (.int .i64 17)), (some 11), none⟩,
    ⟨.assign (.p 11), (some 9), none⟩]
@[simp] def eq30_44 := id q30_44.eq_1
def q30_45 : List AOper :=
  [⟨.bin .eql 1 true (.p 8) (.c (.int .i64 1)), (some 10), none⟩,
    ⟨.assign (.p 10), (some 9), none⟩]
@[simp] def eq30_45 := id q30_45.eq_1
def q30_46 : List AOper :=
  [⟨.fieldAddr 0 (.p 1), (some 7), none⟩,
    ⟨.load .head false 1 (.p 7), (some 8), none⟩]
@[simp] def eq30_46 := id q30_46.eq_1
def q30_47 : List AOper :=
  [⟨.box 1 (.p 0), (some 1), none⟩,
    ⟨.assign (.c (.slice .nil 0 1 [])), (some 2), none⟩]
@[simp] def eq30_47 := id q30_47.eq_1
def k30_0 : ACode :=
  .ops q30_0 .ret
@[simp] theorem xk30_0 : GoC fns Q s k30_0 st ↔ GoO fns Q s q30_0 .ret st := goC_ops
def k30_1 : ACode :=
  .ops q30_1 .skip
@[simp] theorem xk30_1 : GoC fns Q s k30_1 st ↔ GoO fns Q s q30_1 .skip st := goC_ops
def k30_2 : ACode :=
  .ops q30_2 .skip
@[simp] theorem xk30_2 : GoC fns Q s k30_2 st ↔ GoO fns Q s q30_2 .skip st := goC_ops
def k30_3 : ACode :=
  .ops q30_3 .skip
@[simp] theorem xk30_3 : GoC fns Q s k30_3 st ↔ GoO fns Q s q30_3 .skip st := goC_ops
def k30_4 : ACode :=
  .ops q30_4 .skip
@[simp] theorem xk30_4 : GoC fns Q s k30_4 st ↔ GoO fns Q s q30_4 .skip st := goC_ops
def k30_5 : ACode :=
  .ops q30_5 .skip
@[simp] theorem xk30_5 : GoC fns Q s k30_5 st ↔ GoO fns Q s q30_5 .skip st := goC_ops
def k30_6 : ACode :=
  .ops q30_6 k30_5
@[simp] theorem xk30_6 : GoC fns Q s k30_6 st ↔ GoO fns Q s q30_6 k30_5 st := goC_ops
def k30_7 : ACode :=
  .ops q30_7 k30_6
@[simp] theorem xk30_7 : GoC fns Q s k30_7 st ↔ GoO fns Q s q30_7 k30_6 st := goC_ops
def k30_8 : ACode :=
  .ops q30_8 .skip
@[simp] theorem xk30_8 : GoC fns Q s k30_8 st ↔ GoO fns Q s q30_8 .skip st := goC_ops
def k30_9 : ACode :=
  .ops q30_9 k30_8
@[simp] theorem xk30_9 : GoC fns Q s k30_9 st ↔ GoO fns Q s q30_9 k30_8 st := goC_ops
def k30_10 : ACode :=
  .cond (.p 37) k30_7 k30_9
@[simp] theorem xk30_10 : GoC fns Q s k30_10 st ↔ GB fns Q s (peek st (.p 37)) k30_7 k30_9 st := goC_cond
def k30_11 : ACode :=
  .seq k30_10 k30_4
@[simp] theorem xk30_11 : GoC fns Q s k30_11 st ↔ GoC fns Q (.sq k30_4 :: s) k30_10 st := goC_seq
def k30_12 : ACode :=
  .ops q30_10 k30_11
@[simp] theorem xk30_12 : GoC fns Q s k30_12 st ↔ GoO fns Q s q30_10 k30_11 st := goC_ops
def k30_13 : ACode :=
  .ops q30_11 k30_12
@[simp] theorem xk30_13 : GoC fns Q s k30_13 st ↔ GoO fns Q s q30_11 k30_12 st := goC_ops
def k30_14 : ACode :=
  .ops q30_12 .skip
@[simp] theorem xk30_14 : GoC fns Q s k30_14 st ↔ GoO fns Q s q30_12 .skip st := goC_ops
def k30_15 : ACode :=
  .ops q30_13 .skip
@[simp] theorem xk30_15 : GoC fns Q s k30_15 st ↔ GoO fns Q s q30_13 .skip st := goC_ops
def k30_16 : ACode :=
  .ops q30_14 .skip
@[simp] theorem xk30_16 : GoC fns Q s k30_16 st ↔ GoO fns Q s q30_14 .skip st := goC_ops
def k30_17 : ACode :=
  .ops q30_15 .skip
@[simp] theorem xk30_17 : GoC fns Q s k30_17 st ↔ GoO fns Q s q30_15 .skip st := goC_ops
def k30_18 : ACode :=
  .ops q30_16 .skip
@[simp] theorem xk30_18 : GoC fns Q s k30_18 st ↔ GoO fns Q s q30_16 .skip st := goC_ops
def k30_19 : ACode :=
  .ops q30_17 k30_18
@[simp] theorem xk30_19 : GoC fns Q s k30_19 st ↔ GoO fns Q s q30_17 k30_18 st := goC_ops
def k30_20 : ACode :=
  .ops q30_18 k30_19
@[simp] theorem xk30_20 : GoC fns Q s k30_20 st ↔ GoO fns Q s q30_18 k30_19 st := goC_ops
def k30_21 : ACode :=
  .ops q30_19 k30_20
@[simp] theorem xk30_21 : GoC fns Q s k30_21 st ↔ GoO fns Q s q30_19 k30_20 st := goC_ops
def k30_22 : ACode :=
  .ops q30_20 .skip
@[simp] theorem xk30_22 : GoC fns Q s k30_22 st ↔ GoO fns Q s q30_20 .skip st := goC_ops
def k30_23 : ACode :=
  .ops q30_21 k30_22
@[simp] theorem xk30_23 : GoC fns Q s k30_23 st ↔ GoO fns Q s q30_21 k30_22 st := goC_ops
def k30_24 : ACode :=
  .ops q30_22 .skip
@[simp] theorem xk30_24 : GoC fns Q s k30_24 st ↔ GoO fns Q s q30_22 .skip st := goC_ops
def k30_25 : ACode :=
  .ops q30_23 k30_24
@[simp] theorem xk30_25 : GoC fns Q s k30_25 st ↔ GoO fns Q s q30_23 k30_24 st := goC_ops
def k30_26 : ACode :=
  .ops q30_24 k30_25
@[simp] theorem xk30_26 : GoC fns Q s k30_26 st ↔ GoO fns Q s q30_24 k30_25 st := goC_ops
def k30_27 : ACode :=
  .ops q30_25 k30_26
@[simp] theorem xk30_27 : GoC fns Q s k30_27 st ↔ GoO fns Q s q30_25 k30_26 st := goC_ops
def k30_28 : ACode :=
  .ops q30_26 k30_27
@[simp] theorem xk30_28 : GoC fns Q s k30_28 st ↔ GoO fns Q s q30_26 k30_27 st := goC_ops
def k30_29 : ACode :=
  .ops q30_27 .skip
@[simp] theorem xk30_29 : GoC fns Q s k30_29 st ↔ GoO fns Q s q30_27 .skip st := goC_ops
def k30_30 : ACode :=
  .ops q30_28 k30_29
@[simp] theorem xk30_30 : GoC fns Q s k30_30 st ↔ GoO fns Q s q30_28 k30_29 st := goC_ops
def k30_31 : ACode :=
  .cond (.p 137) k30_30 .skip
@[simp] theorem xk30_31 : GoC fns Q s k30_31 st ↔ GB fns Q s (peek st (.p 137)) k30_30 .skip st := goC_cond
def k30_32 : ACode :=
  .ops q30_29 k30_31
@[simp] theorem xk30_32 : GoC fns Q s k30_32 st ↔ GoO fns Q s q30_29 k30_31 st := goC_ops
def k30_33 : ACode :=
  .cond (.p 115) k30_28 k30_32
@[simp] theorem xk30_33 : GoC fns Q s k30_33 st ↔ GB fns Q s (peek st (.p 115)) k30_28 k30_32 st := goC_cond
def k30_34 : ACode :=
  .ops q30_30 k30_33
@[simp] theorem xk30_34 : GoC fns Q s k30_34 st ↔ GoO fns Q s q30_30 k30_33 st := goC_ops
def k30_35 : ACode :=
  .cond (.p 105) k30_23 k30_34
@[simp] theorem xk30_35 : GoC fns Q s k30_35 st ↔ GB fns Q s (peek st (.p 105)) k30_23 k30_34 st := goC_cond
def k30_36 : ACode :=
  .ops q30_31 k30_35
@[simp] theorem xk30_36 : GoC fns Q s k30_36 st ↔ GoO fns Q s q30_31 k30_35 st := goC_ops
def k30_37 : ACode :=
  .cond (.p 89) k30_21 k30_36
@[simp] theorem xk30_37 : GoC fns Q s k30_37 st ↔ GB fns Q s (peek st (.p 89)) k30_21 k30_36 st := goC_cond
def k30_38 : ACode :=
  .ops q30_32 k30_37
@[simp] theorem xk30_38 : GoC fns Q s k30_38 st ↔ GoO fns Q s q30_32 k30_37 st := goC_ops
def k30_39 : ACode :=
  .cond (.p 83) k30_17 k30_38
@[simp] theorem xk30_39 : GoC fns Q s k30_39 st ↔ GB fns Q s (peek st (.p 83)) k30_17 k30_38 st := goC_cond
def k30_40 : ACode :=
  .ops q30_33 k30_39
@[simp] theorem xk30_40 : GoC fns Q s k30_40 st ↔ GoO fns Q s q30_33 k30_39 st := goC_ops
def k30_41 : ACode :=
  .cond (.p 75) k30_16 k30_40
@[simp] theorem xk30_41 : GoC fns Q s k30_41 st ↔ GB fns Q s (peek st (.p 75)) k30_16 k30_40 st := goC_cond
def k30_42 : ACode :=
  .ops q30_34 .skip
@[simp] theorem xk30_42 : GoC fns Q s k30_42 st ↔ GoO fns Q s q30_34 .skip st := goC_ops
def k30_43 : ACode :=
  .cond (.p 75) .skip k30_42
@[simp] theorem xk30_43 : GoC fns Q s k30_43 st ↔ GB fns Q s (peek st (.p 75)) .skip k30_42 st := goC_cond
def k30_44 : ACode :=
  .seq k30_43 k30_41
@[simp] theorem xk30_44 : GoC fns Q s k30_44 st ↔ GoC fns Q (.sq k30_41 :: s) k30_43 st := goC_seq
def k30_45 : ACode :=
  .ops q30_35 k30_44
@[simp] theorem xk30_45 : GoC fns Q s k30_45 st ↔ GoO fns Q s q30_35 k30_44 st := goC_ops
def k30_46 : ACode :=
  .cond (.p 67) k30_15 k30_45
@[simp] theorem xk30_46 : GoC fns Q s k30_46 st ↔ GB fns Q s (peek st (.p 67)) k30_15 k30_45 st := goC_cond
def k30_47 : ACode :=
  .ops q30_36 k30_46
@[simp] theorem xk30_47 : GoC fns Q s k30_47 st ↔ GoO fns Q s q30_36 k30_46 st := goC_ops
def k30_48 : ACode :=
  .cond (.p 61) k30_14 k30_47
@[simp] theorem xk30_48 : GoC fns Q s k30_48 st ↔ GB fns Q s (peek st (.p 61)) k30_14 k30_47 st := goC_cond
def k30_49 : ACode :=
  .ops q30_37 k30_48
@[simp] theorem xk30_49 : GoC fns Q s k30_49 st ↔ GoO fns Q s q30_37 k30_48 st := goC_ops
def k30_50 : ACode :=
  .cond (.p 30) k30_13 k30_49
@[simp] theorem xk30_50 : GoC fns Q s k30_50 st ↔ GB fns Q s (peek st (.p 30)) k30_13 k30_49 st := goC_cond
def k30_51 : ACode :=
  .ops q30_38 k30_50
@[simp] theorem xk30_51 : GoC fns Q s k30_51 st ↔ GoO fns Q s q30_38 k30_50 st := goC_ops
def k30_52 : ACode :=
  .cond (.p 24) k30_3 k30_51
@[simp] theorem xk30_52 : GoC fns Q s k30_52 st ↔ GB fns Q s (peek st (.p 24)) k30_3 k30_51 st := goC_cond
def k30_53 : ACode :=
  .ops q30_39 .skip
@[simp] theorem xk30_53 : GoC fns Q s k30_53 st ↔ GoO fns Q s q30_39 .skip st := goC_ops
def k30_54 : ACode :=
  .cond (.p 24) .skip k30_53
@[simp] theorem xk30_54 : GoC fns Q s k30_54 st ↔ GB fns Q s (peek st (.p 24)) .skip k30_53 st := goC_cond
def k30_55 : ACode :=
  .seq k30_54 k30_52
@[simp] theorem xk30_55 : GoC fns Q s k30_55 st ↔ GoC fns Q (.sq k30_52 :: s) k30_54 st := goC_seq
def k30_56 : ACode :=
  .ops q30_40 k30_55
@[simp] theorem xk30_56 : GoC fns Q s k30_56 st ↔ GoO fns Q s q30_40 k30_55 st := goC_ops
def k30_57 : ACode :=
  .cond (.p 16) k30_2 k30_56
@[simp] theorem xk30_57 : GoC fns Q s k30_57 st ↔ GB fns Q s (peek st (.p 16)) k30_2 k30_56 st := goC_cond
def k30_58 : ACode :=
  .ops q30_41 .skip
@[simp] theorem xk30_58 : GoC fns Q s k30_58 st ↔ GoO fns Q s q30_41 .skip st := goC_ops
def k30_59 : ACode :=
  .cond (.p 16) .skip k30_58
@[simp] theorem xk30_59 : GoC fns Q s k30_59 st ↔ GB fns Q s (peek st (.p 16)) .skip k30_58 st := goC_cond
def k30_60 : ACode :=
  .ops q30_42 k30_59
@[simp] theorem xk30_60 : GoC fns Q s k30_60 st ↔ GoO fns Q s q30_42 k30_59 st := goC_ops
def k30_61 : ACode :=
  .cond (.p 16) .skip k30_60
@[simp] theorem xk30_61 : GoC fns Q s k30_61 st ↔ GB fns Q s (peek st (.p 16)) .skip k30_60 st := goC_cond
def k30_62 : ACode :=
  .seq k30_61 k30_57
@[simp] theorem xk30_62 : GoC fns Q s k30_62 st ↔ GoC fns Q (.sq k30_57 :: s) k30_61 st := goC_seq
def k30_63 : ACode :=
  .ops q30_43 k30_62
@[simp] theorem xk30_63 : GoC fns Q s k30_63 st ↔ GoO fns Q s q30_43 k30_62 st := goC_ops
def k30_64 : ACode :=
  .cond (.p 9) k30_1 k30_63
@[simp] theorem xk30_64 : GoC fns Q s k30_64 st ↔ GB fns Q s (peek st (.p 9)) k30_1 k30_63 st := goC_cond
def k30_65 : ACode :=
  .ops q30_44 .skip
@[simp] theorem xk30_65 : GoC fns Q s k30_65 st ↔ GoO fns Q s q30_44 .skip st := goC_ops
def k30_66 : ACode :=
  .cond (.p 9) .skip k30_65
@[simp] theorem xk30_66 : GoC fns Q s k30_66 st ↔ GB fns Q s (peek st (.p 9)) .skip k30_65 st := goC_cond
def k30_67 : ACode :=
  .seq k30_66 k30_64
@[simp] theorem xk30_67 : GoC fns Q s k30_67 st ↔ GoC fns Q (.sq k30_64 :: s) k30_66 st := goC_seq
def k30_68 : ACode :=
  .ops q30_45 k30_67
@[simp] theorem xk30_68 : GoC fns Q s k30_68 st ↔ GoO fns Q s q30_45 k30_67 st := goC_ops
def k30_69 : ACode :=
  .block 0 k30_68
@[simp] theorem xk30_69 : GoC fns Q s k30_69 st ↔ GoC fns Q (.bl 0 :: s) k30_68 st := goC_block
def k30_70 : ACode :=
  .seq k30_69 k30_0
@[simp] theorem xk30_70 : GoC fns Q s k30_70 st ↔ GoC fns Q (.sq k30_0 :: s) k30_69 st := goC_seq
def k30_71 : ACode :=
  .ops q30_46 k30_70
@[simp] theorem xk30_71 : GoC fns Q s k30_71 st ↔ GoO fns Q s q30_46 k30_70 st := goC_ops
def k30_72 : ACode :=
  .ops [⟨.assign (.c (.slice .nil 0 1 [])), (some 3), none⟩] k30_71
@[simp] theorem xk30_72 : GoC fns Q s k30_72 st ↔ GoO fns Q s [⟨.assign (.c (.slice .nil 0 1 [])), (some 3), none⟩] k30_71 st := goC_ops
def k30_73 : ACode :=
  .ops q30_47 k30_72
@[simp] theorem xk30_73 : GoC fns Q s k30_73 st ↔ GoO fns Q s q30_47 k30_72 st := goC_ops
def af30 : AFunc := ⟨148, k30_73, [.tmp 2], fun _ => none⟩

theorem ok30 : ∃ hs, pFunc Tryd.prog sg hs Tryd.f30 = some af30 := ⟨fun i => 0, by kernel_rfl⟩
/-- No. 20 -/
def q20_0 : List AOper :=
  [⟨.fieldAddr 1 (.p 1), (some 3), none⟩,
    ⟨.fieldAddr 0 (.p 3), (some 4), none⟩,
    ⟨.load .look false 1 (.p 4), (some 5), none⟩,
    ⟨.fieldAddr 0 (.p 1), (some 6), none⟩,
    ⟨.load .look false 1 (.p 6), (some 7), none⟩,
    ⟨.fieldAddr 1 (.p 1), (some 9), none⟩,
    ⟨.load .look true 8 (.p 9), (some 10), none⟩,
    ⟨.call 26 [(.p 5, false), (.p 7, false)], (some 8), none⟩,
    ⟨.call 30 [(.p 10, false)], (some 11), none⟩,
    ⟨.append 5 1 1 false (.t 8) (.p 11), (some 12), none⟩,
    ⟨.assign (.t 12), (some 2), none⟩]
@[simp] def eq20_0 := id q20_0.eq_1
def q20_1 : List AOper :=
  [⟨.box 1 (.p 0), (some 1), none⟩,
    ⟨.assign (.c (.slice .nil 0 1 [])), (some 2), none⟩]
@[simp] def eq20_1 := id q20_1.eq_1
def k20_0 : ACode :=
  .ops q20_0 .ret
@[simp] theorem xk20_0 : GoC fns Q s k20_0 st ↔ GoO fns Q s q20_0 .ret st := goC_ops
def k20_1 : ACode :=
  .ops q20_1 k20_0
@[simp] theorem xk20_1 : GoC fns Q s k20_1 st ↔ GoO fns Q s q20_1 k20_0 st := goC_ops
def af20 : AFunc := ⟨13, k20_1, [.tmp 2], fun _ => none⟩

theorem ok20 : ∃ hs, pFunc Tryd.prog sg hs Tryd.f20 = some af20 := ⟨fun i => 0, by kernel_rfl⟩
/-- No. 35 -/
def q35_0 : List AOper :=
  [⟨.move .take (.t 5), (some 26), none⟩,
    ⟨.buildSl 5 1 [.int .u8 0] [(0, 1, .c (.int .u8 0))], (some 27), none⟩,
    ⟨.append 5 1 1 false (.t 26) (.p 27), (some 28), none⟩,
    ⟨.assign (.t 28), (some 2), none⟩]
@[simp] def eq35_0 := id q35_0.eq_1
def q35_1 : List AOper :=
  [⟨.move .take (.t 5), (some 23), none⟩,
    ⟨.move .look (.t 3), (some 24), none⟩,
    ⟨.append 5 1 1 false (.t 23) (.p 24), (some 25), none⟩,
    ⟨.assign (.t 25), (some 5), none⟩]
@[simp] def eq35_1 := id q35_1.eq_1
def q35_2 : List AOper :=
  [⟨.move .head (.t 3), (some 19), none⟩,
    ⟨.len false (.p 19), (some 20), none⟩,
    ⟨.bin .add 1 true (.p 20) (.c (.int .i64 5)), (some 21), none⟩,
    ⟨.call 51 [(.c (.slice .nil 0 1 []), true), (.p 21, false)], (some 22), none⟩,
    ⟨.assign (.t 22), (some 5), none⟩]
@[simp] def eq35_2 := id q35_2.eq_1
def q35_3 : List AOper :=
  [⟨.move .look (.p 4), (some 10), none⟩,
    ⟨.bin .add 1 true (.p 10) (.c (.int .i64 1)), (some 11), none⟩,
    ⟨.assign (.p 11), (some 4), none⟩]
@[simp] def eq35_3 := id q35_3.eq_1
def q35_4 : List AOper :=
  [⟨.move .take (.t 3), (some 12), none⟩,
    ⟨.move .look (.t 0), (some 13), none⟩,
    ⟨.move .look (.p 4), (some 14), none⟩,
    ⟨.indexAddr 9 (.t 13) (.p 14), (some 15), none⟩,
    ⟨.load .look true 9 (.p 15), (some 16), none⟩,
    ⟨.call 20 [(.p 16, false)], (some 17), none⟩,
    ⟨.append 5 1 1 false (.t 12) (.p 17), (some 18), none⟩,
    ⟨.assign (.t 18), (some 3), none⟩]
@[simp] def eq35_4 := id q35_4.eq_1
def q35_5 : List AOper :=
  [⟨.move .look (.p 4), (some 6), none⟩,
    ⟨.move .head (.t 0), (some 7), none⟩,
    ⟨.len false (.p 7), (some 8), none⟩,
    ⟨.bin .lss 1 false (.p 6) (.p 8), (some 9), none⟩]
@[simp] def eq35_5 := id q35_5.eq_1
def k35_0 : ACode :=
  .ops q35_0 .ret
@[simp] theorem xk35_0 : GoC fns Q s k35_0 st ↔ GoO fns Q s q35_0 .ret st := goC_ops
def k35_1 : ACode :=
  .ops q35_1 k35_0
@[simp] theorem xk35_1 : GoC fns Q s k35_1 st ↔ GoO fns Q s q35_1 k35_0 st := goC_ops
def k35_2 : ACode :=
  .ops q35_2 k35_1
@[simp] theorem xk35_2 : GoC fns Q s k35_2 st ↔ GoO fns Q s q35_2 k35_1 st := goC_ops
def k35_3 : ACode :=
  .ops q35_3 .skip
@[simp] theorem xk35_3 : GoC fns Q s k35_3 st ↔ GoO fns Q s q35_3 .skip st := goC_ops
def k35_4 : ACode :=
  .ops q35_4 .skip
@[simp] theorem xk35_4 : GoC fns Q s k35_4 st ↔ GoO fns Q s q35_4 .skip st := goC_ops
def k35_5 : ACode :=
  .block 1 k35_4
@[simp] theorem xk35_5 : GoC fns Q s k35_5 st ↔ GoC fns Q (.bl 1 :: s) k35_4 st := goC_block
def k35_6 : ACode :=
  .seq k35_5 k35_3
@[simp] theorem xk35_6 : GoC fns Q s k35_6 st ↔ GoC fns Q (.sq k35_3 :: s) k35_5 st := goC_seq
def k35_7 : ACode :=
  .cond (.p 9) .skip (.exit 0)
@[simp] theorem xk35_7 : GoC fns Q s k35_7 st ↔ GB fns Q s (peek st (.p 9)) .skip (.exit 0) st := goC_cond
def k35_8 : ACode :=
  .seq k35_7 k35_6
@[simp] theorem xk35_8 : GoC fns Q s k35_8 st ↔ GoC fns Q (.sq k35_6 :: s) k35_7 st := goC_seq
def k35_9 : ACode :=
  .ops q35_5 k35_8
@[simp] theorem xk35_9 : GoC fns Q s k35_9 st ↔ GoO fns Q s q35_5 k35_8 st := goC_ops
def lc35_0 : ACode :=
  k35_9
@[simp] theorem xlc35_0 : GoC fns Q s lc35_0 st ↔ GoC fns Q s k35_9 st := Iff.rfl
def k35_11 : ACode :=
  .loop lc35_0
@[simp] theorem xk35_11 : GoC fns Q s k35_11 st ↔ (LoopR fns lc35_0 st fun r => GoE fns Q s r.1 r.2) := goC_loop
def k35_12 : ACode :=
  .block 0 k35_11
@[simp] theorem xk35_12 : GoC fns Q s k35_12 st ↔ GoC fns Q (.bl 0 :: s) k35_11 st := goC_block
def k35_13 : ACode :=
  .seq k35_12 k35_2
@[simp] theorem xk35_13 : GoC fns Q s k35_13 st ↔ GoC fns Q (.sq k35_2 :: s) k35_12 st := goC_seq
def k35_14 : ACode :=
  .ops [⟨.assign (.c (.int .i64 0)), (some 4), none⟩] k35_13
@[simp] theorem xk35_14 : GoC fns Q s k35_14 st ↔ GoO fns Q s [⟨.assign (.c (.int .i64 0)), (some 4), none⟩] k35_13 st := goC_ops
def k35_15 : ACode :=
  .ops [⟨.assign (.c (.slice .nil 0 1 [])), (some 3), none⟩] k35_14
@[simp] theorem xk35_15 : GoC fns Q s k35_15 st ↔ GoO fns Q s [⟨.assign (.c (.slice .nil 0 1 [])), (some 3), none⟩] k35_14 st := goC_ops
def k35_16 : ACode :=
  .ops [⟨.assign (.c (.slice .nil 0 1 [])), (some 2), none⟩] k35_15
@[simp] theorem xk35_16 : GoC fns Q s k35_16 st ↔ GoO fns Q s [⟨.assign (.c (.slice .nil 0 1 [])), (some 2), none⟩] k35_15 st := goC_ops
def af35 : AFunc := ⟨29, k35_16, [.tmp 2], fun _ => none⟩

theorem ok35 : ∃ hs, pFunc Tryd.prog sg hs Tryd.f35 = some af35 := ⟨fun i => 0, by kernel_rfl⟩
/-- No. 12 -/
def q12_0 : List AOper :=
  [⟨.fieldAddr 7 (.p 1), (some 17), none⟩,
    ⟨.load .look false 1 (.p 17), (some 18), none⟩,
    ⟨.call 35 [(.t 18, false)], (some 19), none⟩,
    ⟨.assign (.t 19), (some 2), none⟩,
    ⟨.assign (.c (.bool true)), (some 3), none⟩]
@[simp] def eq12_0 := id q12_0.eq_1
def q12_1 : List AOper :=
  [⟨.assign (.c (.slice .nil 0 1 [])), (some 2), none⟩,
    ⟨.assign (.c (.bool false)), (some 3), none⟩]
@[simp] def eq12_1 := id q12_1.eq_1
def q12_2 : List AOper :=
  [⟨.fieldAddr 0 (.p 1), (some 4), none⟩,
    ⟨.load .head false 1 (.p 4), (some 5), none⟩,
    ⟨.bin .neq 1 true (.p 5) (.c (.int .i64 3)), (some 6), none⟩,
    ⟨.move .look (.p 6), (some 7), none⟩,
    ⟨.load .look true 8 (.p 1), (some 8), (some (7, false))⟩,
    ⟨.call 8 [(.p 8, false)], (some 9), (some (7, false))⟩,
    ⟨.un .not (.p 9), (some 10), (some (7, false))⟩,
    ⟨.pick (.p 7) (.c (.bool true)) (.p 10), (some 11), none⟩,
    ⟨.move .look (.p 11), (some 12), none⟩,
    ⟨.load .look true 8 (.p 1), (some 13), (some (12, false))⟩,
    ⟨.call 34 [(.p 13, false)], (some 14), (some (12, false))⟩,
    ⟨.un .not (.p 14), (some 15), (some (12, false))⟩,
    ⟨.pick (.p 12) (.c (.bool true)) (.p 15), (some 16), none⟩]
@[simp] def eq12_2 := id q12_2.eq_1
def q12_3 : List AOper :=
  [⟨.box 1 (.p 0), (some 1), none⟩,
    ⟨.assign (.c (.slice .nil 0 1 [])), (some 2), none⟩,
    ⟨.assign (.c (.bool false)), (some 3), none⟩]
@[simp] def eq12_3 := id q12_3.eq_1
def k12_0 : ACode :=
  .ops q12_0 .ret
@[simp] theorem xk12_0 : GoC fns Q s k12_0 st ↔ GoO fns Q s q12_0 .ret st := goC_ops
def k12_1 : ACode :=
  .ops q12_1 .ret
@[simp] theorem xk12_1 : GoC fns Q s k12_1 st ↔ GoO fns Q s q12_1 .ret st := goC_ops
def k12_2 : ACode :=
  .cond (.p 16) k12_1 .skip
@[simp] theorem xk12_2 : GoC fns Q s k12_2 st ↔ GB fns Q s (peek st (.p 16)) k12_1 .skip st := goC_cond
def k12_3 : ACode :=
  .seq k12_2 k12_0
@[simp] theorem xk12_3 : GoC fns Q s k12_3 st ↔ GoC fns Q (.sq k12_0 :: s) k12_2 st := goC_seq
def k12_4 : ACode :=
  .ops q12_2 k12_3
@[simp] theorem xk12_4 : GoC fns Q s k12_4 st ↔ GoO fns Q s q12_2 k12_3 st := goC_ops
def k12_5 : ACode :=
  .ops q12_3 k12_4
@[simp] theorem xk12_5 : GoC fns Q s k12_5 st ↔ GoO fns Q s q12_3 k12_4 st := goC_ops
def af12 : AFunc := ⟨20, k12_5, [.tmp 2, .tmp 3], fun _ => none⟩

theorem ok12 : ∃ hs, pFunc Tryd.prog sg hs Tryd.f12 = some af12 := ⟨fun i => 0, by kernel_rfl⟩
/-- No. 85 -/
def q85_0 : List AOper :=
  [⟨.move .take (.p 5), (some 35), none⟩,
    ⟨.move .look (.t 0), (some 36), none⟩,
    ⟨.sliceSl 1 (.t 36) (some (.c (.int .i64 4))) none, (some 37), none⟩,
    ⟨.assign (.p 35), (some 2), none⟩,
    ⟨.assign (.t 37), (some 3), none⟩,
    ⟨.assign (.c (.bool true)), (some 4), none⟩]
@[simp] def eq85_0 := id q85_0.eq_1
def q85_1 : List AOper :=
  [⟨.move .look (.t 0), (some 13), none⟩,
    ⟨.indexAddr 1 (.t 13) (.c (.int .i64 0)), (some 14), none⟩,
    ⟨.load .look false 1 (.p 14), (some 15), none⟩,
    ⟨.convInt .i32 (.p 15), (some 16), none⟩,
    ⟨.move .look (.t 0), (some 17), none⟩,
    ⟨.indexAddr 1 (.t 17) (.c (.int .i64 1)), (some 18), none⟩,
    ⟨.load .look false 1 (.p 18), (some 19), none⟩,
    ⟨.convInt .i32 (.p 19), (some 20), none⟩,
    ⟨.bin .shl 1 true (.p 20) (.c (.int .u64 8)), (some 21), none⟩,
    ⟨.bin .or 1 false (.p 16) (.p 21), (some 22), none⟩,
    ⟨.move .look (.t 0), (some 23), none⟩,
    ⟨.indexAddr 1 (.t 23) (.c (.int .i64 2)), (some 24), none⟩,
    ⟨.load .look false 1 (.p 24), (some 25), none⟩,
    ⟨.convInt .i32 (.p 25), (some 26), none⟩,
    ⟨.bin .shl 1 true (.p 26) (.c (.int .u64 16)), (some 27), none⟩,
    ⟨.bin .or 1 false (.p 22) (.p 27), (some 28), none⟩,
    ⟨.move .look (.t 0), (some 29), none⟩,
    ⟨.indexAddr 1 (.t 29) (.c (.int .i64 3)), (some 30), none⟩,
    ⟨.load .look false 1 (.p 30), (some 31), none⟩,
    ⟨.convInt .i32 (.p 31), (some 32), none⟩,
    ⟨.bin .shl 1 true (.p 32) (.c (.int .u64 24)), (some 33), none⟩,
    ⟨.bin .or 1 false (.p 28) (.p 33), (some 34), none⟩,
    ⟨.assign (.p 34), (some 5), none⟩]
@[simp] def eq85_1 := id q85_1.eq_1
def q85_2 : List AOper :=
  [⟨.move .look (.t 0), (some 10), none⟩,
    ⟨.indexAddr 1 (.t 10) (.c (.int .i64 3)), (some 11), none⟩,
    ⟨.load .head false 1 (.p 11), (some 12), none⟩]
@[simp] def eq85_2 := id q85_2.eq_1
def q85_3 : List AOper :=
  [⟨.move .take (.t 0), (some 9), none⟩,
    ⟨.assign (.c (.int .i32 0)), (some 2), none⟩,
    ⟨.assign (.t 9), (some 3), none⟩,
    ⟨.assign (.c (.bool false)), (some 4), none⟩]
@[simp] def eq85_3 := id q85_3.eq_1
def q85_4 : List AOper :=
  [⟨.move .head (.t 0), (some 6), none⟩,
    ⟨.len false (.p 6), (some 7), none⟩,
    ⟨.bin .lss 1 true (.p 7) (.c (.int .i64 4)), (some 8), none⟩]
@[simp] def eq85_4 := id q85_4.eq_1
def q85_5 : List AOper :=
  [⟨.assign (.c (.int .i32 0)), (some 2), none⟩,
    ⟨.assign (.c (.slice .nil 0 1 [])), (some 3), none⟩,
    ⟨.assign (.c (.bool false)), (some 4), none⟩]
@[simp] def eq85_5 := id q85_5.eq_1
def k85_0 : ACode :=
  .ops q85_0 .ret
@[simp] theorem xk85_0 : GoC fns Q s k85_0 st ↔ GoO fns Q s q85_0 .ret st := goC_ops
def k85_1 : ACode :=
  .ops q85_1 k85_0
@[simp] theorem xk85_1 : GoC fns Q s k85_1 st ↔ GoO fns Q s q85_1 k85_0 st := goC_ops
def k85_2 : ACode :=
  .ops q85_2 k85_1
@[simp] theorem xk85_2 : GoC fns Q s k85_2 st ↔ GoO fns Q s q85_2 k85_1 st := goC_ops
def k85_3 : ACode :=
  .ops q85_3 .ret
@[simp] theorem xk85_3 : GoC fns Q s k85_3 st ↔ GoO fns Q s q85_3 .ret st := goC_ops
def k85_4 : ACode :=
  .cond (.p 8) k85_3 .skip
@[simp] theorem xk85_4 : GoC fns Q s k85_4 st ↔ GB fns Q s (peek st (.p 8)) k85_3 .skip st := goC_cond
def k85_5 : ACode :=
  .seq k85_4 k85_2
@[simp] theorem xk85_5 : GoC fns Q s k85_5 st ↔ GoC fns Q (.sq k85_2 :: s) k85_4 st := goC_seq
def k85_6 : ACode :=
  .ops q85_4 k85_5
@[simp] theorem xk85_6 : GoC fns Q s k85_6 st ↔ GoO fns Q s q85_4 k85_5 st := goC_ops
def k85_7 : ACode :=
  .ops q85_5 k85_6
@[simp] theorem xk85_7 : GoC fns Q s k85_7 st ↔ GoO fns Q s q85_5 k85_6 st := goC_ops
def af85 : AFunc := ⟨38, k85_7, [.tmp 2, .tmp 3, .tmp 4], fun _ => none⟩

theorem ok85 : ∃ hs, pFunc Tryd.prog sg hs Tryd.f85 = some af85 := ⟨fun i => 0, by kernel_rfl⟩
/-- No. 71 -/
def q71_0 : List AOper :=
  [⟨.move .take (.p 5), (some 17), none⟩,
    ⟨.move .take (.t 0), (some 18), none⟩,
    ⟨.move .take (.p 6), (some 19), none⟩,
    ⟨.assign (.p 17), (some 2), none⟩,
    ⟨.assign (.t 18), (some 3), none⟩,
    ⟨.assign (.p 19), (some 4), none⟩]
@[simp] def eq71_0 := id q71_0.eq_1
def q71_1 : List AOper :=
  [⟨.move .take (.p 5), (some 15), none⟩,
    ⟨.move .take (.t 0), (some 16), none⟩,
    ⟨.assign (.p 15), (some 2), none⟩,
    ⟨.assign (.t 16), (some 3), none⟩,
    ⟨.assign (.c (.bool false)), (some 4), none⟩]
@[simp] def eq71_1 := id q71_1.eq_1
def q71_2 : List AOper :=
  [⟨.move .look (.p 5), (some 13), none⟩,
    ⟨.bin .lss 1 true (.p 13) (.c (.int .i32 0)), (some 14), none⟩]
@[simp] def eq71_2 := id q71_2.eq_1
def q71_3 : List AOper :=
  [⟨.move .look (.t 0), (some 8), none⟩,
    ⟨.call 85 [(.t 8, false)], (some 9), none⟩,
    ⟨.move .look (.t 9), (some 7), none⟩,
    ⟨.extract 7 0, (some 10), none⟩,
    ⟨.extract 7 1, (some 11), none⟩,
    ⟨.extract 7 2, (some 12), none⟩,
    ⟨.assign (.p 10), (some 5), none⟩,
    ⟨.assign (.t 11), (some 0), none⟩,
    ⟨.assign (.p 12), (some 6), none⟩]
@[simp] def eq71_3 := id q71_3.eq_1
def q71_4 : List AOper :=
  [⟨.assign (.c (.int .i32 0)), (some 2), none⟩,
    ⟨.assign (.c (.slice .nil 0 1 [])), (some 3), none⟩,
    ⟨.assign (.c (.bool false)), (some 4), none⟩]
@[simp] def eq71_4 := id q71_4.eq_1
def k71_0 : ACode :=
  .ops q71_0 .ret
@[simp] theorem xk71_0 : GoC fns Q s k71_0 st ↔ GoO fns Q s q71_0 .ret st := goC_ops
def k71_1 : ACode :=
  .ops q71_1 .ret
@[simp] theorem xk71_1 : GoC fns Q s k71_1 st ↔ GoO fns Q s q71_1 .ret st := goC_ops
def k71_2 : ACode :=
  .cond (.p 14) k71_1 .skip
@[simp] theorem xk71_2 : GoC fns Q s k71_2 st ↔ GB fns Q s (peek st (.p 14)) k71_1 .skip st := goC_cond
def k71_3 : ACode :=
  .seq k71_2 k71_0
@[simp] theorem xk71_3 : GoC fns Q s k71_3 st ↔ GoC fns Q (.sq k71_0 :: s) k71_2 st := goC_seq
def k71_4 : ACode :=
  .ops q71_2 k71_3
@[simp] theorem xk71_4 : GoC fns Q s k71_4 st ↔ GoO fns Q s q71_2 k71_3 st := goC_ops
def k71_5 : ACode :=
  .ops q71_3 k71_4
@[simp] theorem xk71_5 : GoC fns Q s k71_5 st ↔ GoO fns Q s q71_3 k71_4 st := goC_ops
def k71_6 : ACode :=
  .ops q71_4 k71_5
@[simp] theorem xk71_6 : GoC fns Q s k71_6 st ↔ GoO fns Q s q71_4 k71_5 st := goC_ops
def af71 : AFunc := ⟨20, k71_6, [.tmp 2, .tmp 3, .tmp 4], fun _ => none⟩

theorem ok71 : ∃ hs, pFunc Tryd.prog sg hs Tryd.f71 = some af71 := ⟨fun i => 0, by kernel_rfl⟩
/-- No. 70 -/
def q70_0 : List AOper :=
  [⟨.move .look (.t 0), (some 5), none⟩,
    ⟨.move .look (.t 1), (some 6), none⟩,
    ⟨.build [.slice .nil 0 1 [], .slice .nil 0 1 []] [(0, 1, .t 5), (1, 1, .t 6)], (some 7), none⟩,
    ⟨.store 2 (.p 4) (.p 7), none, none⟩]
@[simp] def eq70_0 := id q70_0.eq_1
def k70_0 : ACode :=
  .ops q70_0 .ret
@[simp] theorem xk70_0 : GoC fns Q s k70_0 st ↔ GoO fns Q s q70_0 .ret st := goC_ops
def k70_1 : ACode :=
  .ops [⟨.newbox 4 [.slice .nil 0 1 [], .slice .nil 0 1 []], (some 4), none⟩] k70_0
@[simp] theorem xk70_1 : GoC fns Q s k70_1 st ↔ GoO fns Q s [⟨.newbox 4 [.slice .nil 0 1 [], .slice .nil 0 1 []], (some 4), none⟩] k70_0 st := goC_ops
def af70 : AFunc := ⟨8, k70_1, [.cell 4 true 2], fun _ => none⟩

theorem ok70 : ∃ hs, pFunc Tryd.prog sg hs Tryd.f70 = some af70 := ⟨fun i => 0, by kernel_rfl⟩
/-- No. 82 -/
def q82_0 : List AOper :=
  [⟨.move .look (.t 0), (some 5), none⟩,
    ⟨.move .look (.p 1), (some 6), none⟩,
    ⟨.px .idxB [.p 5, .p 6], (some 7), none⟩,
    ⟨.assign (.p 7), (some 4), none⟩]
@[simp] def eq82_0 := id q82_0.eq_1
def k82_0 : ACode :=
  .ops q82_0 .ret
@[simp] theorem xk82_0 : GoC fns Q s k82_0 st ↔ GoO fns Q s q82_0 .ret st := goC_ops
def k82_1 : ACode :=
  .ops [⟨.assign (.c (.int .i64 0)), (some 4), none⟩] k82_0
@[simp] theorem xk82_1 : GoC fns Q s k82_1 st ↔ GoO fns Q s [⟨.assign (.c (.int .i64 0)), (some 4), none⟩] k82_0 st := goC_ops
def af82 : AFunc := ⟨8, k82_1, [.tmp 4], fun _ => none⟩

theorem ok82 : ∃ hs, pFunc Tryd.prog sg hs Tryd.f82 = some af82 := ⟨fun i => 0, by kernel_rfl⟩
/-- No. 84 -/
def q84_0 : List AOper :=
  [⟨.move .take (.p 6), (some 92), none⟩,
    ⟨.move .take (.p 7), (some 93), none⟩,
    ⟨.assign (.p 92), (some 4), none⟩,
    ⟨.assign (.p 93), (some 5), none⟩]
@[simp] def eq84_0 := id q84_0.eq_1
def q84_1 : List AOper :=
  [⟨.move .look (.p 6), (some 90), none⟩,
    ⟨.bin .lss 1 true (.p 90) (.c (.int .i32 0)), (some 91), none⟩]
@[simp] def eq84_1 := id q84_1.eq_1
def q84_2 : List AOper :=
  [⟨.move .look (.t 0), (some 16), none⟩,
    ⟨.call 71 [(.t 16, false)], (some 17), none⟩,
    ⟨.move .look (.t 17), (some 15), none⟩,
    ⟨.extract 15 0, (some 18), none⟩,
    ⟨.extract 15 1, (some 19), none⟩,
    ⟨.extract 15 2, (some 20), none⟩,
    ⟨.assign (.p 18), (some 6), none⟩,
    ⟨.assign (.p 20), (some 7), none⟩]
@[simp] def eq84_2 := id q84_2.eq_1
def q84_3 : List AOper :=
  [⟨.move .look (.p 6), (some 29), none⟩,
    ⟨.bin .add 1 true (.p 29) (.c (.int .i32 5)), (some 30), none⟩,
    ⟨.assign (.p 30), (some 6), none⟩]
@[simp] def eq84_3 := id q84_3.eq_1
def q84_4 : List AOper :=
  [⟨.move .look (.t 0), (some 24), none⟩,
    ⟨.call 71 [(.t 24, false)], (some 25), none⟩,
    ⟨.move .look (.t 25), (some 23), none⟩,
    ⟨.extract 23 0, (some 26), none⟩,
    ⟨.extract 23 1, (some 27), none⟩,
    ⟨.extract 23 2, (some 28), none⟩,
    ⟨.assign (.p 26), (some 6), none⟩,
    ⟨.assign (.p 28), (some 7), none⟩]
@[simp] def eq84_4 := id q84_4.eq_1
def q84_5 : List AOper :=
  [⟨.move .look (.p 6), (some 41), none⟩,
    ⟨.bin .add 1 true (.p 41) (.c (.int .i32 16)), (some 42), none⟩,
    ⟨.assign (.p 42), (some 6), none⟩]
@[simp] def eq84_5 := id q84_5.eq_1
def q84_6 : List AOper :=
  [⟨.move .look (.t 0), (some 36), none⟩,
    ⟨.call 71 [(.t 36, false)], (some 37), none⟩,
    ⟨.move .look (.t 37), (some 35), none⟩,
    ⟨.extract 35 0, (some 38), none⟩,
    ⟨.extract 35 1, (some 39), none⟩,
    ⟨.extract 35 2, (some 40), none⟩,
    ⟨.assign (.p 38), (some 6), none⟩,
    ⟨.assign (.p 40), (some 7), none⟩]
@[simp] def eq84_6 := id q84_6.eq_1
def q84_7 : List AOper :=
  [⟨.move .look (.p 6), (some 62), none⟩,
    ⟨.bin .add 1 true (.p 62) (.c (.int .i32 4)), (some 63), none⟩,
    ⟨.assign (.p 63), (some 6), none⟩]
@[simp] def eq84_7 := id q84_7.eq_1
def q84_8 : List AOper :=
  [⟨.move .look (.t 0), (some 57), none⟩,
    ⟨.call 71 [(.t 57, false)], (some 58), none⟩,
    ⟨.move .look (.t 58), (some 56), none⟩,
    ⟨.extract 56 0, (some 59), none⟩,
    ⟨.extract 56 1, (some 60), none⟩,
    ⟨.extract 56 2, (some 61), none⟩,
    ⟨.assign (.p 59), (some 6), none⟩,
    ⟨.assign (.p 61), (some 7), none⟩]
@[simp] def eq84_8 := id q84_8.eq_1
def q84_9 : List AOper :=
  [⟨.move .look (.p 8), (some 84), none⟩,
    ⟨.bin .add 1 true (.p 84) (.c (.int .i64 1)), (some 85), none⟩,
    ⟨.move .look (.p 9), (some 86), none⟩,
    ⟨.bin .add 1 false (.p 85) (.p 86), (some 87), none⟩,
    ⟨.bin .add 1 true (.p 87) (.c (.int .i64 1)), (some 88), none⟩,
    ⟨.convInt .i32 (.p 88), (some 89), none⟩,
    ⟨.assign (.p 89), (some 6), none⟩]
@[simp] def eq84_9 := id q84_9.eq_1
def q84_10 : List AOper :=
  [⟨.move .look (.p 9), (some 82), none⟩,
    ⟨.bin .lss 1 true (.p 82) (.c (.int .i64 0)), (some 83), none⟩]
@[simp] def eq84_10 := id q84_10.eq_1
def q84_11 : List AOper :=
  [⟨.move .look (.t 0), (some 77), none⟩,
    ⟨.move .look (.p 8), (some 78), none⟩,
    ⟨.bin .add 1 true (.p 78) (.c (.int .i64 1)), (some 79), none⟩,
    ⟨.sliceSl 1 (.t 77) (some (.p 79)) none, (some 80), none⟩,
    ⟨.call 82 [(.t 80, false), (.c (.int .u8 0), false)], (some 81), none⟩,
    ⟨.assign (.p 81), (some 9), none⟩]
@[simp] def eq84_11 := id q84_11.eq_1
def q84_12 : List AOper :=
  [⟨.move .look (.p 8), (some 75), none⟩,
    ⟨.bin .lss 1 true (.p 75) (.c (.int .i64 0)), (some 76), none⟩]
@[simp] def eq84_12 := id q84_12.eq_1
def q84_13 : List AOper :=
  [⟨.move .look (.t 0), (some 73), none⟩,
    ⟨.call 82 [(.t 73, false), (.c (.int .u8 0), false)], (some 74), none⟩,
    ⟨.assign (.p 74), (some 8), none⟩]
@[simp] def eq84_13 := id q84_13.eq_1
def q84_14 : List AOper :=
  [⟨.bin .eql 1 true (.p 10) (.c (.int .u8 11)), (some 72), none⟩,
    ⟨.assign (.p 72), (some 71), none⟩]
@[simp] def eq84_14 := id q84_14.eq_1
def q84_15 : List AOper :=
  [⟨.bin .eql 1 true (.p 10) (.c (.int .u8 7)), (some 70), none⟩,
    ⟨.assign (.p 70), (some 69), none⟩]
@[simp] def eq84_15 := id q84_15.eq_1
def q84_16 : List AOper :=
  [⟨.bin .eql 1 true (.p 10) (.c (.int .u8 6)), (some 68), none⟩,
    ⟨.assign (.p 68), (some 64), none⟩]
@[simp] def eq84_16 := id q84_16.eq_1
def q84_17 : List AOper :=
  [⟨.bin .eql 1 true (.p 10) (.c (.int .u8 10)), (some 67), none⟩,
    ⟨.assign (.p 67), (some 64), none⟩]
@[simp] def eq84_17 := id q84_17.eq_1
def q84_18 : List AOper :=
  [⟨.bin .eql 1 true (.p 10) (.c (.int .u8 255)), (some 66), none⟩,
    ⟨.assign (.p 66), (some 64), none⟩]
@[simp] def eq84_18 := id q84_18.eq_1
def q84_19 : List AOper :=
  [⟨.bin .eql 1 true (.p 10) (.c (.int .u8 127)), (some 65), none⟩,
    ⟨.assign (.p 65), (some 64), none⟩]
@[simp] def eq84_19 := id q84_19.eq_1
def q84_20 : List AOper :=
  [⟨.bin .eql 1 true (.p 10) (.c (.int .u8 14)), (some 55), none⟩,
    ⟨.assign (.p 55), (some 52), none⟩]
@[simp] def eq84_20 := id q84_20.eq_1
def q84_21 : List AOper :=
  [⟨.bin .eql 1 true (.p 10) (.c (.int .u8 2)), (some 54), none⟩,
    ⟨.assign (.p 54), (some 52), none⟩]
@[simp] def eq84_21 := id q84_21.eq_1
def q84_22 : List AOper :=
  [⟨.bin .eql 1 true (.p 10) (.c (.int .u8 13)), (some 53), none⟩,
    ⟨.assign (.p 53), (some 52), none⟩]
@[simp] def eq84_22 := id q84_22.eq_1
def q84_23 : List AOper :=
  [⟨.bin .eql 1 true (.p 10) (.c (.int .u8 16)), (some 51), none⟩,
    ⟨.assign (.p 51), (some 50), none⟩]
@[simp] def eq84_23 := id q84_23.eq_1
def q84_24 : List AOper :=
  [⟨.bin .eql 1 true (.p 10) (.c (.int .u8 19)), (some 49), none⟩,
    ⟨.assign (.p 49), (some 48), none⟩]
@[simp] def eq84_24 := id q84_24.eq_1
def q84_25 : List AOper :=
  [⟨.bin .eql 1 true (.p 10) (.c (.int .u8 17)), (some 47), none⟩,
    ⟨.assign (.p 47), (some 43), none⟩]
@[simp] def eq84_25 := id q84_25.eq_1
def q84_26 : List AOper :=
  [⟨.bin .eql 1 true (.p 10) (.c (.int .u8 18)), (some 46), none⟩,
    ⟨.assign (.p 46), (some 43), none⟩]
@[simp] def eq84_26 := id q84_26.eq_1
def q84_27 : List AOper :=
  [⟨.bin .eql 1 true (.p 10) (.c (.int .u8 1)), (some 45), none⟩,
    ⟨.assign (.p 45), (some 43), none⟩]
@[simp] def eq84_27 := id q84_27.eq_1
def q84_28 : List AOper :=
  [⟨.bin .eql 1 true (.p 10) (.c (.int .u8 9)), (some 44), none⟩,
    ⟨.assign (.p 44), (some 43), none⟩]
@[simp] def eq84_28 := id q84_28.eq_1
def q84_29 : List AOper :=
  [⟨.bin .eql 1 true (.p 10) (.c (.int .u8 12)), (some 34), none⟩,
    ⟨.assign (.p 34), (some 33), none⟩]
@[simp] def eq84_29 := id q84_29.eq_1
def q84_30 : List AOper :=
  [⟨.bin .eql 1 true (.p 10) (.c (.int .u8 8)), (some 32), none⟩,
    ⟨.assign (.p 32), (some 31), none⟩]
@[simp] def eq84_30 := id q84_30.eq_1
def q84_31 : List AOper :=
  [⟨.bin .eql 1 true (.p 10) (.c (.int .u8 5)), (some 22), none⟩,
    ⟨.assign (.p 22), (some 21), none⟩]
@[simp] def eq84_31 := id q84_31.eq_1
def q84_32 : List AOper :=
  [⟨.bin .eql 1 true (.p 10) (.c (.int .u8 15)), (some 14), none⟩,
    ⟨.assign (.p 14), (some 11), none⟩]
@[simp] def eq84_32 := id q84_32.eq_1
def q84_33 : List AOper :=
  [⟨.bin .eql 1 true (.p 10) (.c (.int .u8 3)), (some 13), none⟩,
    ⟨.assign (.p 13), (some 11), none⟩]
@[simp] def eq84_33 := id q84_33.eq_1
def q84_34 : List AOper :=
  [⟨.bin .eql 1 true (.p 10) (.c (.int .u8 4)), (some 12), none⟩,
    ⟨.assign (.p 12), (some 11), none⟩]
@[simp] def eq84_34 := id q84_34.eq_1
def q84_35 : List AOper :=
  [⟨.assign (.c (.int .i32 0)), (some 4), none⟩,
    ⟨.assign (.c (.bool false)), (some 5), none⟩]
@[simp] def eq84_35 := id q84_35.eq_1
def k84_0 : ACode :=
  .ops q84_0 .ret
@[simp] theorem xk84_0 : GoC fns Q s k84_0 st ↔ GoO fns Q s q84_0 .ret st := goC_ops
def k84_1 : ACode :=
  .ops [⟨.assign (.c (.bool false)), (some 7), none⟩] .skip
@[simp] theorem xk84_1 : GoC fns Q s k84_1 st ↔ GoO fns Q s [⟨.assign (.c (.bool false)), (some 7), none⟩] .skip st := goC_ops
def k84_2 : ACode :=
  .cond (.p 91) k84_1 .skip
@[simp] theorem xk84_2 : GoC fns Q s k84_2 st ↔ GB fns Q s (peek st (.p 91)) k84_1 .skip st := goC_cond
def k84_3 : ACode :=
  .seq k84_2 k84_0
@[simp] theorem xk84_3 : GoC fns Q s k84_3 st ↔ GoC fns Q (.sq k84_0 :: s) k84_2 st := goC_seq
def k84_4 : ACode :=
  .ops q84_1 k84_3
@[simp] theorem xk84_4 : GoC fns Q s k84_4 st ↔ GoO fns Q s q84_1 k84_3 st := goC_ops
def k84_5 : ACode :=
  .ops q84_2 .skip
@[simp] theorem xk84_5 : GoC fns Q s k84_5 st ↔ GoO fns Q s q84_2 .skip st := goC_ops
def k84_6 : ACode :=
  .ops q84_3 .skip
@[simp] theorem xk84_6 : GoC fns Q s k84_6 st ↔ GoO fns Q s q84_3 .skip st := goC_ops
def k84_7 : ACode :=
  .ops q84_4 k84_6
@[simp] theorem xk84_7 : GoC fns Q s k84_7 st ↔ GoO fns Q s q84_4 k84_6 st := goC_ops
def k84_8 : ACode :=
  .ops [⟨.assign (.c (.int .i32 1)), (some 6), none⟩] .skip
@[simp] theorem xk84_8 : GoC fns Q s k84_8 st ↔ GoO fns Q s [⟨.assign (.c (.int .i32 1)), (some 6), none⟩] .skip st := goC_ops
def k84_9 : ACode :=
  .ops q84_5 .skip
@[simp] theorem xk84_9 : GoC fns Q s k84_9 st ↔ GoO fns Q s q84_5 .skip st := goC_ops
def k84_10 : ACode :=
  .ops q84_6 k84_9
@[simp] theorem xk84_10 : GoC fns Q s k84_10 st ↔ GoO fns Q s q84_6 k84_9 st := goC_ops
def k84_11 : ACode :=
  .ops [⟨.assign (.c (.int .i32 8)), (some 6), none⟩] .skip
@[simp] theorem xk84_11 : GoC fns Q s k84_11 st ↔ GoO fns Q s [⟨.assign (.c (.int .i32 8)), (some 6), none⟩] .skip st := goC_ops
def k84_12 : ACode :=
  .ops [⟨.assign (.c (.int .i32 16)), (some 6), none⟩] .skip
@[simp] theorem xk84_12 : GoC fns Q s k84_12 st ↔ GoO fns Q s [⟨.assign (.c (.int .i32 16)), (some 6), none⟩] .skip st := goC_ops
def k84_13 : ACode :=
  .ops [⟨.assign (.c (.int .i32 4)), (some 6), none⟩] .skip
@[simp] theorem xk84_13 : GoC fns Q s k84_13 st ↔ GoO fns Q s [⟨.assign (.c (.int .i32 4)), (some 6), none⟩] .skip st := goC_ops
def k84_14 : ACode :=
  .ops q84_7 .skip
@[simp] theorem xk84_14 : GoC fns Q s k84_14 st ↔ GoO fns Q s q84_7 .skip st := goC_ops
def k84_15 : ACode :=
  .ops q84_8 k84_14
@[simp] theorem xk84_15 : GoC fns Q s k84_15 st ↔ GoO fns Q s q84_8 k84_14 st := goC_ops
def k84_16 : ACode :=
  .ops [⟨.assign (.c (.int .i32 0)), (some 6), none⟩] .skip
@[simp] theorem xk84_16 : GoC fns Q s k84_16 st ↔ GoO fns Q s [⟨.assign (.c (.int .i32 0)), (some 6), none⟩] .skip st := goC_ops
def k84_17 : ACode :=
  .ops [⟨.assign (.c (.int .i32 12)), (some 6), none⟩] .skip
@[simp] theorem xk84_17 : GoC fns Q s k84_17 st ↔ GoO fns Q s [⟨.assign (.c (.int .i32 12)), (some 6), none⟩] .skip st := goC_ops
def k84_18 : ACode :=
  .ops q84_9 .skip
@[simp] theorem xk84_18 : GoC fns Q s k84_18 st ↔ GoO fns Q s q84_9 .skip st := goC_ops
def k84_19 : ACode :=
  .ops [⟨.assign (.c (.bool false)), (some 7), none⟩] (.exit 0)
@[simp] theorem xk84_19 : GoC fns Q s k84_19 st ↔ GoO fns Q s [⟨.assign (.c (.bool false)), (some 7), none⟩] (.exit 0) st := goC_ops
def k84_20 : ACode :=
  .cond (.p 83) k84_19 .skip
@[simp] theorem xk84_20 : GoC fns Q s k84_20 st ↔ GB fns Q s (peek st (.p 83)) k84_19 .skip st := goC_cond
def k84_21 : ACode :=
  .seq k84_20 k84_18
@[simp] theorem xk84_21 : GoC fns Q s k84_21 st ↔ GoC fns Q (.sq k84_18 :: s) k84_20 st := goC_seq
def k84_22 : ACode :=
  .ops q84_10 k84_21
@[simp] theorem xk84_22 : GoC fns Q s k84_22 st ↔ GoO fns Q s q84_10 k84_21 st := goC_ops
def k84_23 : ACode :=
  .ops q84_11 k84_22
@[simp] theorem xk84_23 : GoC fns Q s k84_23 st ↔ GoO fns Q s q84_11 k84_22 st := goC_ops
def k84_24 : ACode :=
  .ops [⟨.assign (.c (.bool false)), (some 7), none⟩] (.exit 0)
@[simp] theorem xk84_24 : GoC fns Q s k84_24 st ↔ GoO fns Q s [⟨.assign (.c (.bool false)), (some 7), none⟩] (.exit 0) st := goC_ops
def k84_25 : ACode :=
  .cond (.p 76) k84_24 .skip
@[simp] theorem xk84_25 : GoC fns Q s k84_25 st ↔ GB fns Q s (peek st (.p 76)) k84_24 .skip st := goC_cond
def k84_26 : ACode :=
  .seq k84_25 k84_23
@[simp] theorem xk84_26 : GoC fns Q s k84_26 st ↔ GoC fns Q (.sq k84_23 :: s) k84_25 st := goC_seq
def k84_27 : ACode :=
  .ops q84_12 k84_26
@[simp] theorem xk84_27 : GoC fns Q s k84_27 st ↔ GoO fns Q s q84_12 k84_26 st := goC_ops
def k84_28 : ACode :=
  .ops q84_13 k84_27
@[simp] theorem xk84_28 : GoC fns Q s k84_28 st ↔ GoO fns Q s q84_13 k84_27 st := goC_ops
def k84_29 : ACode :=
  .ops [⟨.assign (.c (.bool false)), (some 7), none⟩] .skip
@[simp] theorem xk84_29 : GoC fns Q s k84_29 st ↔ GoO fns Q s [⟨.assign (.c (.bool false)), (some 7), none⟩] .skip st := goC_ops
def k84_30 : ACode :=
  .cond (.p 71) k84_28 k84_29
@[simp] theorem xk84_30 : GoC fns Q s k84_30 st ↔ GB fns Q s (peek st (.p 71)) k84_28 k84_29 st := goC_cond
def k84_31 : ACode :=
  .ops q84_14 k84_30
@[simp] theorem xk84_31 : GoC fns Q s k84_31 st ↔ GoO fns Q s q84_14 k84_30 st := goC_ops
def k84_32 : ACode :=
  .cond (.p 69) k84_17 k84_31
@[simp] theorem xk84_32 : GoC fns Q s k84_32 st ↔ GB fns Q s (peek st (.p 69)) k84_17 k84_31 st := goC_cond
def k84_33 : ACode :=
  .ops q84_15 k84_32
@[simp] theorem xk84_33 : GoC fns Q s k84_33 st ↔ GoO fns Q s q84_15 k84_32 st := goC_ops
def k84_34 : ACode :=
  .cond (.p 64) k84_16 k84_33
@[simp] theorem xk84_34 : GoC fns Q s k84_34 st ↔ GB fns Q s (peek st (.p 64)) k84_16 k84_33 st := goC_cond
def k84_35 : ACode :=
  .ops q84_16 .skip
@[simp] theorem xk84_35 : GoC fns Q s k84_35 st ↔ GoO fns Q s q84_16 .skip st := goC_ops
def k84_36 : ACode :=
  .cond (.p 64) .skip k84_35
@[simp] theorem xk84_36 : GoC fns Q s k84_36 st ↔ GB fns Q s (peek st (.p 64)) .skip k84_35 st := goC_cond
def k84_37 : ACode :=
  .ops q84_17 k84_36
@[simp] theorem xk84_37 : GoC fns Q s k84_37 st ↔ GoO fns Q s q84_17 k84_36 st := goC_ops
def k84_38 : ACode :=
  .cond (.p 64) .skip k84_37
@[simp] theorem xk84_38 : GoC fns Q s k84_38 st ↔ GB fns Q s (peek st (.p 64)) .skip k84_37 st := goC_cond
def k84_39 : ACode :=
  .ops q84_18 k84_38
@[simp] theorem xk84_39 : GoC fns Q s k84_39 st ↔ GoO fns Q s q84_18 k84_38 st := goC_ops
def k84_40 : ACode :=
  .cond (.p 64) .skip k84_39
@[simp] theorem xk84_40 : GoC fns Q s k84_40 st ↔ GB fns Q s (peek st (.p 64)) .skip k84_39 st := goC_cond
def k84_41 : ACode :=
  .seq k84_40 k84_34
@[simp] theorem xk84_41 : GoC fns Q s k84_41 st ↔ GoC fns Q (.sq k84_34 :: s) k84_40 st := goC_seq
def k84_42 : ACode :=
  .ops q84_19 k84_41
@[simp] theorem xk84_42 : GoC fns Q s k84_42 st ↔ GoO fns Q s q84_19 k84_41 st := goC_ops
def k84_43 : ACode :=
  .cond (.p 52) k84_15 k84_42
@[simp] theorem xk84_43 : GoC fns Q s k84_43 st ↔ GB fns Q s (peek st (.p 52)) k84_15 k84_42 st := goC_cond
def k84_44 : ACode :=
  .ops q84_20 .skip
@[simp] theorem xk84_44 : GoC fns Q s k84_44 st ↔ GoO fns Q s q84_20 .skip st := goC_ops
def k84_45 : ACode :=
  .cond (.p 52) .skip k84_44
@[simp] theorem xk84_45 : GoC fns Q s k84_45 st ↔ GB fns Q s (peek st (.p 52)) .skip k84_44 st := goC_cond
def k84_46 : ACode :=
  .ops q84_21 k84_45
@[simp] theorem xk84_46 : GoC fns Q s k84_46 st ↔ GoO fns Q s q84_21 k84_45 st := goC_ops
def k84_47 : ACode :=
  .cond (.p 52) .skip k84_46
@[simp] theorem xk84_47 : GoC fns Q s k84_47 st ↔ GB fns Q s (peek st (.p 52)) .skip k84_46 st := goC_cond
def k84_48 : ACode :=
  .seq k84_47 k84_43
@[simp] theorem xk84_48 : GoC fns Q s k84_48 st ↔ GoC fns Q (.sq k84_43 :: s) k84_47 st := goC_seq
def k84_49 : ACode :=
  .ops q84_22 k84_48
@[simp] theorem xk84_49 : GoC fns Q s k84_49 st ↔ GoO fns Q s q84_22 k84_48 st := goC_ops
def k84_50 : ACode :=
  .cond (.p 50) k84_13 k84_49
@[simp] theorem xk84_50 : GoC fns Q s k84_50 st ↔ GB fns Q s (peek st (.p 50)) k84_13 k84_49 st := goC_cond
def k84_51 : ACode :=
  .ops q84_23 k84_50
@[simp] theorem xk84_51 : GoC fns Q s k84_51 st ↔ GoO fns Q s q84_23 k84_50 st := goC_ops
def k84_52 : ACode :=
  .cond (.p 48) k84_12 k84_51
@[simp] theorem xk84_52 : GoC fns Q s k84_52 st ↔ GB fns Q s (peek st (.p 48)) k84_12 k84_51 st := goC_cond
def k84_53 : ACode :=
  .ops q84_24 k84_52
@[simp] theorem xk84_53 : GoC fns Q s k84_53 st ↔ GoO fns Q s q84_24 k84_52 st := goC_ops
def k84_54 : ACode :=
  .cond (.p 43) k84_11 k84_53
@[simp] theorem xk84_54 : GoC fns Q s k84_54 st ↔ GB fns Q s (peek st (.p 43)) k84_11 k84_53 st := goC_cond
def k84_55 : ACode :=
  .ops q84_25 .skip
@[simp] theorem xk84_55 : GoC fns Q s k84_55 st ↔ GoO fns Q s q84_25 .skip st := goC_ops
def k84_56 : ACode :=
  .cond (.p 43) .skip k84_55
@[simp] theorem xk84_56 : GoC fns Q s k84_56 st ↔ GB fns Q s (peek st (.p 43)) .skip k84_55 st := goC_cond
def k84_57 : ACode :=
  .ops q84_26 k84_56
@[simp] theorem xk84_57 : GoC fns Q s k84_57 st ↔ GoO fns Q s q84_26 k84_56 st := goC_ops
def k84_58 : ACode :=
  .cond (.p 43) .skip k84_57
@[simp] theorem xk84_58 : GoC fns Q s k84_58 st ↔ GB fns Q s (peek st (.p 43)) .skip k84_57 st := goC_cond
def k84_59 : ACode :=
  .ops q84_27 k84_58
@[simp] theorem xk84_59 : GoC fns Q s k84_59 st ↔ GoO fns Q s q84_27 k84_58 st := goC_ops
def k84_60 : ACode :=
  .cond (.p 43) .skip k84_59
@[simp] theorem xk84_60 : GoC fns Q s k84_60 st ↔ GB fns Q s (peek st (.p 43)) .skip k84_59 st := goC_cond
def k84_61 : ACode :=
  .seq k84_60 k84_54
@[simp] theorem xk84_61 : GoC fns Q s k84_61 st ↔ GoC fns Q (.sq k84_54 :: s) k84_60 st := goC_seq
def k84_62 : ACode :=
  .ops q84_28 k84_61
@[simp] theorem xk84_62 : GoC fns Q s k84_62 st ↔ GoO fns Q s q84_28 k84_61 st := goC_ops
def k84_63 : ACode :=
  .cond (.p 33) k84_10 k84_62
@[simp] theorem xk84_63 : GoC fns Q s k84_63 st ↔ GB fns Q s (peek st (.p 33)) k84_10 k84_62 st := goC_cond
def k84_64 : ACode :=
  .ops q84_29 k84_63
@[simp] theorem xk84_64 : GoC fns Q s k84_64 st ↔ GoO fns Q s q84_29 k84_63 st := goC_ops
def k84_65 : ACode :=
  .cond (.p 31) k84_8 k84_64
@[simp] theorem xk84_65 : GoC fns Q s k84_65 st ↔ GB fns Q s (peek st (.p 31)) k84_8 k84_64 st := goC_cond
def k84_66 : ACode :=
  .ops q84_30 k84_65
@[simp] theorem xk84_66 : GoC fns Q s k84_66 st ↔ GoO fns Q s q84_30 k84_65 st := goC_ops
def k84_67 : ACode :=
  .cond (.p 21) k84_7 k84_66
@[simp] theorem xk84_67 : GoC fns Q s k84_67 st ↔ GB fns Q s (peek st (.p 21)) k84_7 k84_66 st := goC_cond
def k84_68 : ACode :=
  .ops q84_31 k84_67
@[simp] theorem xk84_68 : GoC fns Q s k84_68 st ↔ GoO fns Q s q84_31 k84_67 st := goC_ops
def k84_69 : ACode :=
  .cond (.p 11) k84_5 k84_68
@[simp] theorem xk84_69 : GoC fns Q s k84_69 st ↔ GB fns Q s (peek st (.p 11)) k84_5 k84_68 st := goC_cond
def k84_70 : ACode :=
  .ops q84_32 .skip
@[simp] theorem xk84_70 : GoC fns Q s k84_70 st ↔ GoO fns Q s q84_32 .skip st := goC_ops
def k84_71 : ACode :=
  .cond (.p 11) .skip k84_70
@[simp] theorem xk84_71 : GoC fns Q s k84_71 st ↔ GB fns Q s (peek st (.p 11)) .skip k84_70 st := goC_cond
def k84_72 : ACode :=
  .ops q84_33 k84_71
@[simp] theorem xk84_72 : GoC fns Q s k84_72 st ↔ GoO fns Q s q84_33 k84_71 st := goC_ops
def k84_73 : ACode :=
  .cond (.p 11) .skip k84_72
@[simp] theorem xk84_73 : GoC fns Q s k84_73 st ↔ GB fns Q s (peek st (.p 11)) .skip k84_72 st := goC_cond
def k84_74 : ACode :=
  .seq k84_73 k84_69
@[simp] theorem xk84_74 : GoC fns Q s k84_74 st ↔ GoC fns Q (.sq k84_69 :: s) k84_73 st := goC_seq
def k84_75 : ACode :=
  .ops q84_34 k84_74
@[simp] theorem xk84_75 : GoC fns Q s k84_75 st ↔ GoO fns Q s q84_34 k84_74 st := goC_ops
def k84_76 : ACode :=
  .block 0 k84_75
@[simp] theorem xk84_76 : GoC fns Q s k84_76 st ↔ GoC fns Q (.bl 0 :: s) k84_75 st := goC_block
def k84_77 : ACode :=
  .seq k84_76 k84_4
@[simp] theorem xk84_77 : GoC fns Q s k84_77 st ↔ GoC fns Q (.sq k84_4 :: s) k84_76 st := goC_seq
def k84_78 : ACode :=
  .ops [⟨.move .head (.p 1), (some 10), none⟩] k84_77
@[simp] theorem xk84_78 : GoC fns Q s k84_78 st ↔ GoO fns Q s [⟨.move .head (.p 1), (some 10), none⟩] k84_77 st := goC_ops
def k84_79 : ACode :=
  .ops [⟨.assign (.c (.bool true)), (some 7), none⟩] k84_78
@[simp] theorem xk84_79 : GoC fns Q s k84_79 st ↔ GoO fns Q s [⟨.assign (.c (.bool true)), (some 7), none⟩] k84_78 st := goC_ops
def k84_80 : ACode :=
  .ops [⟨.assign (.c (.int .i32 0)), (some 6), none⟩] k84_79
@[simp] theorem xk84_80 : GoC fns Q s k84_80 st ↔ GoO fns Q s [⟨.assign (.c (.int .i32 0)), (some 6), none⟩] k84_79 st := goC_ops
def k84_81 : ACode :=
  .ops q84_35 k84_80
@[simp] theorem xk84_81 : GoC fns Q s k84_81 st ↔ GoO fns Q s q84_35 k84_80 st := goC_ops
def af84 : AFunc := ⟨94, k84_81, [.tmp 4, .tmp 5], fun _ => none⟩

theorem ok84 : ∃ hs, pFunc Tryd.prog sg hs Tryd.f84 = some af84 := ⟨fun i => 0, by kernel_rfl⟩
/-- No. 72 -/
def q72_0 : List AOper :=
  [⟨.move .look (.t 0), (some 57), none⟩,
    ⟨.move .head (.p 9), (some 58), none⟩,
    ⟨.sliceSl 1 (.t 57) none (some (.p 58)), (some 59), none⟩,
    ⟨.move .look (.t 0), (some 60), none⟩,
    ⟨.move .head (.p 9), (some 61), none⟩,
    ⟨.sliceSl 1 (.t 60) (some (.p 61)) none, (some 62), none⟩,
    ⟨.assign (.t 59), (some 2), none⟩,
    ⟨.assign (.t 62), (some 3), none⟩,
    ⟨.assign (.c (.bool true)), (some 4), none⟩]
@[simp] def eq72_0 := id q72_0.eq_1
def q72_1 : List AOper :=
  [⟨.move .take (.t 0), (some 56), none⟩,
    ⟨.assign (.c (.slice .nil 0 1 [])), (some 2), none⟩,
    ⟨.assign (.t 56), (some 3), none⟩,
    ⟨.assign (.c (.bool false)), (some 4), none⟩]
@[simp] def eq72_1 := id q72_1.eq_1
def q72_2 : List AOper :=
  [⟨.move .look (.p 9), (some 52), none⟩,
    ⟨.move .head (.t 0), (some 53), none⟩,
    ⟨.len false (.p 53), (some 54), none⟩,
    ⟨.bin .gtr 1 false (.p 52) (.p 54), (some 55), none⟩]
@[simp] def eq72_2 := id q72_2.eq_1
def q72_3 : List AOper :=
  [⟨.move .look (.p 6), (some 48), none⟩,
    ⟨.move .look (.p 7), (some 49), none⟩,
    ⟨.convInt .i64 (.p 49), (some 50), none⟩,
    ⟨.bin .add 1 false (.p 48) (.p 50), (some 51), none⟩,
    ⟨.assign (.p 51), (some 9), none⟩]
@[simp] def eq72_3 := id q72_3.eq_1
def q72_4 : List AOper :=
  [⟨.move .take (.t 0), (some 47), none⟩,
    ⟨.assign (.c (.slice .nil 0 1 [])), (some 2), none⟩,
    ⟨.assign (.t 47), (some 3), none⟩,
    ⟨.assign (.c (.bool false)), (some 4), none⟩]
@[simp] def eq72_4 := id q72_4.eq_1
def q72_5 : List AOper :=
  [⟨.move .look (.p 8), (some 45), none⟩,
    ⟨.un .not (.p 45), (some 46), none⟩]
@[simp] def eq72_5 := id q72_5.eq_1
def q72_6 : List AOper :=
  [⟨.move .look (.t 0), (some 38), none⟩,
    ⟨.move .head (.p 6), (some 39), none⟩,
    ⟨.sliceSl 1 (.t 38) (some (.p 39)) none, (some 40), none⟩,
    ⟨.move .look (.p 5), (some 41), none⟩,
    ⟨.call 84 [(.t 40, false), (.p 41, false)], (some 42), none⟩,
    ⟨.move .look (.t 42), (some 37), none⟩,
    ⟨.extract 37 0, (some 43), none⟩,
    ⟨.extract 37 1, (some 44), none⟩,
    ⟨.assign (.p 43), (some 7), none⟩,
    ⟨.assign (.p 44), (some 8), none⟩]
@[simp] def eq72_6 := id q72_6.eq_1
def q72_7 : List AOper :=
  [⟨.move .look (.p 6), (some 35), none⟩,
    ⟨.bin .add 1 true (.p 35) (.c (.int .i64 1)), (some 36), none⟩,
    ⟨.assign (.p 36), (some 6), none⟩]
@[simp] def eq72_7 := id q72_7.eq_1
def q72_8 : List AOper :=
  [⟨.move .take (.t 0), (some 34), none⟩,
    ⟨.assign (.c (.slice .nil 0 1 [])), (some 2), none⟩,
    ⟨.assign (.t 34), (some 3), none⟩,
    ⟨.assign (.c (.bool false)), (some 4), none⟩]
@[simp] def eq72_8 := id q72_8.eq_1
def q72_9 : List AOper :=
  [⟨.move .look (.p 6), (some 30), none⟩,
    ⟨.move .head (.t 0), (some 31), none⟩,
    ⟨.len false (.p 31), (some 32), none⟩,
    ⟨.bin .geq 1 false (.p 30) (.p 32), (some 33), none⟩]
@[simp] def eq72_9 := id q72_9.eq_1
def q72_10 : List AOper :=
  [⟨.move .look (.p 6), (some 28), none⟩,
    ⟨.bin .add 1 true (.p 28) (.c (.int .i64 1)), (some 29), none⟩,
    ⟨.assign (.p 29), (some 6), none⟩]
@[simp] def eq72_10 := id q72_10.eq_1
def q72_11 : List AOper :=
  [⟨.move .look (.p 6), (some 17), none⟩,
    ⟨.move .head (.t 0), (some 18), none⟩,
    ⟨.len false (.p 18), (some 19), none⟩,
    ⟨.bin .lss 1 false (.p 17) (.p 19), (some 20), none⟩,
    ⟨.move .look (.p 20), (some 21), none⟩,
    ⟨.move .look (.t 0), (some 22), (some (21, true))⟩,
    ⟨.move .look (.p 6), (some 23), (some (21, true))⟩,
    ⟨.indexAddr 1 (.t 22) (.p 23), (some 24), (some (21, true))⟩,
    ⟨.load .head false 1 (.p 24), (some 25), (some (21, true))⟩,
    ⟨.bin .neq 1 true (.p 25) (.c (.int .u8 0)), (some 26), (some (21, true))⟩,
    ⟨.pick (.p 21) (.p 26) (.c (.bool false)), (some 27), none⟩]
@[simp] def eq72_11 := id q72_11.eq_1
def q72_12 : List AOper :=
  [⟨.move .look (.t 0), (some 14), none⟩,
    ⟨.indexAddr 1 (.t 14) (.c (.int .i64 0)), (some 15), none⟩,
    ⟨.load .take false 1 (.p 15), (some 16), none⟩,
    ⟨.assign (.p 16), (some 5), none⟩]
@[simp] def eq72_12 := id q72_12.eq_1
def q72_13 : List AOper :=
  [⟨.move .take (.t 0), (some 13), none⟩,
    ⟨.assign (.c (.slice .nil 0 1 [])), (some 2), none⟩,
    ⟨.assign (.t 13), (some 3), none⟩,
    ⟨.assign (.c (.bool false)), (some 4), none⟩]
@[simp] def eq72_13 := id q72_13.eq_1
def q72_14 : List AOper :=
  [⟨.move .head (.t 0), (some 10), none⟩,
    ⟨.len false (.p 10), (some 11), none⟩,
    ⟨.bin .lss 1 true (.p 11) (.c (.int .i64 1)), (some 12), none⟩]
@[simp] def eq72_14 := id q72_14.eq_1
def q72_15 : List AOper :=
  [⟨.assign (.c (.slice .nil 0 1 [])), (some 2), none⟩,
    ⟨.assign (.c (.slice .nil 0 1 [])), (some 3), none⟩,
    ⟨.assign (.c (.bool false)), (some 4), none⟩]
@[simp] def eq72_15 := id q72_15.eq_1
def k72_0 : ACode :=
  .ops q72_0 .ret
@[simp] theorem xk72_0 : GoC fns Q s k72_0 st ↔ GoO fns Q s q72_0 .ret st := goC_ops
def k72_1 : ACode :=
  .ops q72_1 .ret
@[simp] theorem xk72_1 : GoC fns Q s k72_1 st ↔ GoO fns Q s q72_1 .ret st := goC_ops
def k72_2 : ACode :=
  .cond (.p 55) k72_1 .skip
@[simp] theorem xk72_2 : GoC fns Q s k72_2 st ↔ GB fns Q s (peek st (.p 55)) k72_1 .skip st := goC_cond
def k72_3 : ACode :=
  .seq k72_2 k72_0
@[simp] theorem xk72_3 : GoC fns Q s k72_3 st ↔ GoC fns Q (.sq k72_0 :: s) k72_2 st := goC_seq
def k72_4 : ACode :=
  .ops q72_2 k72_3
@[simp] theorem xk72_4 : GoC fns Q s k72_4 st ↔ GoO fns Q s q72_2 k72_3 st := goC_ops
def k72_5 : ACode :=
  .ops q72_3 k72_4
@[simp] theorem xk72_5 : GoC fns Q s k72_5 st ↔ GoO fns Q s q72_3 k72_4 st := goC_ops
def k72_6 : ACode :=
  .ops q72_4 .ret
@[simp] theorem xk72_6 : GoC fns Q s k72_6 st ↔ GoO fns Q s q72_4 .ret st := goC_ops
def k72_7 : ACode :=
  .cond (.p 46) k72_6 .skip
@[simp] theorem xk72_7 : GoC fns Q s k72_7 st ↔ GB fns Q s (peek st (.p 46)) k72_6 .skip st := goC_cond
def k72_8 : ACode :=
  .seq k72_7 k72_5
@[simp] theorem xk72_8 : GoC fns Q s k72_8 st ↔ GoC fns Q (.sq k72_5 :: s) k72_7 st := goC_seq
def k72_9 : ACode :=
  .ops q72_5 k72_8
@[simp] theorem xk72_9 : GoC fns Q s k72_9 st ↔ GoO fns Q s q72_5 k72_8 st := goC_ops
def k72_10 : ACode :=
  .ops q72_6 k72_9
@[simp] theorem xk72_10 : GoC fns Q s k72_10 st ↔ GoO fns Q s q72_6 k72_9 st := goC_ops
def k72_11 : ACode :=
  .ops q72_7 k72_10
@[simp] theorem xk72_11 : GoC fns Q s k72_11 st ↔ GoO fns Q s q72_7 k72_10 st := goC_ops
def k72_12 : ACode :=
  .ops q72_8 .ret
@[simp] theorem xk72_12 : GoC fns Q s k72_12 st ↔ GoO fns Q s q72_8 .ret st := goC_ops
def k72_13 : ACode :=
  .cond (.p 33) k72_12 .skip
@[simp] theorem xk72_13 : GoC fns Q s k72_13 st ↔ GB fns Q s (peek st (.p 33)) k72_12 .skip st := goC_cond
def k72_14 : ACode :=
  .seq k72_13 k72_11
@[simp] theorem xk72_14 : GoC fns Q s k72_14 st ↔ GoC fns Q (.sq k72_11 :: s) k72_13 st := goC_seq
def k72_15 : ACode :=
  .ops q72_9 k72_14
@[simp] theorem xk72_15 : GoC fns Q s k72_15 st ↔ GoO fns Q s q72_9 k72_14 st := goC_ops
def k72_16 : ACode :=
  .ops q72_10 .skip
@[simp] theorem xk72_16 : GoC fns Q s k72_16 st ↔ GoO fns Q s q72_10 .skip st := goC_ops
def k72_17 : ACode :=
  .block 1 k72_16
@[simp] theorem xk72_17 : GoC fns Q s k72_17 st ↔ GoC fns Q (.bl 1 :: s) k72_16 st := goC_block
def k72_18 : ACode :=
  .cond (.p 27) .skip (.exit 0)
@[simp] theorem xk72_18 : GoC fns Q s k72_18 st ↔ GB fns Q s (peek st (.p 27)) .skip (.exit 0) st := goC_cond
def k72_19 : ACode :=
  .seq k72_18 k72_17
@[simp] theorem xk72_19 : GoC fns Q s k72_19 st ↔ GoC fns Q (.sq k72_17 :: s) k72_18 st := goC_seq
def k72_20 : ACode :=
  .ops q72_11 k72_19
@[simp] theorem xk72_20 : GoC fns Q s k72_20 st ↔ GoO fns Q s q72_11 k72_19 st := goC_ops
def lc72_0 : ACode :=
  k72_20
@[simp] theorem xlc72_0 : GoC fns Q s lc72_0 st ↔ GoC fns Q s k72_20 st := Iff.rfl
def k72_22 : ACode :=
  .loop lc72_0
@[simp] theorem xk72_22 : GoC fns Q s k72_22 st ↔ (LoopR fns lc72_0 st fun r => GoE fns Q s r.1 r.2) := goC_loop
def k72_23 : ACode :=
  .block 0 k72_22
@[simp] theorem xk72_23 : GoC fns Q s k72_23 st ↔ GoC fns Q (.bl 0 :: s) k72_22 st := goC_block
def k72_24 : ACode :=
  .seq k72_23 k72_15
@[simp] theorem xk72_24 : GoC fns Q s k72_24 st ↔ GoC fns Q (.sq k72_15 :: s) k72_23 st := goC_seq
def k72_25 : ACode :=
  .ops [⟨.assign (.c (.int .i64 1)), (some 6), none⟩] k72_24
@[simp] theorem xk72_25 : GoC fns Q s k72_25 st ↔ GoO fns Q s [⟨.assign (.c (.int .i64 1)), (some 6), none⟩] k72_24 st := goC_ops
def k72_26 : ACode :=
  .ops q72_12 k72_25
@[simp] theorem xk72_26 : GoC fns Q s k72_26 st ↔ GoO fns Q s q72_12 k72_25 st := goC_ops
def k72_27 : ACode :=
  .ops q72_13 .ret
@[simp] theorem xk72_27 : GoC fns Q s k72_27 st ↔ GoO fns Q s q72_13 .ret st := goC_ops
def k72_28 : ACode :=
  .cond (.p 12) k72_27 .skip
@[simp] theorem xk72_28 : GoC fns Q s k72_28 st ↔ GB fns Q s (peek st (.p 12)) k72_27 .skip st := goC_cond
def k72_29 : ACode :=
  .seq k72_28 k72_26
@[simp] theorem xk72_29 : GoC fns Q s k72_29 st ↔ GoC fns Q (.sq k72_26 :: s) k72_28 st := goC_seq
def k72_30 : ACode :=
  .ops q72_14 k72_29
@[simp] theorem xk72_30 : GoC fns Q s k72_30 st ↔ GoO fns Q s q72_14 k72_29 st := goC_ops
def k72_31 : ACode :=
  .ops q72_15 k72_30
@[simp] theorem xk72_31 : GoC fns Q s k72_31 st ↔ GoO fns Q s q72_15 k72_30 st := goC_ops
def af72 : AFunc := ⟨63, k72_31, [.tmp 2, .tmp 3, .tmp 4], fun _ => none⟩

theorem ok72 : ∃ hs, pFunc Tryd.prog sg hs Tryd.f72 = some af72 := ⟨fun i => 0, by kernel_rfl⟩
/-- No. 81 -/
def q81_0 : List AOper :=
  [⟨.move .look (.t 0), (some 15), none⟩,
    ⟨.move .look (.p 4), (some 16), none⟩,
    ⟨.bin .add 1 true (.p 16) (.c (.int .i64 1)), (some 17), none⟩,
    ⟨.sliceSl 1 (.t 15) (some (.c (.int .i64 1))) (some (.p 17)), (some 18), none⟩,
    ⟨.assign (.t 18), (some 2), none⟩,
    ⟨.assign (.c (.nilI)), (some 3), none⟩]
@[simp] def eq81_0 := id q81_0.eq_1
def q81_1 : List AOper :=
  [⟨.mkIface 102 (.c (.str [101, 108, 101, 109, 101, 110, 116, 32, 105, 115, 32, 109, 105, 115, 115, 105, 110, 103, 32, 107, 101, 121])), (some 14), none⟩,
    ⟨.assign (.c (.slice .nil 0 1 [])), (some 2), none⟩,
    ⟨.assign (.p 14), (some 3), none⟩]
@[simp] def eq81_1 := id q81_1.eq_1
def q81_2 : List AOper :=
  [⟨.move .head (.p 4), (some 12), none⟩,
    ⟨.bin .eql 1 true (.p 12) (.c (.int .i64 (-1))), (some 13), none⟩]
@[simp] def eq81_2 := id q81_2.eq_1
def q81_3 : List AOper :=
  [⟨.move .look (.t 0), (some 9), none⟩,
    ⟨.sliceSl 1 (.t 9) (some (.c (.int .i64 1))) none, (some 10), none⟩,
    ⟨.call 82 [(.t 10, false), (.c (.int .u8 0), false)], (some 11), none⟩,
    ⟨.assign (.p 11), (some 4), none⟩]
@[simp] def eq81_3 := id q81_3.eq_1
def q81_4 : List AOper :=
  [⟨.mkIface 102 (.c (.str [101, 108, 101, 109, 101, 110, 116, 32, 105, 115, 32, 109, 105, 115, 115, 105, 110, 103, 32, 116, 121, 112, 101])), (some 8), none⟩,
    ⟨.assign (.c (.slice .nil 0 1 [])), (some 2), none⟩,
    ⟨.assign (.p 8), (some 3), none⟩]
@[simp] def eq81_4 := id q81_4.eq_1
def q81_5 : List AOper :=
  [⟨.move .head (.t 0), (some 5), none⟩,
    ⟨.len false (.p 5), (some 6), none⟩,
    ⟨.bin .eql 1 true (.p 6) (.c (.int .i64 0)), (some 7), none⟩]
@[simp] def eq81_5 := id q81_5.eq_1
def q81_6 : List AOper :=
  [⟨.assign (.c (.slice .nil 0 1 [])), (some 2), none⟩,
    ⟨.assign (.c (.nilI)), (some 3), none⟩]
@[simp] def eq81_6 := id q81_6.eq_1
def k81_0 : ACode :=
  .ops q81_0 .ret
@[simp] theorem xk81_0 : GoC fns Q s k81_0 st ↔ GoO fns Q s q81_0 .ret st := goC_ops
def k81_1 : ACode :=
  .ops q81_1 .ret
@[simp] theorem xk81_1 : GoC fns Q s k81_1 st ↔ GoO fns Q s q81_1 .ret st := goC_ops
def k81_2 : ACode :=
  .cond (.p 13) k81_1 .skip
@[simp] theorem xk81_2 : GoC fns Q s k81_2 st ↔ GB fns Q s (peek st (.p 13)) k81_1 .skip st := goC_cond
def k81_3 : ACode :=
  .seq k81_2 k81_0
@[simp] theorem xk81_3 : GoC fns Q s k81_3 st ↔ GoC fns Q (.sq k81_0 :: s) k81_2 st := goC_seq
def k81_4 : ACode :=
  .ops q81_2 k81_3
@[simp] theorem xk81_4 : GoC fns Q s k81_4 st ↔ GoO fns Q s q81_2 k81_3 st := goC_ops
def k81_5 : ACode :=
  .ops q81_3 k81_4
@[simp] theorem xk81_5 : GoC fns Q s k81_5 st ↔ GoO fns Q s q81_3 k81_4 st := goC_ops
def k81_6 : ACode :=
  .ops q81_4 .ret
@[simp] theorem xk81_6 : GoC fns Q s k81_6 st ↔ GoO fns Q s q81_4 .ret st := goC_ops
def k81_7 : ACode :=
  .cond (.p 7) k81_6 .skip
@[simp] theorem xk81_7 : GoC fns Q s k81_7 st ↔ GB fns Q s (peek st (.p 7)) k81_6 .skip st := goC_cond
def k81_8 : ACode :=
  .seq k81_7 k81_5
@[simp] theorem xk81_8 : GoC fns Q s k81_8 st ↔ GoC fns Q (.sq k81_5 :: s) k81_7 st := goC_seq
def k81_9 : ACode :=
  .ops q81_5 k81_8
@[simp] theorem xk81_9 : GoC fns Q s k81_9 st ↔ GoO fns Q s q81_5 k81_8 st := goC_ops
def k81_10 : ACode :=
  .ops q81_6 k81_9
@[simp] theorem xk81_10 : GoC fns Q s k81_10 st ↔ GoO fns Q s q81_6 k81_9 st := goC_ops
def af81 : AFunc := ⟨19, k81_10, [.tmp 2, .tmp 3], fun _ => none⟩

theorem ok81 : ∃ hs, pFunc Tryd.prog sg hs Tryd.f81 = some af81 := ⟨fun i => 0, by kernel_rfl⟩
/-- No. 73 -/
def q73_0 : List AOper :=
  [⟨.move .take (.t 3), (some 10), none⟩,
    ⟨.assign (.t 10), (some 2), none⟩]
@[simp] def eq73_0 := id q73_0.eq_1
def q73_1 : List AOper :=
  [⟨.move .look (.t 0), (some 6), none⟩,
    ⟨.call 81 [(.t 6, false)], (some 7), none⟩,
    ⟨.move .look (.t 7), (some 5), none⟩,
    ⟨.extract 5 0, (some 8), none⟩,
    ⟨.extract 5 1, (some 9), none⟩,
    ⟨.assign (.t 8), (some 3), none⟩,
    ⟨.assign (.p 9), (some 4), none⟩]
@[simp] def eq73_1 := id q73_1.eq_1
def k73_0 : ACode :=
  .ops q73_0 .ret
@[simp] theorem xk73_0 : GoC fns Q s k73_0 st ↔ GoO fns Q s q73_0 .ret st := goC_ops
def k73_1 : ACode :=
  .ops q73_1 k73_0
@[simp] theorem xk73_1 : GoC fns Q s k73_1 st ↔ GoO fns Q s q73_1 k73_0 st := goC_ops
def k73_2 : ACode :=
  .ops [⟨.assign (.c (.slice .nil 0 1 [])), (some 2), none⟩] k73_1
@[simp] theorem xk73_2 : GoC fns Q s k73_2 st ↔ GoO fns Q s [⟨.assign (.c (.slice .nil 0 1 [])), (some 2), none⟩] k73_1 st := goC_ops
def af73 : AFunc := ⟨11, k73_2, [.tmp 2], fun _ => none⟩

theorem ok73 : ∃ hs, pFunc Tryd.prog sg hs Tryd.f73 = some af73 := ⟨fun i => 0, by kernel_rfl⟩
/-- No. 69 -/
def q69_0 : List AOper :=
  [⟨.move .look (.t 0), (some 25), none⟩,
    ⟨.move .head (.p 7), (some 26), none⟩,
    ⟨.sliceSl 1 (.t 25) none (some (.p 26)), (some 27), none⟩,
    ⟨.move .look (.t 0), (some 28), none⟩,
    ⟨.move .head (.p 7), (some 29), none⟩,
    ⟨.sliceSl 1 (.t 28) (some (.p 29)) none, (some 30), none⟩,
    ⟨.assign (.t 27), (some 4), none⟩,
    ⟨.assign (.t 30), (some 5), none⟩,
    ⟨.assign (.c (.bool true)), (some 6), none⟩]
@[simp] def eq69_0 := id q69_0.eq_1
def q69_1 : List AOper :=
  [⟨.move .take (.t 0), (some 24), none⟩,
    ⟨.assign (.c (.slice .nil 0 1 [])), (some 4), none⟩,
    ⟨.assign (.t 24), (some 5), none⟩,
    ⟨.assign (.c (.bool false)), (some 6), none⟩]
@[simp] def eq69_1 := id q69_1.eq_1
def q69_2 : List AOper :=
  [⟨.move .look (.p 8), (some 15), none⟩,
    ⟨.un .not (.p 15), (some 16), none⟩,
    ⟨.move .look (.p 16), (some 17), none⟩,
    ⟨.move .look (.p 7), (some 18), (some (17, false))⟩,
    ⟨.convInt .i64 (.p 18), (some 19), (some (17, false))⟩,
    ⟨.move .head (.t 0), (some 20), (some (17, false))⟩,
    ⟨.len false (.p 20), (some 21), (some (17, false))⟩,
    ⟨.bin .gtr 1 false (.p 19) (.p 21), (some 22), (some (17, false))⟩,
    ⟨.pick (.p 17) (.c (.bool true)) (.p 22), (some 23), none⟩]
@[simp] def eq69_2 := id q69_2.eq_1
def q69_3 : List AOper :=
  [⟨.move .look (.t 0), (some 10), none⟩,
    ⟨.move .look (.p 1), (some 11), none⟩,
    ⟨.call 84 [(.t 10, false), (.p 11, false)], (some 12), none⟩,
    ⟨.move .look (.t 12), (some 9), none⟩,
    ⟨.extract 9 0, (some 13), none⟩,
    ⟨.extract 9 1, (some 14), none⟩,
    ⟨.assign (.p 13), (some 7), none⟩,
    ⟨.assign (.p 14), (some 8), none⟩]
@[simp] def eq69_3 := id q69_3.eq_1
def q69_4 : List AOper :=
  [⟨.assign (.c (.slice .nil 0 1 [])), (some 4), none⟩,
    ⟨.assign (.c (.slice .nil 0 1 [])), (some 5), none⟩,
    ⟨.assign (.c (.bool false)), (some 6), none⟩]
@[simp] def eq69_4 := id q69_4.eq_1
def k69_0 : ACode :=
  .ops q69_0 .ret
@[simp] theorem xk69_0 : GoC fns Q s k69_0 st ↔ GoO fns Q s q69_0 .ret st := goC_ops
def k69_1 : ACode :=
  .ops q69_1 .ret
@[simp] theorem xk69_1 : GoC fns Q s k69_1 st ↔ GoO fns Q s q69_1 .ret st := goC_ops
def k69_2 : ACode :=
  .cond (.p 23) k69_1 .skip
@[simp] theorem xk69_2 : GoC fns Q s k69_2 st ↔ GB fns Q s (peek st (.p 23)) k69_1 .skip st := goC_cond
def k69_3 : ACode :=
  .seq k69_2 k69_0
@[simp] theorem xk69_3 : GoC fns Q s k69_3 st ↔ GoC fns Q (.sq k69_0 :: s) k69_2 st := goC_seq
def k69_4 : ACode :=
  .ops q69_2 k69_3
@[simp] theorem xk69_4 : GoC fns Q s k69_4 st ↔ GoO fns Q s q69_2 k69_3 st := goC_ops
def k69_5 : ACode :=
  .ops q69_3 k69_4
@[simp] theorem xk69_5 : GoC fns Q s k69_5 st ↔ GoO fns Q s q69_3 k69_4 st := goC_ops
def k69_6 : ACode :=
  .ops q69_4 k69_5
@[simp] theorem xk69_6 : GoC fns Q s k69_6 st ↔ GoO fns Q s q69_4 k69_5 st := goC_ops
def af69 : AFunc := ⟨31, k69_6, [.tmp 4, .tmp 5, .tmp 6], fun _ => none⟩

theorem ok69 : ∃ hs, pFunc Tryd.prog sg hs Tryd.f69 = some af69 := ⟨fun i => 0, by kernel_rfl⟩
/-- No. 83 -/
def q83_0 : List AOper :=
  [⟨.move .look (.p 1), (some 21), none⟩,
    ⟨.move .look (.t 7), (some 22), none⟩,
    ⟨.build [.int .u8 0, .slice .nil 0 1 []] [(0, 1, .p 21), (1, 1, .t 22)], (some 23), none⟩,
    ⟨.move .take (.t 8), (some 24), none⟩,
    ⟨.store 2 (.p 4) (.p 23), none, none⟩,
    ⟨.assign (.t 24), (some 5), none⟩,
    ⟨.assign (.c (.bool true)), (some 6), none⟩]
@[simp] def eq83_0 := id q83_0.eq_1
def q83_1 : List AOper :=
  [⟨.build [.int .u8 0, .slice .nil 0 1 []] [], (some 19), none⟩,
    ⟨.move .take (.t 0), (some 20), none⟩,
    ⟨.store 2 (.p 4) (.p 19), none, none⟩,
    ⟨.assign (.t 20), (some 5), none⟩,
    ⟨.assign (.c (.bool false)), (some 6), none⟩]
@[simp] def eq83_1 := id q83_1.eq_1
def q83_2 : List AOper :=
  [⟨.move .look (.p 9), (some 17), none⟩,
    ⟨.un .not (.p 17), (some 18), none⟩]
@[simp] def eq83_2 := id q83_2.eq_1
def q83_3 : List AOper :=
  [⟨.move .look (.t 0), (some 11), none⟩,
    ⟨.move .look (.p 1), (some 12), none⟩,
    ⟨.call 69 [(.t 11, false), (.p 12, false)], (some 13), none⟩,
    ⟨.move .look (.t 13), (some 10), none⟩,
    ⟨.extract 10 0, (some 14), none⟩,
    ⟨.extract 10 1, (some 15), none⟩,
    ⟨.extract 10 2, (some 16), none⟩,
    ⟨.assign (.t 14), (some 7), none⟩,
    ⟨.assign (.t 15), (some 8), none⟩,
    ⟨.assign (.p 16), (some 9), none⟩]
@[simp] def eq83_3 := id q83_3.eq_1
def q83_4 : List AOper :=
  [⟨.newbox 4 [.int .u8 0, .slice .nil 0 1 []], (some 4), none⟩,
    ⟨.assign (.c (.slice .nil 0 1 [])), (some 5), none⟩,
    ⟨.assign (.c (.bool false)), (some 6), none⟩]
@[simp] def eq83_4 := id q83_4.eq_1
def k83_0 : ACode :=
  .ops q83_0 .ret
@[simp] theorem xk83_0 : GoC fns Q s k83_0 st ↔ GoO fns Q s q83_0 .ret st := goC_ops
def k83_1 : ACode :=
  .ops q83_1 .ret
@[simp] theorem xk83_1 : GoC fns Q s k83_1 st ↔ GoO fns Q s q83_1 .ret st := goC_ops
def k83_2 : ACode :=
  .cond (.p 18) k83_1 .skip
@[simp] theorem xk83_2 : GoC fns Q s k83_2 st ↔ GB fns Q s (peek st (.p 18)) k83_1 .skip st := goC_cond
def k83_3 : ACode :=
  .seq k83_2 k83_0
@[simp] theorem xk83_3 : GoC fns Q s k83_3 st ↔ GoC fns Q (.sq k83_0 :: s) k83_2 st := goC_seq
def k83_4 : ACode :=
  .ops q83_2 k83_3
@[simp] theorem xk83_4 : GoC fns Q s k83_4 st ↔ GoO fns Q s q83_2 k83_3 st := goC_ops
def k83_5 : ACode :=
  .ops q83_3 k83_4
@[simp] theorem xk83_5 : GoC fns Q s k83_5 st ↔ GoO fns Q s q83_3 k83_4 st := goC_ops
def k83_6 : ACode :=
  .ops q83_4 k83_5
@[simp] theorem xk83_6 : GoC fns Q s k83_6 st ↔ GoO fns Q s q83_4 k83_5 st := goC_ops
def af83 : AFunc := ⟨25, k83_6, [.cell 4 true 2, .tmp 5, .tmp 6], fun _ => none⟩

theorem ok83 : ∃ hs, pFunc Tryd.prog sg hs Tryd.f83 = some af83 := ⟨fun i => 0, by kernel_rfl⟩
/-- No. 62 -/
def q62_0 : List AOper :=
  [⟨.load .take true 2 (.p 5), (some 39), none⟩,
    ⟨.store 2 (.p 2) (.p 39), none, none⟩,
    ⟨.assign (.c (.nilI)), (some 3), none⟩]
@[simp] def eq62_0 := id q62_0.eq_1
def q62_1 : List AOper :=
  [⟨.build [.int .u8 0, .slice .nil 0 1 []] [], (some 34), none⟩,
    ⟨.move .look (.t 0), (some 35), none⟩,
    ⟨.move .look (.t 6), (some 36), none⟩,
    ⟨.call 70 [(.t 35, false), (.t 36, false)], (some 37), none⟩,
    ⟨.mkIface 100 (.p 37), (some 38), none⟩,
    ⟨.store 2 (.p 2) (.p 34), none, none⟩,
    ⟨.assign (.p 38), (some 3), none⟩]
@[simp] def eq62_1 := id q62_1.eq_1
def q62_2 : List AOper :=
  [⟨.move .look (.p 7), (some 32), none⟩,
    ⟨.un .not (.p 32), (some 33), none⟩]
@[simp] def eq62_2 := id q62_2.eq_1
def q62_3 : List AOper :=
  [⟨.move .look (.t 0), (some 21), none⟩,
    ⟨.move .look (.p 4), (some 22), none⟩,
    ⟨.bin .add 1 true (.p 22) (.c (.int .i64 2)), (some 23), none⟩,
    ⟨.sliceSl 1 (.t 21) (some (.p 23)) none, (some 24), none⟩,
    ⟨.move .look (.t 0), (some 25), none⟩,
    ⟨.indexAddr 1 (.t 25) (.c (.int .i64 0)), (some 26), none⟩,
    ⟨.load .look false 1 (.p 26), (some 27), none⟩,
    ⟨.call 83 [(.t 24, false), (.p 27, false)], (some 28), none⟩,
    ⟨.move .look (.t 28), (some 20), none⟩,
    ⟨.extract 20 0, (some 29), none⟩,
    ⟨.extract 20 1, (some 30), none⟩,
    ⟨.extract 20 2, (some 31), none⟩,
    ⟨.newbox1 5 [.int .u8 0, .slice .nil 0 1 []], (some 5), none⟩,
    ⟨.store 2 (.p 5) (.p 29), none, none⟩,
    ⟨.assign (.t 30), (some 6), none⟩,
    ⟨.assign (.p 31), (some 7), none⟩]
@[simp] def eq62_3 := id q62_3.eq_1
def q62_4 : List AOper :=
  [⟨.build [.int .u8 0, .slice .nil 0 1 []] [], (some 18), none⟩,
    ⟨.mkIface 102 (.c (.str [101, 108, 101, 109, 101, 110, 116, 32, 105, 115, 32, 109, 105, 115, 115, 105, 110, 103, 32, 107, 101, 121])), (some 19), none⟩,
    ⟨.store 2 (.p 2) (.p 18), none, none⟩,
    ⟨.assign (.p 19), (some 3), none⟩]
@[simp] def eq62_4 := id q62_4.eq_1
def q62_5 : List AOper :=
  [⟨.move .head (.p 4), (some 16), none⟩,
    ⟨.bin .eql 1 true (.p 16) (.c (.int .i64 (-1))), (some 17), none⟩]
@[simp] def eq62_5 := id q62_5.eq_1
def q62_6 : List AOper :=
  [⟨.move .look (.t 0), (some 13), none⟩,
    ⟨.sliceSl 1 (.t 13) (some (.c (.int .i64 1))) none, (some 14), none⟩,
    ⟨.call 82 [(.t 14, false), (.c (.int .u8 0), false)], (some 15), none⟩,
    ⟨.assign (.p 15), (some 4), none⟩]
@[simp] def eq62_6 := id q62_6.eq_1
def q62_7 : List AOper :=
  [⟨.build [.int .u8 0, .slice .nil 0 1 []] [], (some 11), none⟩,
    ⟨.mkIface 102 (.c (.str [101, 108, 101, 109, 101, 110, 116, 32, 105, 115, 32, 109, 105, 115, 115, 105, 110, 103, 32, 116, 121, 112, 101])), (some 12), none⟩,
    ⟨.store 2 (.p 2) (.p 11), none, none⟩,
    ⟨.assign (.p 12), (some 3), none⟩]
@[simp] def eq62_7 := id q62_7.eq_1
def q62_8 : List AOper :=
  [⟨.move .head (.t 0), (some 8), none⟩,
    ⟨.len false (.p 8), (some 9), none⟩,
    ⟨.bin .eql 1 true (.p 9) (.c (.int .i64 0)), (some 10), none⟩]
@[simp] def eq62_8 := id q62_8.eq_1
def q62_9 : List AOper :=
  [⟨.newbox 2 [.int .u8 0, .slice .nil 0 1 []], (some 2), none⟩,
    ⟨.assign (.c (.nilI)), (some 3), none⟩]
@[simp] def eq62_9 := id q62_9.eq_1
def k62_0 : ACode :=
  .ops q62_0 .ret
@[simp] theorem xk62_0 : GoC fns Q s k62_0 st ↔ GoO fns Q s q62_0 .ret st := goC_ops
def k62_1 : ACode :=
  .ops q62_1 .ret
@[simp] theorem xk62_1 : GoC fns Q s k62_1 st ↔ GoO fns Q s q62_1 .ret st := goC_ops
def k62_2 : ACode :=
  .cond (.p 33) k62_1 .skip
@[simp] theorem xk62_2 : GoC fns Q s k62_2 st ↔ GB fns Q s (peek st (.p 33)) k62_1 .skip st := goC_cond
def k62_3 : ACode :=
  .seq k62_2 k62_0
@[simp] theorem xk62_3 : GoC fns Q s k62_3 st ↔ GoC fns Q (.sq k62_0 :: s) k62_2 st := goC_seq
def k62_4 : ACode :=
  .ops q62_2 k62_3
@[simp] theorem xk62_4 : GoC fns Q s k62_4 st ↔ GoO fns Q s q62_2 k62_3 st := goC_ops
def k62_5 : ACode :=
  .ops q62_3 k62_4
@[simp] theorem xk62_5 : GoC fns Q s k62_5 st ↔ GoO fns Q s q62_3 k62_4 st := goC_ops
def k62_6 : ACode :=
  .ops q62_4 .ret
@[simp] theorem xk62_6 : GoC fns Q s k62_6 st ↔ GoO fns Q s q62_4 .ret st := goC_ops
def k62_7 : ACode :=
  .cond (.p 17) k62_6 .skip
@[simp] theorem xk62_7 : GoC fns Q s k62_7 st ↔ GB fns Q s (peek st (.p 17)) k62_6 .skip st := goC_cond
def k62_8 : ACode :=
  .seq k62_7 k62_5
@[simp] theorem xk62_8 : GoC fns Q s k62_8 st ↔ GoC fns Q (.sq k62_5 :: s) k62_7 st := goC_seq
def k62_9 : ACode :=
  .ops q62_5 k62_8
@[simp] theorem xk62_9 : GoC fns Q s k62_9 st ↔ GoO fns Q s q62_5 k62_8 st := goC_ops
def k62_10 : ACode :=
  .ops q62_6 k62_9
@[simp] theorem xk62_10 : GoC fns Q s k62_10 st ↔ GoO fns Q s q62_6 k62_9 st := goC_ops
def k62_11 : ACode :=
  .ops q62_7 .ret
@[simp] theorem xk62_11 : GoC fns Q s k62_11 st ↔ GoO fns Q s q62_7 .ret st := goC_ops
def k62_12 : ACode :=
  .cond (.p 10) k62_11 .skip
@[simp] theorem xk62_12 : GoC fns Q s k62_12 st ↔ GB fns Q s (peek st (.p 10)) k62_11 .skip st := goC_cond
def k62_13 : ACode :=
  .seq k62_12 k62_10
@[simp] theorem xk62_13 : GoC fns Q s k62_13 st ↔ GoC fns Q (.sq k62_10 :: s) k62_12 st := goC_seq
def k62_14 : ACode :=
  .ops q62_8 k62_13
@[simp] theorem xk62_14 : GoC fns Q s k62_14 st ↔ GoO fns Q s q62_8 k62_13 st := goC_ops
def k62_15 : ACode :=
  .ops q62_9 k62_14
@[simp] theorem xk62_15 : GoC fns Q s k62_15 st ↔ GoO fns Q s q62_9 k62_14 st := goC_ops
def af62 : AFunc := ⟨40, k62_15, [.cell 2 true 2, .tmp 3], fun _ => none⟩

theorem ok62 : ∃ hs, pFunc Tryd.prog sg hs Tryd.f62 = some af62 := ⟨fun i => if i == 5 then 4 else 0, by kernel_rfl⟩
/-- No. 74 -/
def q74_0 : List AOper :=
  [⟨.load .take true 2 (.p 3), (some 10), none⟩,
    ⟨.store 2 (.p 2) (.p 10), none, none⟩]
@[simp] def eq74_0 := id q74_0.eq_1
def q74_1 : List AOper :=
  [⟨.move .look (.t 0), (some 6), none⟩,
    ⟨.call 62 [(.t 6, false)], (some 7), none⟩,
    ⟨.move .look (.t 7), (some 5), none⟩,
    ⟨.extract 5 0, (some 8), none⟩,
    ⟨.extract 5 1, (some 9), none⟩,
    ⟨.newbox 3 [.int .u8 0, .slice .nil 0 1 []], (some 3), none⟩,
    ⟨.store 2 (.p 3) (.p 8), none, none⟩,
    ⟨.assign (.p 9), (some 4), none⟩]
@[simp] def eq74_1 := id q74_1.eq_1
def k74_0 : ACode :=
  .ops q74_0 .ret
@[simp] theorem xk74_0 : GoC fns Q s k74_0 st ↔ GoO fns Q s q74_0 .ret st := goC_ops
def k74_1 : ACode :=
  .ops q74_1 k74_0
@[simp] theorem xk74_1 : GoC fns Q s k74_1 st ↔ GoO fns Q s q74_1 k74_0 st := goC_ops
def k74_2 : ACode :=
  .ops [⟨.newbox 2 [.int .u8 0, .slice .nil 0 1 []], (some 2), none⟩] k74_1
@[simp] theorem xk74_2 : GoC fns Q s k74_2 st ↔ GoO fns Q s [⟨.newbox 2 [.int .u8 0, .slice .nil 0 1 []], (some 2), none⟩] k74_1 st := goC_ops
def af74 : AFunc := ⟨11, k74_2, [.cell 2 true 2], fun _ => none⟩

theorem ok74 : ∃ hs, pFunc Tryd.prog sg hs Tryd.f74 = some af74 := ⟨fun i => 0, by kernel_rfl⟩
/-- No. 90 -/
def q90_0 : List AOper :=
  [⟨.move .look (.t 0), (some 26), none⟩,
    ⟨.move .head (.p 5), (some 27), none⟩,
    ⟨.sliceSl 1 (.t 26) none (some (.p 27)), (some 28), none⟩,
    ⟨.move .look (.t 0), (some 29), none⟩,
    ⟨.move .head (.p 5), (some 30), none⟩,
    ⟨.sliceSl 1 (.t 29) (some (.p 30)) none, (some 31), none⟩,
    ⟨.assign (.t 28), (some 2), none⟩,
    ⟨.assign (.t 31), (some 3), none⟩,
    ⟨.assign (.c (.bool true)), (some 4), none⟩]
@[simp] def eq90_0 := id q90_0.eq_1
def q90_1 : List AOper :=
  [⟨.move .take (.t 0), (some 25), none⟩,
    ⟨.assign (.c (.slice .nil 0 1 [])), (some 2), none⟩,
    ⟨.assign (.t 25), (some 3), none⟩,
    ⟨.assign (.c (.bool false)), (some 4), none⟩]
@[simp] def eq90_1 := id q90_1.eq_1
def q90_2 : List AOper :=
  [⟨.move .head (.t 0), (some 20), none⟩,
    ⟨.len false (.p 20), (some 21), none⟩,
    ⟨.move .look (.p 5), (some 22), none⟩,
    ⟨.convInt .i64 (.p 22), (some 23), none⟩,
    ⟨.bin .lss 1 false (.p 21) (.p 23), (some 24), none⟩]
@[simp] def eq90_2 := id q90_2.eq_1
def q90_3 : List AOper :=
  [⟨.move .take (.t 0), (some 19), none⟩,
    ⟨.assign (.c (.slice .nil 0 1 [])), (some 2), none⟩,
    ⟨.assign (.t 19), (some 3), none⟩,
    ⟨.assign (.c (.bool false)), (some 4), none⟩]
@[simp] def eq90_3 := id q90_3.eq_1
def q90_4 : List AOper :=
  [⟨.move .look (.p 5), (some 17), none⟩,
    ⟨.bin .lss 1 true (.p 17) (.c (.int .i32 4)), (some 18), none⟩]
@[simp] def eq90_4 := id q90_4.eq_1
def q90_5 : List AOper :=
  [⟨.move .take (.t 0), (some 16), none⟩,
    ⟨.assign (.c (.slice .nil 0 1 [])), (some 2), none⟩,
    ⟨.assign (.t 16), (some 3), none⟩,
    ⟨.assign (.c (.bool false)), (some 4), none⟩]
@[simp] def eq90_5 := id q90_5.eq_1
def q90_6 : List AOper :=
  [⟨.move .look (.p 7), (some 14), none⟩,
    ⟨.un .not (.p 14), (some 15), none⟩]
@[simp] def eq90_6 := id q90_6.eq_1
def q90_7 : List AOper :=
  [⟨.move .look (.t 0), (some 9), none⟩,
    ⟨.call 71 [(.t 9, false)], (some 10), none⟩,
    ⟨.move .look (.t 10), (some 8), none⟩,
    ⟨.extract 8 0, (some 11), none⟩,
    ⟨.extract 8 1, (some 12), none⟩,
    ⟨.extract 8 2, (some 13), none⟩,
    ⟨.assign (.p 11), (some 5), none⟩,
    ⟨.assign (.t 12), (some 6), none⟩,
    ⟨.assign (.p 13), (some 7), none⟩]
@[simp] def eq90_7 := id q90_7.eq_1
def q90_8 : List AOper :=
  [⟨.assign (.c (.slice .nil 0 1 [])), (some 2), none⟩,
    ⟨.assign (.c (.slice .nil 0 1 [])), (some 3), none⟩,
    ⟨.assign (.c (.bool false)), (some 4), none⟩]
@[simp] def eq90_8 := id q90_8.eq_1
def k90_0 : ACode :=
  .ops q90_0 .ret
@[simp] theorem xk90_0 : GoC fns Q s k90_0 st ↔ GoO fns Q s q90_0 .ret st := goC_ops
def k90_1 : ACode :=
  .ops q90_1 .ret
@[simp] theorem xk90_1 : GoC fns Q s k90_1 st ↔ GoO fns Q s q90_1 .ret st := goC_ops
def k90_2 : ACode :=
  .cond (.p 24) k90_1 .skip
@[simp] theorem xk90_2 : GoC fns Q s k90_2 st ↔ GB fns Q s (peek st (.p 24)) k90_1 .skip st := goC_cond
def k90_3 : ACode :=
  .seq k90_2 k90_0
@[simp] theorem xk90_3 : GoC fns Q s k90_3 st ↔ GoC fns Q (.sq k90_0 :: s) k90_2 st := goC_seq
def k90_4 : ACode :=
  .ops q90_2 k90_3
@[simp] theorem xk90_4 : GoC fns Q s k90_4 st ↔ GoO fns Q s q90_2 k90_3 st := goC_ops
def k90_5 : ACode :=
  .ops q90_3 .ret
@[simp] theorem xk90_5 : GoC fns Q s k90_5 st ↔ GoO fns Q s q90_3 .ret st := goC_ops
def k90_6 : ACode :=
  .cond (.p 18) k90_5 .skip
@[simp] theorem xk90_6 : GoC fns Q s k90_6 st ↔ GB fns Q s (peek st (.p 18)) k90_5 .skip st := goC_cond
def k90_7 : ACode :=
  .seq k90_6 k90_4
@[simp] theorem xk90_7 : GoC fns Q s k90_7 st ↔ GoC fns Q (.sq k90_4 :: s) k90_6 st := goC_seq
def k90_8 : ACode :=
  .ops q90_4 k90_7
@[simp] theorem xk90_8 : GoC fns Q s k90_8 st ↔ GoO fns Q s q90_4 k90_7 st := goC_ops
def k90_9 : ACode :=
  .ops q90_5 .ret
@[simp] theorem xk90_9 : GoC fns Q s k90_9 st ↔ GoO fns Q s q90_5 .ret st := goC_ops
def k90_10 : ACode :=
  .cond (.p 15) k90_9 .skip
@[simp] theorem xk90_10 : GoC fns Q s k90_10 st ↔ GB fns Q s (peek st (.p 15)) k90_9 .skip st := goC_cond
def k90_11 : ACode :=
  .seq k90_10 k90_8
@[simp] theorem xk90_11 : GoC fns Q s k90_11 st ↔ GoC fns Q (.sq k90_8 :: s) k90_10 st := goC_seq
def k90_12 : ACode :=
  .ops q90_6 k90_11
@[simp] theorem xk90_12 : GoC fns Q s k90_12 st ↔ GoO fns Q s q90_6 k90_11 st := goC_ops
def k90_13 : ACode :=
  .ops q90_7 k90_12
@[simp] theorem xk90_13 : GoC fns Q s k90_13 st ↔ GoO fns Q s q90_7 k90_12 st := goC_ops
def k90_14 : ACode :=
  .ops q90_8 k90_13
@[simp] theorem xk90_14 : GoC fns Q s k90_14 st ↔ GoO fns Q s q90_8 k90_13 st := goC_ops
def af90 : AFunc := ⟨32, k90_14, [.tmp 2, .tmp 3, .tmp 4], fun _ => none⟩

theorem ok90 : ∃ hs, pFunc Tryd.prog sg hs Tryd.f90 = some af90 := ⟨fun i => 0, by kernel_rfl⟩
/-- No. 86 -/
def q86_0 : List AOper :=
  [⟨.move .look (.t 0), (some 5), none⟩,
    ⟨.call 90 [(.t 5, false)], (some 6), none⟩,
    ⟨.extract 6 0, (some 7), none⟩,
    ⟨.extract 6 1, (some 8), none⟩,
    ⟨.extract 6 2, (some 9), none⟩,
    ⟨.assign (.t 7), (some 2), none⟩,
    ⟨.assign (.t 8), (some 3), none⟩,
    ⟨.assign (.p 9), (some 4), none⟩]
@[simp] def eq86_0 := id q86_0.eq_1
def q86_1 : List AOper :=
  [⟨.assign (.c (.slice .nil 0 1 [])), (some 2), none⟩,
    ⟨.assign (.c (.slice .nil 0 1 [])), (some 3), none⟩,
    ⟨.assign (.c (.bool false)), (some 4), none⟩]
@[simp] def eq86_1 := id q86_1.eq_1
def k86_0 : ACode :=
  .ops q86_0 .ret
@[simp] theorem xk86_0 : GoC fns Q s k86_0 st ↔ GoO fns Q s q86_0 .ret st := goC_ops
def k86_1 : ACode :=
  .ops q86_1 k86_0
@[simp] theorem xk86_1 : GoC fns Q s k86_1 st ↔ GoO fns Q s q86_1 k86_0 st := goC_ops
def af86 : AFunc := ⟨10, k86_1, [.tmp 2, .tmp 3, .tmp 4], fun _ => none⟩

theorem ok86 : ∃ hs, pFunc Tryd.prog sg hs Tryd.f86 = some af86 := ⟨fun i => 0, by kernel_rfl⟩
/-- No. 75 -/
def q75_0 : List AOper :=
  [⟨.move .take (.t 3), (some 28), none⟩,
    ⟨.assign (.t 28), (some 2), none⟩]
@[simp] def eq75_0 := id q75_0.eq_1
def q75_1 : List AOper :=
  [⟨.fieldAddr 1 (.p 1), (some 22), none⟩,
    ⟨.load .look false 1 (.p 22), (some 23), none⟩,
    ⟨.fieldAddr 1 (.p 1), (some 24), none⟩,
    ⟨.load .look false 1 (.p 24), (some 25), none⟩,
    ⟨.call 70 [(.t 23, false), (.t 25, false)], (some 26), none⟩,
    ⟨.mkIface 100 (.p 26), (some 27), none⟩,
    ⟨.dead, none, none⟩]
@[simp] def eq75_1 := id q75_1.eq_1
def q75_2 : List AOper :=
  [⟨.move .look (.p 5), (some 20), none⟩,
    ⟨.un .not (.p 20), (some 21), none⟩]
@[simp] def eq75_2 := id q75_2.eq_1
def q75_3 : List AOper :=
  [⟨.fieldAddr 1 (.p 1), (some 14), none⟩,
    ⟨.load .look false 1 (.p 14), (some 15), none⟩,
    ⟨.call 86 [(.t 15, false)], (some 16), none⟩,
    ⟨.move .look (.t 16), (some 13), none⟩,
    ⟨.extract 13 0, (some 17), none⟩,
    ⟨.extract 13 1, (some 18), none⟩,
    ⟨.extract 13 2, (some 19), none⟩,
    ⟨.assign (.t 17), (some 3), none⟩,
    ⟨.assign (.t 18), (some 4), none⟩,
    ⟨.assign (.p 19), (some 5), none⟩]
@[simp] def eq75_3 := id q75_3.eq_1
def q75_4 : List AOper :=
  [⟨.fieldAddr 0 (.p 1), (some 9), none⟩,
    ⟨.load .look false 1 (.p 9), (some 10), none⟩,
    ⟨.build [.str [], .int .u8 0] [(0, 1, .c (.str [98, 115, 111, 110, 99, 111, 114, 101, 46, 86, 97, 108, 117, 101, 46, 68, 111, 99, 117, 109, 101, 110, 116])), (1, 1, .p 10)], (some 11), none⟩,
    ⟨.mkIface 167 (.p 11), (some 12), none⟩,
    ⟨.dead, none, none⟩]
@[simp] def eq75_4 := id q75_4.eq_1
def q75_5 : List AOper :=
  [⟨.fieldAddr 0 (.p 1), (some 6), none⟩,
    ⟨.load .head false 1 (.p 6), (some 7), none⟩,
    ⟨.bin .neq 1 true (.p 7) (.c (.int .u8 3)), (some 8), none⟩]
@[simp] def eq75_5 := id q75_5.eq_1
def q75_6 : List AOper :=
  [⟨.box 1 (.p 0), (some 1), none⟩,
    ⟨.assign (.c (.slice .nil 0 1 [])), (some 2), none⟩]
@[simp] def eq75_6 := id q75_6.eq_1
def k75_0 : ACode :=
  .ops q75_0 .ret
@[simp] theorem xk75_0 : GoC fns Q s k75_0 st ↔ GoO fns Q s q75_0 .ret st := goC_ops
def k75_1 : ACode :=
  .ops q75_1 .skip
@[simp] theorem xk75_1 : GoC fns Q s k75_1 st ↔ GoO fns Q s q75_1 .skip st := goC_ops
def k75_2 : ACode :=
  .cond (.p 21) k75_1 .skip
@[simp] theorem xk75_2 : GoC fns Q s k75_2 st ↔ GB fns Q s (peek st (.p 21)) k75_1 .skip st := goC_cond
def k75_3 : ACode :=
  .seq k75_2 k75_0
@[simp] theorem xk75_3 : GoC fns Q s k75_3 st ↔ GoC fns Q (.sq k75_0 :: s) k75_2 st := goC_seq
def k75_4 : ACode :=
  .ops q75_2 k75_3
@[simp] theorem xk75_4 : GoC fns Q s k75_4 st ↔ GoO fns Q s q75_2 k75_3 st := goC_ops
def k75_5 : ACode :=
  .ops q75_3 k75_4
@[simp] theorem xk75_5 : GoC fns Q s k75_5 st ↔ GoO fns Q s q75_3 k75_4 st := goC_ops
def k75_6 : ACode :=
  .ops q75_4 .skip
@[simp] theorem xk75_6 : GoC fns Q s k75_6 st ↔ GoO fns Q s q75_4 .skip st := goC_ops
def k75_7 : ACode :=
  .cond (.p 8) k75_6 .skip
@[simp] theorem xk75_7 : GoC fns Q s k75_7 st ↔ GB fns Q s (peek st (.p 8)) k75_6 .skip st := goC_cond
def k75_8 : ACode :=
  .seq k75_7 k75_5
@[simp] theorem xk75_8 : GoC fns Q s k75_8 st ↔ GoC fns Q (.sq k75_5 :: s) k75_7 st := goC_seq
def k75_9 : ACode :=
  .ops q75_5 k75_8
@[simp] theorem xk75_9 : GoC fns Q s k75_9 st ↔ GoO fns Q s q75_5 k75_8 st := goC_ops
def k75_10 : ACode :=
  .ops q75_6 k75_9
@[simp] theorem xk75_10 : GoC fns Q s k75_10 st ↔ GoO fns Q s q75_6 k75_9 st := goC_ops
def af75 : AFunc := ⟨29, k75_10, [.tmp 2], fun _ => none⟩

theorem ok75 : ∃ hs, pFunc Tryd.prog sg hs Tryd.f75 = some af75 := ⟨fun i => 0, by kernel_rfl⟩
/-- No. 87 -/
def q87_0 : List AOper :=
  [⟨.move .look (.t 0), (some 5), none⟩,
    ⟨.call 90 [(.t 5, false)], (some 6), none⟩,
    ⟨.extract 6 0, (some 7), none⟩,
    ⟨.extract 6 1, (some 8), none⟩,
    ⟨.extract 6 2, (some 9), none⟩,
    ⟨.assign (.t 7), (some 2), none⟩,
    ⟨.assign (.t 8), (some 3), none⟩,
    ⟨.assign (.p 9), (some 4), none⟩]
@[simp] def eq87_0 := id q87_0.eq_1
def q87_1 : List AOper :=
  [⟨.assign (.c (.slice .nil 0 1 [])), (some 2), none⟩,
    ⟨.assign (.c (.slice .nil 0 1 [])), (some 3), none⟩,
    ⟨.assign (.c (.bool false)), (some 4), none⟩]
@[simp] def eq87_1 := id q87_1.eq_1
def k87_0 : ACode :=
  .ops q87_0 .ret
@[simp] theorem xk87_0 : GoC fns Q s k87_0 st ↔ GoO fns Q s q87_0 .ret st := goC_ops
def k87_1 : ACode :=
  .ops q87_1 k87_0
@[simp] theorem xk87_1 : GoC fns Q s k87_1 st ↔ GoO fns Q s q87_1 k87_0 st := goC_ops
def af87 : AFunc := ⟨10, k87_1, [.tmp 2, .tmp 3, .tmp 4], fun _ => none⟩

theorem ok87 : ∃ hs, pFunc Tryd.prog sg hs Tryd.f87 = some af87 := ⟨fun i => 0, by kernel_rfl⟩
/-- No. 76 -/
def q76_0 : List AOper :=
  [⟨.move .take (.t 3), (some 28), none⟩,
    ⟨.assign (.t 28), (some 2), none⟩]
@[simp] def eq76_0 := id q76_0.eq_1
def q76_1 : List AOper :=
  [⟨.fieldAddr 1 (.p 1), (some 22), none⟩,
    ⟨.load .look false 1 (.p 22), (some 23), none⟩,
    ⟨.fieldAddr 1 (.p 1), (some 24), none⟩,
    ⟨.load .look false 1 (.p 24), (some 25), none⟩,
    ⟨.call 70 [(.t 23, false), (.t 25, false)], (some 26), none⟩,
    ⟨.mkIface 100 (.p 26), (some 27), none⟩,
    ⟨.dead, none, none⟩]
@[simp] def eq76_1 := id q76_1.eq_1
def q76_2 : List AOper :=
  [⟨.move .look (.p 5), (some 20), none⟩,
    ⟨.un .not (.p 20), (some 21), none⟩]
@[simp] def eq76_2 := id q76_2.eq_1
def q76_3 : List AOper :=
  [⟨.fieldAddr 1 (.p 1), (some 14), none⟩,
    ⟨.load .look false 1 (.p 14), (some 15), none⟩,
    ⟨.call 87 [(.t 15, false)], (some 16), none⟩,
    ⟨.move .look (.t 16), (some 13), none⟩,
    ⟨.extract 13 0, (some 17), none⟩,
    ⟨.extract 13 1, (some 18), none⟩,
    ⟨.extract 13 2, (some 19), none⟩,
    ⟨.assign (.t 17), (some 3), none⟩,
    ⟨.assign (.t 18), (some 4), none⟩,
    ⟨.assign (.p 19), (some 5), none⟩]
@[simp] def eq76_3 := id q76_3.eq_1
def q76_4 : List AOper :=
  [⟨.fieldAddr 0 (.p 1), (some 9), none⟩,
    ⟨.load .look false 1 (.p 9), (some 10), none⟩,
    ⟨.build [.str [], .int .u8 0] [(0, 1, .c (.str [98, 115, 111, 110, 99, 111, 114, 101, 46, 86, 97, 108, 117, 101, 46, 65, 114, 114, 97, 121])), (1, 1, .p 10)], (some 11), none⟩,
    ⟨.mkIface 167 (.p 11), (some 12), none⟩,
    ⟨.dead, none, none⟩]
@[simp] def eq76_4 := id q76_4.eq_1
def q76_5 : List AOper :=
  [⟨.fieldAddr 0 (.p 1), (some 6), none⟩,
    ⟨.load .head false 1 (.p 6), (some 7), none⟩,
    ⟨.bin .neq 1 true (.p 7) (.c (.int .u8 4)), (some 8), none⟩]
@[simp] def eq76_5 := id q76_5.eq_1
def q76_6 : List AOper :=
  [⟨.box 1 (.p 0), (some 1), none⟩,
    ⟨.assign (.c (.slice .nil 0 1 [])), (some 2), none⟩]
@[simp] def eq76_6 := id q76_6.eq_1
def k76_0 : ACode :=
  .ops q76_0 .ret
@[simp] theorem xk76_0 : GoC fns Q s k76_0 st ↔ GoO fns Q s q76_0 .ret st := goC_ops
def k76_1 : ACode :=
  .ops q76_1 .skip
@[simp] theorem xk76_1 : GoC fns Q s k76_1 st ↔ GoO fns Q s q76_1 .skip st := goC_ops
def k76_2 : ACode :=
  .cond (.p 21) k76_1 .skip
@[simp] theorem xk76_2 : GoC fns Q s k76_2 st ↔ GB fns Q s (peek st (.p 21)) k76_1 .skip st := goC_cond
def k76_3 : ACode :=
  .seq k76_2 k76_0
@[simp] theorem xk76_3 : GoC fns Q s k76_3 st ↔ GoC fns Q (.sq k76_0 :: s) k76_2 st := goC_seq
def k76_4 : ACode :=
  .ops q76_2 k76_3
@[simp] theorem xk76_4 : GoC fns Q s k76_4 st ↔ GoO fns Q s q76_2 k76_3 st := goC_ops
def k76_5 : ACode :=
  .ops q76_3 k76_4
@[simp] theorem xk76_5 : GoC fns Q s k76_5 st ↔ GoO fns Q s q76_3 k76_4 st := goC_ops
def k76_6 : ACode :=
  .ops q76_4 .skip
@[simp] theorem xk76_6 : GoC fns Q s k76_6 st ↔ GoO fns Q s q76_4 .skip st := goC_ops
def k76_7 : ACode :=
  .cond (.p 8) k76_6 .skip
@[simp] theorem xk76_7 : GoC fns Q s k76_7 st ↔ GB fns Q s (peek st (.p 8)) k76_6 .skip st := goC_cond
def k76_8 : ACode :=
  .seq k76_7 k76_5
@[simp] theorem xk76_8 : GoC fns Q s k76_8 st ↔ GoC fns Q (.sq k76_5 :: s) k76_7 st := goC_seq
def k76_9 : ACode :=
  .ops q76_5 k76_8
@[simp] theorem xk76_9 : GoC fns Q s k76_9 st ↔ GoO fns Q s q76_5 k76_8 st := goC_ops
def k76_10 : ACode :=
  .ops q76_6 k76_9
@[simp] theorem xk76_10 : GoC fns Q s k76_10 st ↔ GoO fns Q s q76_6 k76_9 st := goC_ops
def af76 : AFunc := ⟨29, k76_10, [.tmp 2], fun _ => none⟩

theorem ok76 : ∃ hs, pFunc Tryd.prog sg hs Tryd.f76 = some af76 := ⟨fun i => 0, by kernel_rfl⟩
/-- No. 61 -/
def q61_0 : List AOper :=
  [⟨.move .look (.t 4), (some 11), none⟩,
    ⟨.convBS (.t 11), (some 12), none⟩,
    ⟨.move .take (.p 5), (some 13), none⟩,
    ⟨.assign (.p 12), (some 2), none⟩,
    ⟨.assign (.p 13), (some 3), none⟩]
@[simp] def eq61_0 := id q61_0.eq_1
def q61_1 : List AOper :=
  [⟨.move .look (.t 0), (some 7), none⟩,
    ⟨.call 81 [(.t 7, false)], (some 8), none⟩,
    ⟨.move .look (.t 8), (some 6), none⟩,
    ⟨.extract 6 0, (some 9), none⟩,
    ⟨.extract 6 1, (some 10), none⟩,
    ⟨.assign (.t 9), (some 4), none⟩,
    ⟨.assign (.p 10), (some 5), none⟩]
@[simp] def eq61_1 := id q61_1.eq_1
def q61_2 : List AOper :=
  [⟨.assign (.c (.str [])), (some 2), none⟩,
    ⟨.assign (.c (.nilI)), (some 3), none⟩]
@[simp] def eq61_2 := id q61_2.eq_1
def k61_0 : ACode :=
  .ops q61_0 .ret
@[simp] theorem xk61_0 : GoC fns Q s k61_0 st ↔ GoO fns Q s q61_0 .ret st := goC_ops
def k61_1 : ACode :=
  .ops q61_1 k61_0
@[simp] theorem xk61_1 : GoC fns Q s k61_1 st ↔ GoO fns Q s q61_1 k61_0 st := goC_ops
def k61_2 : ACode :=
  .ops q61_2 k61_1
@[simp] theorem xk61_2 : GoC fns Q s k61_2 st ↔ GoO fns Q s q61_2 k61_1 st := goC_ops
def af61 : AFunc := ⟨14, k61_2, [.tmp 2, .tmp 3], fun _ => none⟩

theorem ok61 : ∃ hs, pFunc Tryd.prog sg hs Tryd.f61 = some af61 := ⟨fun i => 0, by kernel_rfl⟩
/-- No. 77 -/
def q77_0 : List AOper :=
  [⟨.move .take (.p 3), (some 10), none⟩,
    ⟨.assign (.p 10), (some 2), none⟩]
@[simp] def eq77_0 := id q77_0.eq_1
def q77_1 : List AOper :=
  [⟨.move .look (.t 0), (some 6), none⟩,
    ⟨.call 61 [(.t 6, false)], (some 7), none⟩,
    ⟨.move .look (.t 7), (some 5), none⟩,
    ⟨.extract 5 0, (some 8), none⟩,
    ⟨.extract 5 1, (some 9), none⟩,
    ⟨.assign (.p 8), (some 3), none⟩,
    ⟨.assign (.p 9), (some 4), none⟩]
@[simp] def eq77_1 := id q77_1.eq_1
def k77_0 : ACode :=
  .ops q77_0 .ret
@[simp] theorem xk77_0 : GoC fns Q s k77_0 st ↔ GoO fns Q s q77_0 .ret st := goC_ops
def k77_1 : ACode :=
  .ops q77_1 k77_0
@[simp] theorem xk77_1 : GoC fns Q s k77_1 st ↔ GoO fns Q s q77_1 k77_0 st := goC_ops
def k77_2 : ACode :=
  .ops [⟨.assign (.c (.str [])), (some 2), none⟩] k77_1
@[simp] theorem xk77_2 : GoC fns Q s k77_2 st ↔ GoO fns Q s [⟨.assign (.c (.str [])), (some 2), none⟩] k77_1 st := goC_ops
def af77 : AFunc := ⟨11, k77_2, [.tmp 2], fun _ => none⟩

theorem ok77 : ∃ hs, pFunc Tryd.prog sg hs Tryd.f77 = some af77 := ⟨fun i => 0, by kernel_rfl⟩
/-- No. 55 -/
def q55_0 : List AOper :=
  [⟨.load .take false 1 (.c (.gl 1)), (some 112), none⟩,
    ⟨.build [.int .u8 0, .slice .nil 0 1 []] [], (some 111), none⟩,
    ⟨.store 2 (.p 4) (.p 111), none, none⟩,
    ⟨.assign (.p 112), (some 5), none⟩]
@[simp] def eq55_0 := id q55_0.eq_1
def q55_1 : List AOper :=
  [⟨.move .look (.t 9), (some 107), none⟩,
    ⟨.call 62 [(.t 107, false)], (some 108), none⟩,
    ⟨.extract 108 0, (some 109), none⟩,
    ⟨.extract 108 1, (some 110), none⟩,
    ⟨.store 2 (.p 4) (.p 109), none, none⟩,
    ⟨.assign (.p 110), (some 5), none⟩]
@[simp] def eq55_1 := id q55_1.eq_1
def q55_2 : List AOper :=
  [⟨.load .take true 2 (.p 11), (some 90), none⟩,
    ⟨.store 2 (.p 4) (.p 90), none, none⟩,
    ⟨.assign (.c (.nilI)), (some 5), none⟩]
@[simp] def eq55_2 := id q55_2.eq_1
def q55_3 : List AOper :=
  [⟨.build [.int .u8 0, .slice .nil 0 1 []] [], (some 88), none⟩,
    ⟨.move .take (.p 12), (some 89), none⟩,
    ⟨.store 2 (.p 4) (.p 88), none, none⟩,
    ⟨.assign (.p 89), (some 5), none⟩]
@[simp] def eq55_3 := id q55_3.eq_1
def q55_4 : List AOper :=
  [⟨.move .head (.p 12), (some 86), none⟩,
    ⟨.bin .neq 5 true (.p 86) (.c (.nilI)), (some 87), none⟩]
@[simp] def eq55_4 := id q55_4.eq_1
def q55_5 : List AOper :=
  [⟨.move .look (.t 9), (some 78), none⟩,
    ⟨.move .look (.t 1), (some 81), none⟩,
    ⟨.sliceSl 1 (.t 81) (some (.c (.int .i64 1))) none, (some 82), none⟩,
    ⟨.call 74 [(.t 78, false)], (some 79), none⟩,
    ⟨.call 75 [(.p 79, false)], (some 80), none⟩,
    ⟨.call 55 [(.t 80, false), (.t 82, false)], (some 83), none⟩,
    ⟨.move .look (.t 83), (some 77), none⟩,
    ⟨.extract 77 0, (some 84), none⟩,
    ⟨.extract 77 1, (some 85), none⟩,
    ⟨.newbox1 11 [.int .u8 0, .slice .nil 0 1 []], (some 11), none⟩,
    ⟨.store 2 (.p 11) (.p 84), none, none⟩,
    ⟨.assign (.p 85), (some 12), none⟩]
@[simp] def eq55_5 := id q55_5.eq_1
def q55_6 : List AOper :=
  [⟨.load .take true 2 (.p 13), (some 106), none⟩,
    ⟨.store 2 (.p 4) (.p 106), none, none⟩,
    ⟨.assign (.c (.nilI)), (some 5), none⟩]
@[simp] def eq55_6 := id q55_6.eq_1
def q55_7 : List AOper :=
  [⟨.build [.int .u8 0, .slice .nil 0 1 []] [], (some 104), none⟩,
    ⟨.move .take (.p 14), (some 105), none⟩,
    ⟨.store 2 (.p 4) (.p 104), none, none⟩,
    ⟨.assign (.p 105), (some 5), none⟩]
@[simp] def eq55_7 := id q55_7.eq_1
def q55_8 : List AOper :=
  [⟨.move .head (.p 14), (some 102), none⟩,
    ⟨.bin .neq 5 true (.p 102) (.c (.nilI)), (some 103), none⟩]
@[simp] def eq55_8 := id q55_8.eq_1
def q55_9 : List AOper :=
  [⟨.move .look (.t 9), (some 94), none⟩,
    ⟨.move .look (.t 1), (some 97), none⟩,
    ⟨.sliceSl 1 (.t 97) (some (.c (.int .i64 1))) none, (some 98), none⟩,
    ⟨.call 74 [(.t 94, false)], (some 95), none⟩,
    ⟨.call 76 [(.p 95, false)], (some 96), none⟩,
    ⟨.call 55 [(.t 96, false), (.t 98, false)], (some 99), none⟩,
    ⟨.move .look (.t 99), (some 93), none⟩,
    ⟨.extract 93 0, (some 100), none⟩,
    ⟨.extract 93 1, (some 101), none⟩,
    ⟨.newbox1 13 [.int .u8 0, .slice .nil 0 1 []], (some 13), none⟩,
    ⟨.store 2 (.p 13) (.p 100), none, none⟩,
    ⟨.assign (.p 101), (some 14), none⟩]
@[simp] def eq55_9 := id q55_9.eq_1
def q55_10 : List AOper :=
  [⟨.build [.int .u8 0, .slice .nil 0 1 []] [], (some 69), none⟩,
    ⟨.move .look (.t 9), (some 70), none⟩,
    ⟨.call 77 [(.t 70, false)], (some 71), none⟩,
    ⟨.move .look (.p 10), (some 72), none⟩,
    ⟨.build [.str [], .int .u8 0] [(0, 1, .p 71), (1, 1, .p 72)], (some 73), none⟩,
    ⟨.mkIface 105 (.p 73), (some 74), none⟩,
    ⟨.store 2 (.p 4) (.p 69), none, none⟩,
    ⟨.assign (.p 74), (some 5), none⟩]
@[simp] def eq55_10 := id q55_10.eq_1
def q55_11 : List AOper :=
  [⟨.bin .eql 1 true (.p 68) (.c (.int .u8 4)), (some 92), none⟩,
    ⟨.assign (.p 92), (some 91), none⟩]
@[simp] def eq55_11 := id q55_11.eq_1
def q55_12 : List AOper :=
  [⟨.bin .eql 1 true (.p 68) (.c (.int .u8 3)), (some 76), none⟩,
    ⟨.assign (.p 76), (some 75), none⟩]
@[simp] def eq55_12 := id q55_12.eq_1
def q55_13 : List AOper :=
  [⟨.move .look (.t 9), (some 65), none⟩,
    ⟨.indexAddr 1 (.t 65) (.c (.int .i64 0)), (some 66), none⟩,
    ⟨.load .take false 1 (.p 66), (some 67), none⟩,
    ⟨.assign (.p 67), (some 10), none⟩]
@[simp] def eq55_13 := id q55_13.eq_1
def q55_14 : List AOper :=
  [⟨.move .head (.t 1), (some 62), none⟩,
    ⟨.len false (.p 62), (some 63), none⟩,
    ⟨.bin .gtr 1 true (.p 63) (.c (.int .i64 1)), (some 64), none⟩]
@[simp] def eq55_14 := id q55_14.eq_1
def q55_15 : List AOper :=
  [⟨.move .look (.t 9), (some 55), none⟩,
    ⟨.move .look (.t 1), (some 58), none⟩,
    ⟨.indexAddr 1 (.t 58) (.c (.int .i64 0)), (some 59), none⟩,
    ⟨.load .head false 1 (.p 59), (some 60), none⟩,
    ⟨.call 73 [(.t 55, false)], (some 56), none⟩,
    ⟨.convBS (.t 56), (some 57), none⟩,
    ⟨.bin .neq 2 false (.p 57) (.p 60), (some 61), none⟩]
@[simp] def eq55_15 := id q55_15.eq_1
def q55_16 : List AOper :=
  [⟨.build [.int .u8 0, .slice .nil 0 1 []] [], (some 50), none⟩,
    ⟨.move .look (.t 0), (some 51), none⟩,
    ⟨.move .look (.t 7), (some 52), none⟩,
    ⟨.call 70 [(.t 51, false), (.t 52, false)], (some 53), none⟩,
    ⟨.mkIface 100 (.p 53), (some 54), none⟩,
    ⟨.store 2 (.p 4) (.p 50), none, none⟩,
    ⟨.assign (.p 54), (some 5), none⟩]
@[simp] def eq55_16 := id q55_16.eq_1
def q55_17 : List AOper :=
  [⟨.move .look (.p 8), (some 48), none⟩,
    ⟨.un .not (.p 48), (some 49), none⟩]
@[simp] def eq55_17 := id q55_17.eq_1
def q55_18 : List AOper :=
  [⟨.move .look (.p 6), (some 43), none⟩,
    ⟨.move .head (.t 9), (some 44), none⟩,
    ⟨.len false (.p 44), (some 45), none⟩,
    ⟨.convInt .i32 (.p 45), (some 46), none⟩,
    ⟨.bin .sub 1 false (.p 43) (.p 46), (some 47), none⟩,
    ⟨.assign (.p 47), (some 6), none⟩]
@[simp] def eq55_18 := id q55_18.eq_1
def q55_19 : List AOper :=
  [⟨.move .look (.t 7), (some 38), none⟩,
    ⟨.call 72 [(.t 38, false)], (some 39), none⟩,
    ⟨.move .look (.t 39), (some 37), none⟩,
    ⟨.extract 37 0, (some 40), none⟩,
    ⟨.extract 37 1, (some 41), none⟩,
    ⟨.extract 37 2, (some 42), none⟩,
    ⟨.assign (.t 40), (some 9), none⟩,
    ⟨.assign (.t 41), (some 7), none⟩,
    ⟨.assign (.p 42), (some 8), none⟩]
@[simp] def eq55_19 := id q55_19.eq_1
def q55_20 : List AOper :=
  [⟨.move .look (.p 6), (some 35), none⟩,
    ⟨.bin .gtr 1 true (.p 35) (.c (.int .i32 1)), (some 36), none⟩]
@[simp] def eq55_20 := id q55_20.eq_1
def q55_21 : List AOper :=
  [⟨.move .look (.p 6), (some 33), none⟩,
    ⟨.bin .sub 1 true (.p 33) (.c (.int .i32 4)), (some 34), none⟩,
    ⟨.assign (.p 34), (some 6), none⟩]
@[simp] def eq55_21 := id q55_21.eq_1
def q55_22 : List AOper :=
  [⟨.build [.int .u8 0, .slice .nil 0 1 []] [], (some 28), none⟩,
    ⟨.move .look (.t 0), (some 29), none⟩,
    ⟨.move .look (.t 7), (some 30), none⟩,
    ⟨.call 70 [(.t 29, false), (.t 30, false)], (some 31), none⟩,
    ⟨.mkIface 100 (.p 31), (some 32), none⟩,
    ⟨.store 2 (.p 4) (.p 28), none, none⟩,
    ⟨.assign (.p 32), (some 5), none⟩]
@[simp] def eq55_22 := id q55_22.eq_1
def q55_23 : List AOper :=
  [⟨.move .look (.p 8), (some 26), none⟩,
    ⟨.un .not (.p 26), (some 27), none⟩]
@[simp] def eq55_23 := id q55_23.eq_1
def q55_24 : List AOper :=
  [⟨.move .look (.t 0), (some 21), none⟩,
    ⟨.call 71 [(.t 21, false)], (some 22), none⟩,
    ⟨.move .look (.t 22), (some 20), none⟩,
    ⟨.extract 20 0, (some 23), none⟩,
    ⟨.extract 20 1, (some 24), none⟩,
    ⟨.extract 20 2, (some 25), none⟩,
    ⟨.assign (.p 23), (some 6), none⟩,
    ⟨.assign (.t 24), (some 7), none⟩,
    ⟨.assign (.p 25), (some 8), none⟩]
@[simp] def eq55_24 := id q55_24.eq_1
def q55_25 : List AOper :=
  [⟨.load .take false 1 (.c (.gl 2)), (some 19), none⟩,
    ⟨.build [.int .u8 0, .slice .nil 0 1 []] [], (some 18), none⟩,
    ⟨.store 2 (.p 4) (.p 18), none, none⟩,
    ⟨.assign (.p 19), (some 5), none⟩]
@[simp] def eq55_25 := id q55_25.eq_1
def q55_26 : List AOper :=
  [⟨.move .head (.t 1), (some 15), none⟩,
    ⟨.len false (.p 15), (some 16), none⟩,
    ⟨.bin .lss 1 true (.p 16) (.c (.int .i64 1)), (some 17), none⟩]
@[simp] def eq55_26 := id q55_26.eq_1
def q55_27 : List AOper :=
  [⟨.newbox 4 [.int .u8 0, .slice .nil 0 1 []], (some 4), none⟩,
    ⟨.assign (.c (.nilI)), (some 5), none⟩]
@[simp] def eq55_27 := id q55_27.eq_1
def k55_0 : ACode :=
  .ops q55_0 .ret
@[simp] theorem xk55_0 : GoC fns Q s k55_0 st ↔ GoO fns Q s q55_0 .ret st := goC_ops
def k55_1 : ACode :=
  .ops q55_1 .ret
@[simp] theorem xk55_1 : GoC fns Q s k55_1 st ↔ GoO fns Q s q55_1 .ret st := goC_ops
def k55_2 : ACode :=
  .ops q55_2 .ret
@[simp] theorem xk55_2 : GoC fns Q s k55_2 st ↔ GoO fns Q s q55_2 .ret st := goC_ops
def k55_3 : ACode :=
  .ops q55_3 .ret
@[simp] theorem xk55_3 : GoC fns Q s k55_3 st ↔ GoO fns Q s q55_3 .ret st := goC_ops
def k55_4 : ACode :=
  .cond (.p 87) k55_3 .skip
@[simp] theorem xk55_4 : GoC fns Q s k55_4 st ↔ GB fns Q s (peek st (.p 87)) k55_3 .skip st := goC_cond
def k55_5 : ACode :=
  .seq k55_4 k55_2
@[simp] theorem xk55_5 : GoC fns Q s k55_5 st ↔ GoC fns Q (.sq k55_2 :: s) k55_4 st := goC_seq
def k55_6 : ACode :=
  .ops q55_4 k55_5
@[simp] theorem xk55_6 : GoC fns Q s k55_6 st ↔ GoO fns Q s q55_4 k55_5 st := goC_ops
def k55_7 : ACode :=
  .ops q55_5 k55_6
@[simp] theorem xk55_7 : GoC fns Q s k55_7 st ↔ GoO fns Q s q55_5 k55_6 st := goC_ops
def k55_8 : ACode :=
  .ops q55_6 .ret
@[simp] theorem xk55_8 : GoC fns Q s k55_8 st ↔ GoO fns Q s q55_6 .ret st := goC_ops
def k55_9 : ACode :=
  .ops q55_7 .ret
@[simp] theorem xk55_9 : GoC fns Q s k55_9 st ↔ GoO fns Q s q55_7 .ret st := goC_ops
def k55_10 : ACode :=
  .cond (.p 103) k55_9 .skip
@[simp] theorem xk55_10 : GoC fns Q s k55_10 st ↔ GB fns Q s (peek st (.p 103)) k55_9 .skip st := goC_cond
def k55_11 : ACode :=
  .seq k55_10 k55_8
@[simp] theorem xk55_11 : GoC fns Q s k55_11 st ↔ GoC fns Q (.sq k55_8 :: s) k55_10 st := goC_seq
def k55_12 : ACode :=
  .ops q55_8 k55_11
@[simp] theorem xk55_12 : GoC fns Q s k55_12 st ↔ GoO fns Q s q55_8 k55_11 st := goC_ops
def k55_13 : ACode :=
  .ops q55_9 k55_12
@[simp] theorem xk55_13 : GoC fns Q s k55_13 st ↔ GoO fns Q s q55_9 k55_12 st := goC_ops
def k55_14 : ACode :=
  .ops q55_10 .ret
@[simp] theorem xk55_14 : GoC fns Q s k55_14 st ↔ GoO fns Q s q55_10 .ret st := goC_ops
def k55_15 : ACode :=
  .cond (.p 91) k55_13 k55_14
@[simp] theorem xk55_15 : GoC fns Q s k55_15 st ↔ GB fns Q s (peek st (.p 91)) k55_13 k55_14 st := goC_cond
def k55_16 : ACode :=
  .ops q55_11 k55_15
@[simp] theorem xk55_16 : GoC fns Q s k55_16 st ↔ GoO fns Q s q55_11 k55_15 st := goC_ops
def k55_17 : ACode :=
  .cond (.p 75) k55_7 k55_16
@[simp] theorem xk55_17 : GoC fns Q s k55_17 st ↔ GB fns Q s (peek st (.p 75)) k55_7 k55_16 st := goC_cond
def k55_18 : ACode :=
  .ops q55_12 k55_17
@[simp] theorem xk55_18 : GoC fns Q s k55_18 st ↔ GoO fns Q s q55_12 k55_17 st := goC_ops
def k55_19 : ACode :=
  .block 2 k55_18
@[simp] theorem xk55_19 : GoC fns Q s k55_19 st ↔ GoC fns Q (.bl 2 :: s) k55_18 st := goC_block
def k55_20 : ACode :=
  .ops [⟨.move .head (.p 10), (some 68), none⟩] k55_19
@[simp] theorem xk55_20 : GoC fns Q s k55_20 st ↔ GoO fns Q s [⟨.move .head (.p 10), (some 68), none⟩] k55_19 st := goC_ops
def k55_21 : ACode :=
  .ops q55_13 k55_20
@[simp] theorem xk55_21 : GoC fns Q s k55_21 st ↔ GoO fns Q s q55_13 k55_20 st := goC_ops
def k55_22 : ACode :=
  .cond (.p 64) k55_21 .skip
@[simp] theorem xk55_22 : GoC fns Q s k55_22 st ↔ GB fns Q s (peek st (.p 64)) k55_21 .skip st := goC_cond
def k55_23 : ACode :=
  .seq k55_22 k55_1
@[simp] theorem xk55_23 : GoC fns Q s k55_23 st ↔ GoC fns Q (.sq k55_1 :: s) k55_22 st := goC_seq
def k55_24 : ACode :=
  .ops q55_14 k55_23
@[simp] theorem xk55_24 : GoC fns Q s k55_24 st ↔ GoO fns Q s q55_14 k55_23 st := goC_ops
def k55_25 : ACode :=
  .cond (.p 61) (.exit 1) .skip
@[simp] theorem xk55_25 : GoC fns Q s k55_25 st ↔ GB fns Q s (peek st (.p 61)) (.exit 1) .skip st := goC_cond
def k55_26 : ACode :=
  .seq k55_25 k55_24
@[simp] theorem xk55_26 : GoC fns Q s k55_26 st ↔ GoC fns Q (.sq k55_24 :: s) k55_25 st := goC_seq
def k55_27 : ACode :=
  .ops q55_15 k55_26
@[simp] theorem xk55_27 : GoC fns Q s k55_27 st ↔ GoO fns Q s q55_15 k55_26 st := goC_ops
def k55_28 : ACode :=
  .ops q55_16 .ret
@[simp] theorem xk55_28 : GoC fns Q s k55_28 st ↔ GoO fns Q s q55_16 .ret st := goC_ops
def k55_29 : ACode :=
  .cond (.p 49) k55_28 .skip
@[simp] theorem xk55_29 : GoC fns Q s k55_29 st ↔ GB fns Q s (peek st (.p 49)) k55_28 .skip st := goC_cond
def k55_30 : ACode :=
  .seq k55_29 k55_27
@[simp] theorem xk55_30 : GoC fns Q s k55_30 st ↔ GoC fns Q (.sq k55_27 :: s) k55_29 st := goC_seq
def k55_31 : ACode :=
  .ops q55_17 k55_30
@[simp] theorem xk55_31 : GoC fns Q s k55_31 st ↔ GoO fns Q s q55_17 k55_30 st := goC_ops
def k55_32 : ACode :=
  .ops q55_18 k55_31
@[simp] theorem xk55_32 : GoC fns Q s k55_32 st ↔ GoO fns Q s q55_18 k55_31 st := goC_ops
def k55_33 : ACode :=
  .ops q55_19 k55_32
@[simp] theorem xk55_33 : GoC fns Q s k55_33 st ↔ GoO fns Q s q55_19 k55_32 st := goC_ops
def k55_34 : ACode :=
  .block 1 k55_33
@[simp] theorem xk55_34 : GoC fns Q s k55_34 st ↔ GoC fns Q (.bl 1 :: s) k55_33 st := goC_block
def k55_35 : ACode :=
  .cond (.p 36) .skip (.exit 0)
@[simp] theorem xk55_35 : GoC fns Q s k55_35 st ↔ GB fns Q s (peek st (.p 36)) .skip (.exit 0) st := goC_cond
def k55_36 : ACode :=
  .seq k55_35 k55_34
@[simp] theorem xk55_36 : GoC fns Q s k55_36 st ↔ GoC fns Q (.sq k55_34 :: s) k55_35 st := goC_seq
def k55_37 : ACode :=
  .ops q55_20 k55_36
@[simp] theorem xk55_37 : GoC fns Q s k55_37 st ↔ GoO fns Q s q55_20 k55_36 st := goC_ops
def lc55_0 : ACode :=
  k55_37
@[simp] theorem xlc55_0 : GoC fns Q s lc55_0 st ↔ GoC fns Q s k55_37 st := Iff.rfl
def k55_39 : ACode :=
  .loop lc55_0
@[simp] theorem xk55_39 : GoC fns Q s k55_39 st ↔ (LoopR fns lc55_0 st fun r => GoE fns Q s r.1 r.2) := goC_loop
def k55_40 : ACode :=
  .block 0 k55_39
@[simp] theorem xk55_40 : GoC fns Q s k55_40 st ↔ GoC fns Q (.bl 0 :: s) k55_39 st := goC_block
def k55_41 : ACode :=
  .seq k55_40 k55_0
@[simp] theorem xk55_41 : GoC fns Q s k55_41 st ↔ GoC fns Q (.sq k55_0 :: s) k55_40 st := goC_seq
def k55_42 : ACode :=
  .ops [⟨.assign (.c (.slice .nil 0 1 [])), (some 9), none⟩] k55_41
@[simp] theorem xk55_42 : GoC fns Q s k55_42 st ↔ GoO fns Q s [⟨.assign (.c (.slice .nil 0 1 [])), (some 9), none⟩] k55_41 st := goC_ops
def k55_43 : ACode :=
  .ops q55_21 k55_42
@[simp] theorem xk55_43 : GoC fns Q s k55_43 st ↔ GoO fns Q s q55_21 k55_42 st := goC_ops
def k55_44 : ACode :=
  .ops q55_22 .ret
@[simp] theorem xk55_44 : GoC fns Q s k55_44 st ↔ GoO fns Q s q55_22 .ret st := goC_ops
def k55_45 : ACode :=
  .cond (.p 27) k55_44 .skip
@[simp] theorem xk55_45 : GoC fns Q s k55_45 st ↔ GB fns Q s (peek st (.p 27)) k55_44 .skip st := goC_cond
def k55_46 : ACode :=
  .seq k55_45 k55_43
@[simp] theorem xk55_46 : GoC fns Q s k55_46 st ↔ GoC fns Q (.sq k55_43 :: s) k55_45 st := goC_seq
def k55_47 : ACode :=
  .ops q55_23 k55_46
@[simp] theorem xk55_47 : GoC fns Q s k55_47 st ↔ GoO fns Q s q55_23 k55_46 st := goC_ops
def k55_48 : ACode :=
  .ops q55_24 k55_47
@[simp] theorem xk55_48 : GoC fns Q s k55_48 st ↔ GoO fns Q s q55_24 k55_47 st := goC_ops
def k55_49 : ACode :=
  .ops q55_25 .ret
@[simp] theorem xk55_49 : GoC fns Q s k55_49 st ↔ GoO fns Q s q55_25 .ret st := goC_ops
def k55_50 : ACode :=
  .cond (.p 17) k55_49 .skip
@[simp] theorem xk55_50 : GoC fns Q s k55_50 st ↔ GB fns Q s (peek st (.p 17)) k55_49 .skip st := goC_cond
def k55_51 : ACode :=
  .seq k55_50 k55_48
@[simp] theorem xk55_51 : GoC fns Q s k55_51 st ↔ GoC fns Q (.sq k55_48 :: s) k55_50 st := goC_seq
def k55_52 : ACode :=
  .ops q55_26 k55_51
@[simp] theorem xk55_52 : GoC fns Q s k55_52 st ↔ GoO fns Q s q55_26 k55_51 st := goC_ops
def k55_53 : ACode :=
  .ops q55_27 k55_52
@[simp] theorem xk55_53 : GoC fns Q s k55_53 st ↔ GoO fns Q s q55_27 k55_52 st := goC_ops
def af55 : AFunc := ⟨113, k55_53, [.cell 4 true 2, .tmp 5], fun _ => none⟩

theorem ok55 : ∃ hs, pFunc Tryd.prog sg hs Tryd.f55 = some af55 := ⟨fun i => if i == 11 then 4 else if i == 13 then 4 else 0, by kernel_rfl⟩
/-- No. 56 -/
def q56_0 : List AOper :=
  [⟨.fieldAddr 0 (.p 1), (some 3), none⟩,
    ⟨.load .look false 1 (.p 3), (some 4), none⟩,
    ⟨.fieldAddr 1 (.p 1), (some 5), none⟩,
    ⟨.load .look false 1 (.p 5), (some 6), none⟩,
    ⟨.build [.int .u8 0, .slice .nil 0 1 []] [(0, 1, .p 4), (1, 1, .t 6)], (some 7), none⟩,
    ⟨.store 2 (.p 2) (.p 7), none, none⟩]
@[simp] def eq56_0 := id q56_0.eq_1
def q56_1 : List AOper :=
  [⟨.box 1 (.p 0), (some 1), none⟩,
    ⟨.newbox 2 [.int .u8 0, .slice .nil 0 1 []], (some 2), none⟩]
@[simp] def eq56_1 := id q56_1.eq_1
def k56_0 : ACode :=
  .ops q56_0 .ret
@[simp] theorem xk56_0 : GoC fns Q s k56_0 st ↔ GoO fns Q s q56_0 .ret st := goC_ops
def k56_1 : ACode :=
  .ops q56_1 k56_0
@[simp] theorem xk56_1 : GoC fns Q s k56_1 st ↔ GoO fns Q s q56_1 k56_0 st := goC_ops
def af56 : AFunc := ⟨8, k56_1, [.cell 2 true 2], fun _ => none⟩

theorem ok56 : ∃ hs, pFunc Tryd.prog sg hs Tryd.f56 = some af56 := ⟨fun i => 0, by kernel_rfl⟩
/-- No. 36 -/
def q36_0 : List AOper :=
  [⟨.load .look true 2 (.p 6), (some 14), none⟩,
    ⟨.call 56 [(.p 14, false)], (some 15), none⟩,
    ⟨.move .take (.p 7), (some 16), none⟩,
    ⟨.store 2 (.p 4) (.p 15), none, none⟩,
    ⟨.assign (.p 16), (some 5), none⟩]
@[simp] def eq36_0 := id q36_0.eq_1
def q36_1 : List AOper :=
  [⟨.move .look (.t 0), (some 9), none⟩,
    ⟨.move .look (.t 1), (some 10), none⟩,
    ⟨.call 55 [(.t 9, false), (.t 10, false)], (some 11), none⟩,
    ⟨.move .look (.t 11), (some 8), none⟩,
    ⟨.extract 8 0, (some 12), none⟩,
    ⟨.extract 8 1, (some 13), none⟩,
    ⟨.newbox 6 [.int .u8 0, .slice .nil 0 1 []], (some 6), none⟩,
    ⟨.store 2 (.p 6) (.p 12), none, none⟩,
    ⟨.assign (.p 13), (some 7), none⟩]
@[simp] def eq36_1 := id q36_1.eq_1
def q36_2 : List AOper :=
  [⟨.newbox 4 [.int .u8 0, .slice .nil 0 1 []], (some 4), none⟩,
    ⟨.assign (.c (.nilI)), (some 5), none⟩]
@[simp] def eq36_2 := id q36_2.eq_1
def k36_0 : ACode :=
  .ops q36_0 .ret
@[simp] theorem xk36_0 : GoC fns Q s k36_0 st ↔ GoO fns Q s q36_0 .ret st := goC_ops
def k36_1 : ACode :=
  .ops q36_1 k36_0
@[simp] theorem xk36_1 : GoC fns Q s k36_1 st ↔ GoO fns Q s q36_1 k36_0 st := goC_ops
def k36_2 : ACode :=
  .ops q36_2 k36_1
@[simp] theorem xk36_2 : GoC fns Q s k36_2 st ↔ GoO fns Q s q36_2 k36_1 st := goC_ops
def af36 : AFunc := ⟨17, k36_2, [.cell 4 true 2, .tmp 5], fun _ => none⟩

theorem ok36 : ∃ hs, pFunc Tryd.prog sg hs Tryd.f36 = some af36 := ⟨fun i => 0, by kernel_rfl⟩
/-- No. 40 -/
def q40_0 : List AOper :=
  [⟨.move .look (.t 0), (some 3), none⟩,
    ⟨.append 5 1 1 false (.c (.slice .nil 0 1 [])) (.p 3), (some 4), none⟩,
    ⟨.assign (.t 4), (some 2), none⟩]
@[simp] def eq40_0 := id q40_0.eq_1
def k40_0 : ACode :=
  .ops q40_0 .ret
@[simp] theorem xk40_0 : GoC fns Q s k40_0 st ↔ GoO fns Q s q40_0 .ret st := goC_ops
def k40_1 : ACode :=
  .ops [⟨.assign (.c (.slice .nil 0 1 [])), (some 2), none⟩] k40_0
@[simp] theorem xk40_1 : GoC fns Q s k40_1 st ↔ GoO fns Q s [⟨.assign (.c (.slice .nil 0 1 [])), (some 2), none⟩] k40_0 st := goC_ops
def af40 : AFunc := ⟨5, k40_1, [.tmp 2], fun _ => none⟩

theorem ok40 : ∃ hs, pFunc Tryd.prog sg hs Tryd.f40 = some af40 := ⟨fun i => 0, by kernel_rfl⟩
/-- No. 37 -/
def q37_0 : List AOper :=
  [⟨.fieldAddr 0 (.p 1), (some 3), none⟩,
    ⟨.load .look false 1 (.p 3), (some 4), none⟩,
    ⟨.convInt .i64 (.p 4), (some 5), none⟩,
    ⟨.fieldAddr 1 (.p 1), (some 6), none⟩,
    ⟨.load .look false 1 (.p 6), (some 7), none⟩,
    ⟨.call 40 [(.t 7, false)], (some 8), none⟩,
    ⟨.build [.int .i64 0, .slice .nil 0 1 []] [(0, 1, .p 5), (1, 1, .t 8)], (some 9), none⟩,
    ⟨.store 2 (.p 2) (.p 9), none, none⟩]
@[simp] def eq37_0 := id q37_0.eq_1
def q37_1 : List AOper :=
  [⟨.box 1 (.p 0), (some 1), none⟩,
    ⟨.newbox 2 [.int .i64 0, .slice .nil 0 1 []], (some 2), none⟩]
@[simp] def eq37_1 := id q37_1.eq_1
def k37_0 : ACode :=
  .ops q37_0 .ret
@[simp] theorem xk37_0 : GoC fns Q s k37_0 st ↔ GoO fns Q s q37_0 .ret st := goC_ops
def k37_1 : ACode :=
  .ops q37_1 k37_0
@[simp] theorem xk37_1 : GoC fns Q s k37_1 st ↔ GoO fns Q s q37_1 k37_0 st := goC_ops
def af37 : AFunc := ⟨10, k37_1, [.cell 2 true 2], fun _ => none⟩

theorem ok37 : ∃ hs, pFunc Tryd.prog sg hs Tryd.f37 = some af37 := ⟨fun i => 0, by kernel_rfl⟩
/-- No. 52 -/
def q52_0 : List AOper :=
  [⟨.move .look (.p 0), (some 18), none⟩,
    ⟨.move .look (.p 1), (some 19), none⟩,
    ⟨.move .look (.p 5), (some 20), none⟩,
    ⟨.call 68 [(.p 18, false), (.p 19, false), (.p 20, false)], (some 21), none⟩,
    ⟨.assign (.p 21), (some 4), none⟩]
@[simp] def eq52_0 := id q52_0.eq_1
def q52_1 : List AOper :=
  [⟨.move .look (.p 1), (some 15), none⟩,
    ⟨.call 67 [(.p 15, false)], (some 16), none⟩,
    ⟨.dead, (some 17), none⟩,
    ⟨.assign (.p 17), (some 5), none⟩]
@[simp] def eq52_1 := id q52_1.eq_1
def q52_2 : List AOper :=
  [⟨.move .head (.p 0), (some 12), none⟩,
    ⟨.move .head (.p 1), (some 13), none⟩,
    ⟨.bin .eql 5 false (.p 12) (.p 13), (some 14), none⟩,
    ⟨.assign (.p 14), (some 4), none⟩]
@[simp] def eq52_2 := id q52_2.eq_1
def q52_3 : List AOper :=
  [⟨.move .head (.p 0), (some 6), none⟩,
    ⟨.bin .eql 5 true (.p 6) (.c (.nilI)), (some 7), none⟩,
    ⟨.move .look (.p 7), (some 8), none⟩,
    ⟨.move .head (.p 1), (some 9), (some (8, false))⟩,
    ⟨.bin .eql 5 true (.p 9) (.c (.nilI)), (some 10), (some (8, false))⟩,
    ⟨.pick (.p 8) (.c (.bool true)) (.p 10), (some 11), none⟩]
@[simp] def eq52_3 := id q52_3.eq_1
def k52_0 : ACode :=
  .ops q52_0 .ret
@[simp] theorem xk52_0 : GoC fns Q s k52_0 st ↔ GoO fns Q s q52_0 .ret st := goC_ops
def k52_1 : ACode :=
  .ops q52_1 k52_0
@[simp] theorem xk52_1 : GoC fns Q s k52_1 st ↔ GoO fns Q s q52_1 k52_0 st := goC_ops
def k52_2 : ACode :=
  .ops q52_2 .ret
@[simp] theorem xk52_2 : GoC fns Q s k52_2 st ↔ GoO fns Q s q52_2 .ret st := goC_ops
def k52_3 : ACode :=
  .cond (.p 11) k52_2 .skip
@[simp] theorem xk52_3 : GoC fns Q s k52_3 st ↔ GB fns Q s (peek st (.p 11)) k52_2 .skip st := goC_cond
def k52_4 : ACode :=
  .seq k52_3 k52_1
@[simp] theorem xk52_4 : GoC fns Q s k52_4 st ↔ GoC fns Q (.sq k52_1 :: s) k52_3 st := goC_seq
def k52_5 : ACode :=
  .ops q52_3 k52_4
@[simp] theorem xk52_5 : GoC fns Q s k52_5 st ↔ GoO fns Q s q52_3 k52_4 st := goC_ops
def k52_6 : ACode :=
  .ops [⟨.assign (.c (.bool false)), (some 4), none⟩] k52_5
@[simp] theorem xk52_6 : GoC fns Q s k52_6 st ↔ GoO fns Q s [⟨.assign (.c (.bool false)), (some 4), none⟩] k52_5 st := goC_ops
def af52 : AFunc := ⟨22, k52_6, [.tmp 4], isX⟩

theorem ok52 : ∃ hs, pFunc Tryd.prog sg hs Tryd.f52 = some ⟨af52.n, af52.code, af52.res, fun _ => none⟩ := ⟨fun i => 0, by kernel_rfl⟩
/-- No. 31 -/
def q31_0 : List AOper :=
  [⟨.move .look (.p 0), (some 39), none⟩,
    ⟨.load .look false 1 (.c (.gl 3)), (some 40), none⟩,
    ⟨.call 52 [(.p 39, false), (.p 40, false)], (some 41), none⟩,
    ⟨.assign (.p 41), (some 38), none⟩]
@[simp] def eq31_0 := id q31_0.eq_1
def q31_1 : List AOper :=
  [⟨.move .look (.p 0), (some 35), none⟩,
    ⟨.load .look false 1 (.c (.gl 2)), (some 36), none⟩,
    ⟨.call 52 [(.p 35, false), (.p 36, false)], (some 37), none⟩,
    ⟨.assign (.p 37), (some 34), none⟩]
@[simp] def eq31_1 := id q31_1.eq_1
def q31_2 : List AOper :=
  [⟨.move .look (.p 0), (some 31), none⟩,
    ⟨.load .look false 1 (.c (.gl 1)), (some 32), none⟩,
    ⟨.call 52 [(.p 31, false), (.p 32, false)], (some 33), none⟩,
    ⟨.assign (.p 33), (some 27), none⟩]
@[simp] def eq31_2 := id q31_2.eq_1
def q31_3 : List AOper :=
  [⟨.move .look (.p 0), (some 28), none⟩,
    ⟨.load .look false 1 (.c (.gl 0)), (some 29), none⟩,
    ⟨.call 52 [(.p 28, false), (.p 29, false)], (some 30), none⟩,
    ⟨.assign (.p 30), (some 27), none⟩]
@[simp] def eq31_3 := id q31_3.eq_1
def q31_4 : List AOper :=
  [⟨.newbox 3 [.slice .nil 0 1 [], .slice .nil 0 1 []], (some 3), none⟩,
    ⟨.store 2 (.p 3) (.p 12), none, none⟩]
@[simp] def eq31_4 := id q31_4.eq_1
def q31_5 : List AOper :=
  [⟨.bin .eql 2 true (.p 16) (.c (.str [100, 111, 99, 117, 109, 101, 110, 116, 32, 111, 114, 32, 97, 114, 114, 97, 121, 32, 101, 110, 100, 32, 105, 115, 32, 109, 105, 115, 115, 105, 110, 103, 32, 110, 117, 108, 108, 32, 98, 121, 116, 101])), (some 20), none⟩,
    ⟨.assign (.p 20), (some 19), none⟩]
@[simp] def eq31_5 := id q31_5.eq_1
def q31_6 : List AOper :=
  [⟨.bin .eql 2 true (.p 16) (.c (.str [100, 111, 99, 117, 109, 101, 110, 116, 32, 111, 114, 32, 97, 114, 114, 97, 121, 32, 108, 101, 110, 103, 116, 104, 32, 105, 115, 32, 105, 110, 118, 97, 108, 105, 100])), (some 18), none⟩,
    ⟨.assign (.p 18), (some 17), none⟩]
@[simp] def eq31_6 := id q31_6.eq_1
def q31_7 : List AOper :=
  [⟨.newbox 6 [.str [], .int .u8 0], (some 6), none⟩,
    ⟨.store 2 (.p 6) (.p 26), none, none⟩]
@[simp] def eq31_7 := id q31_7.eq_1
def q31_8 : List AOper :=
  [⟨.px (.tassert 105 (.agg [.str [], .int .u8 0]) true) [.p 9], (some 24), none⟩,
    ⟨.extract 24 1, (some 25), none⟩,
    ⟨.extract 24 0, (some 26), none⟩]
@[simp] def eq31_8 := id q31_8.eq_1
def q31_9 : List AOper :=
  [⟨.px (.tassert 102 (.str []) true) [.p 9], (some 21), none⟩,
    ⟨.extract 21 1, (some 22), none⟩,
    ⟨.extract 21 0, (some 23), none⟩]
@[simp] def eq31_9 := id q31_9.eq_1
def q31_10 : List AOper :=
  [⟨.px (.tassert 101 (.str []) true) [.p 9], (some 13), none⟩,
    ⟨.extract 13 1, (some 14), none⟩,
    ⟨.extract 13 0, (some 15), none⟩]
@[simp] def eq31_10 := id q31_10.eq_1
def q31_11 : List AOper :=
  [⟨.px (.tassert 100 (.agg [.slice .nil 0 1 [], .slice .nil 0 1 []]) true) [.p 9], (some 10), none⟩,
    ⟨.extract 10 1, (some 11), none⟩,
    ⟨.extract 10 0, (some 12), none⟩]
@[simp] def eq31_11 := id q31_11.eq_1
def q31_12 : List AOper :=
  [⟨.move .head (.p 0), (some 7), none⟩,
    ⟨.bin .eql 5 true (.p 7) (.c (.nilI)), (some 8), none⟩]
@[simp] def eq31_12 := id q31_12.eq_1
def k31_0 : ACode :=
  .ops [⟨.assign (.c (.int .i64 9)), (some 2), none⟩] .ret
@[simp] theorem xk31_0 : GoC fns Q s k31_0 st ↔ GoO fns Q s [⟨.assign (.c (.int .i64 9)), (some 2), none⟩] .ret st := goC_ops
def k31_1 : ACode :=
  .ops [⟨.assign (.c (.int .i64 7)), (some 2), none⟩] .ret
@[simp] theorem xk31_1 : GoC fns Q s k31_1 st ↔ GoO fns Q s [⟨.assign (.c (.int .i64 7)), (some 2), none⟩] .ret st := goC_ops
def k31_2 : ACode :=
  .ops [⟨.assign (.c (.int .i64 8)), (some 2), none⟩] .ret
@[simp] theorem xk31_2 : GoC fns Q s k31_2 st ↔ GoO fns Q s [⟨.assign (.c (.int .i64 8)), (some 2), none⟩] .ret st := goC_ops
def k31_3 : ACode :=
  .ops [⟨.assign (.c (.int .i64 11)), (some 2), none⟩] .ret
@[simp] theorem xk31_3 : GoC fns Q s k31_3 st ↔ GoO fns Q s [⟨.assign (.c (.int .i64 11)), (some 2), none⟩] .ret st := goC_ops
def k31_4 : ACode :=
  .cond (.p 38) k31_3 .skip
@[simp] theorem xk31_4 : GoC fns Q s k31_4 st ↔ GB fns Q s (peek st (.p 38)) k31_3 .skip st := goC_cond
def k31_5 : ACode :=
  .ops q31_0 k31_4
@[simp] theorem xk31_5 : GoC fns Q s k31_5 st ↔ GoO fns Q s q31_0 k31_4 st := goC_ops
def k31_6 : ACode :=
  .cond (.p 34) k31_2 k31_5
@[simp] theorem xk31_6 : GoC fns Q s k31_6 st ↔ GB fns Q s (peek st (.p 34)) k31_2 k31_5 st := goC_cond
def k31_7 : ACode :=
  .ops q31_1 k31_6
@[simp] theorem xk31_7 : GoC fns Q s k31_7 st ↔ GoO fns Q s q31_1 k31_6 st := goC_ops
def k31_8 : ACode :=
  .cond (.p 27) k31_1 k31_7
@[simp] theorem xk31_8 : GoC fns Q s k31_8 st ↔ GB fns Q s (peek st (.p 27)) k31_1 k31_7 st := goC_cond
def k31_9 : ACode :=
  .ops q31_2 .skip
@[simp] theorem xk31_9 : GoC fns Q s k31_9 st ↔ GoO fns Q s q31_2 .skip st := goC_ops
def k31_10 : ACode :=
  .cond (.p 27) .skip k31_9
@[simp] theorem xk31_10 : GoC fns Q s k31_10 st ↔ GB fns Q s (peek st (.p 27)) .skip k31_9 st := goC_cond
def k31_11 : ACode :=
  .seq k31_10 k31_8
@[simp] theorem xk31_11 : GoC fns Q s k31_11 st ↔ GoC fns Q (.sq k31_8 :: s) k31_10 st := goC_seq
def k31_12 : ACode :=
  .ops q31_3 k31_11
@[simp] theorem xk31_12 : GoC fns Q s k31_12 st ↔ GoO fns Q s q31_3 k31_11 st := goC_ops
def k31_13 : ACode :=
  .block 2 k31_12
@[simp] theorem xk31_13 : GoC fns Q s k31_13 st ↔ GoC fns Q (.bl 2 :: s) k31_12 st := goC_block
def k31_14 : ACode :=
  .seq k31_13 k31_0
@[simp] theorem xk31_14 : GoC fns Q s k31_14 st ↔ GoC fns Q (.sq k31_0 :: s) k31_13 st := goC_seq
def k31_15 : ACode :=
  .ops [⟨.assign (.c (.int .i64 1)), (some 2), none⟩] .ret
@[simp] theorem xk31_15 : GoC fns Q s k31_15 st ↔ GoO fns Q s [⟨.assign (.c (.int .i64 1)), (some 2), none⟩] .ret st := goC_ops
def k31_16 : ACode :=
  .ops q31_4 k31_15
@[simp] theorem xk31_16 : GoC fns Q s k31_16 st ↔ GoO fns Q s q31_4 k31_15 st := goC_ops
def k31_17 : ACode :=
  .ops [⟨.assign (.c (.int .i64 4)), (some 2), none⟩] .ret
@[simp] theorem xk31_17 : GoC fns Q s k31_17 st ↔ GoO fns Q s [⟨.assign (.c (.int .i64 4)), (some 2), none⟩] .ret st := goC_ops
def k31_18 : ACode :=
  .ops [⟨.assign (.c (.int .i64 2)), (some 2), none⟩] .ret
@[simp] theorem xk31_18 : GoC fns Q s k31_18 st ↔ GoO fns Q s [⟨.assign (.c (.int .i64 2)), (some 2), none⟩] .ret st := goC_ops
def k31_19 : ACode :=
  .ops [⟨.assign (.c (.int .i64 3)), (some 2), none⟩] .ret
@[simp] theorem xk31_19 : GoC fns Q s k31_19 st ↔ GoO fns Q s [⟨.assign (.c (.int .i64 3)), (some 2), none⟩] .ret st := goC_ops
def k31_20 : ACode :=
  .cond (.p 19) k31_19 .skip
@[simp] theorem xk31_20 : GoC fns Q s k31_20 st ↔ GB fns Q s (peek st (.p 19)) k31_19 .skip st := goC_cond
def k31_21 : ACode :=
  .ops q31_5 k31_20
@[simp] theorem xk31_21 : GoC fns Q s k31_21 st ↔ GoO fns Q s q31_5 k31_20 st := goC_ops
def k31_22 : ACode :=
  .cond (.p 17) k31_18 k31_21
@[simp] theorem xk31_22 : GoC fns Q s k31_22 st ↔ GB fns Q s (peek st (.p 17)) k31_18 k31_21 st := goC_cond
def k31_23 : ACode :=
  .ops q31_6 k31_22
@[simp] theorem xk31_23 : GoC fns Q s k31_23 st ↔ GoO fns Q s q31_6 k31_22 st := goC_ops
def k31_24 : ACode :=
  .block 1 k31_23
@[simp] theorem xk31_24 : GoC fns Q s k31_24 st ↔ GoC fns Q (.bl 1 :: s) k31_23 st := goC_block
def k31_25 : ACode :=
  .seq k31_24 k31_17
@[simp] theorem xk31_25 : GoC fns Q s k31_25 st ↔ GoC fns Q (.sq k31_17 :: s) k31_24 st := goC_seq
def k31_26 : ACode :=
  .ops [⟨.move .head (.p 4), (some 16), none⟩] k31_25
@[simp] theorem xk31_26 : GoC fns Q s k31_26 st ↔ GoO fns Q s [⟨.move .head (.p 4), (some 16), none⟩] k31_25 st := goC_ops
def k31_27 : ACode :=
  .ops [⟨.assign (.p 15), (some 4), none⟩] k31_26
@[simp] theorem xk31_27 : GoC fns Q s k31_27 st ↔ GoO fns Q s [⟨.assign (.p 15), (some 4), none⟩] k31_26 st := goC_ops
def k31_28 : ACode :=
  .ops [⟨.assign (.c (.int .i64 5)), (some 2), none⟩] .ret
@[simp] theorem xk31_28 : GoC fns Q s k31_28 st ↔ GoO fns Q s [⟨.assign (.c (.int .i64 5)), (some 2), none⟩] .ret st := goC_ops
def k31_29 : ACode :=
  .ops [⟨.assign (.p 23), (some 5), none⟩] k31_28
@[simp] theorem xk31_29 : GoC fns Q s k31_29 st ↔ GoO fns Q s [⟨.assign (.p 23), (some 5), none⟩] k31_28 st := goC_ops
def k31_30 : ACode :=
  .ops [⟨.assign (.c (.int .i64 10)), (some 2), none⟩] .ret
@[simp] theorem xk31_30 : GoC fns Q s k31_30 st ↔ GoO fns Q s [⟨.assign (.c (.int .i64 10)), (some 2), none⟩] .ret st := goC_ops
def k31_31 : ACode :=
  .ops q31_7 k31_30
@[simp] theorem xk31_31 : GoC fns Q s k31_31 st ↔ GoO fns Q s q31_7 k31_30 st := goC_ops
def k31_32 : ACode :=
  .cond (.p 25) k31_31 .skip
@[simp] theorem xk31_32 : GoC fns Q s k31_32 st ↔ GB fns Q s (peek st (.p 25)) k31_31 .skip st := goC_cond
def k31_33 : ACode :=
  .ops q31_8 k31_32
@[simp] theorem xk31_33 : GoC fns Q s k31_33 st ↔ GoO fns Q s q31_8 k31_32 st := goC_ops
def k31_34 : ACode :=
  .cond (.p 22) k31_29 k31_33
@[simp] theorem xk31_34 : GoC fns Q s k31_34 st ↔ GB fns Q s (peek st (.p 22)) k31_29 k31_33 st := goC_cond
def k31_35 : ACode :=
  .ops q31_9 k31_34
@[simp] theorem xk31_35 : GoC fns Q s k31_35 st ↔ GoO fns Q s q31_9 k31_34 st := goC_ops
def k31_36 : ACode :=
  .cond (.p 14) k31_27 k31_35
@[simp] theorem xk31_36 : GoC fns Q s k31_36 st ↔ GB fns Q s (peek st (.p 14)) k31_27 k31_35 st := goC_cond
def k31_37 : ACode :=
  .ops q31_10 k31_36
@[simp] theorem xk31_37 : GoC fns Q s k31_37 st ↔ GoO fns Q s q31_10 k31_36 st := goC_ops
def k31_38 : ACode :=
  .cond (.p 11) k31_16 k31_37
@[simp] theorem xk31_38 : GoC fns Q s k31_38 st ↔ GB fns Q s (peek st (.p 11)) k31_16 k31_37 st := goC_cond
def k31_39 : ACode :=
  .ops q31_11 k31_38
@[simp] theorem xk31_39 : GoC fns Q s k31_39 st ↔ GoO fns Q s q31_11 k31_38 st := goC_ops
def k31_40 : ACode :=
  .block 0 k31_39
@[simp] theorem xk31_40 : GoC fns Q s k31_40 st ↔ GoC fns Q (.bl 0 :: s) k31_39 st := goC_block
def k31_41 : ACode :=
  .seq k31_40 k31_14
@[simp] theorem xk31_41 : GoC fns Q s k31_41 st ↔ GoC fns Q (.sq k31_14 :: s) k31_40 st := goC_seq
def k31_42 : ACode :=
  .ops [⟨.move .head (.p 0), (some 9), none⟩] k31_41
@[simp] theorem xk31_42 : GoC fns Q s k31_42 st ↔ GoO fns Q s [⟨.move .head (.p 0), (some 9), none⟩] k31_41 st := goC_ops
def k31_43 : ACode :=
  .ops [⟨.assign (.c (.int .i64 0)), (some 2), none⟩] .ret
@[simp] theorem xk31_43 : GoC fns Q s k31_43 st ↔ GoO fns Q s [⟨.assign (.c (.int .i64 0)), (some 2), none⟩] .ret st := goC_ops
def k31_44 : ACode :=
  .cond (.p 8) k31_43 .skip
@[simp] theorem xk31_44 : GoC fns Q s k31_44 st ↔ GB fns Q s (peek st (.p 8)) k31_43 .skip st := goC_cond
def k31_45 : ACode :=
  .seq k31_44 k31_42
@[simp] theorem xk31_45 : GoC fns Q s k31_45 st ↔ GoC fns Q (.sq k31_42 :: s) k31_44 st := goC_seq
def k31_46 : ACode :=
  .ops q31_12 k31_45
@[simp] theorem xk31_46 : GoC fns Q s k31_46 st ↔ GoO fns Q s q31_12 k31_45 st := goC_ops
def k31_47 : ACode :=
  .ops [⟨.assign (.c (.int .i64 0)), (some 2), none⟩] k31_46
@[simp] theorem xk31_47 : GoC fns Q s k31_47 st ↔ GoO fns Q s [⟨.assign (.c (.int .i64 0)), (some 2), none⟩] k31_46 st := goC_ops
def af31 : AFunc := ⟨42, k31_47, [.tmp 2], fun _ => none⟩

theorem ok31 : ∃ hs, pFunc Tryd.prog sg hs Tryd.f31 = some af31 := ⟨fun i => 0, by kernel_rfl⟩
/-- No. 14 -/
def q14_0 : List AOper :=
  [⟨.load .look true 2 (.p 6), (some 14), none⟩,
    ⟨.call 37 [(.p 14, false)], (some 15), none⟩,
    ⟨.move .look (.p 7), (some 16), none⟩,
    ⟨.call 31 [(.p 16, false)], (some 17), none⟩,
    ⟨.store 2 (.p 4) (.p 15), none, none⟩,
    ⟨.assign (.p 17), (some 5), none⟩]
@[simp] def eq14_0 := id q14_0.eq_1
def q14_1 : List AOper :=
  [⟨.move .look (.t 0), (some 9), none⟩,
    ⟨.move .look (.t 1), (some 10), none⟩,
    ⟨.call 36 [(.t 9, false), (.t 10, false)], (some 11), none⟩,
    ⟨.move .look (.t 11), (some 8), none⟩,
    ⟨.extract 8 0, (some 12), none⟩,
    ⟨.extract 8 1, (some 13), none⟩,
    ⟨.newbox 6 [.int .u8 0, .slice .nil 0 1 []], (some 6), none⟩,
    ⟨.store 2 (.p 6) (.p 12), none, none⟩,
    ⟨.assign (.p 13), (some 7), none⟩]
@[simp] def eq14_1 := id q14_1.eq_1
def q14_2 : List AOper :=
  [⟨.newbox 4 [.int .i64 0, .slice .nil 0 1 []], (some 4), none⟩,
    ⟨.assign (.c (.int .i64 0)), (some 5), none⟩]
@[simp] def eq14_2 := id q14_2.eq_1
def k14_0 : ACode :=
  .ops q14_0 .ret
@[simp] theorem xk14_0 : GoC fns Q s k14_0 st ↔ GoO fns Q s q14_0 .ret st := goC_ops
def k14_1 : ACode :=
  .ops q14_1 k14_0
@[simp] theorem xk14_1 : GoC fns Q s k14_1 st ↔ GoO fns Q s q14_1 k14_0 st := goC_ops
def k14_2 : ACode :=
  .ops q14_2 k14_1
@[simp] theorem xk14_2 : GoC fns Q s k14_2 st ↔ GoO fns Q s q14_2 k14_1 st := goC_ops
def af14 : AFunc := ⟨18, k14_2, [.cell 4 true 2, .tmp 5], fun _ => none⟩

theorem ok14 : ∃ hs, pFunc Tryd.prog sg hs Tryd.f14 = some af14 := ⟨fun i => 0, by kernel_rfl⟩
/-- No. 38 -/
def q38_0 : List AOper :=
  [⟨.move .look (.p 5), (some 10), none⟩,
    ⟨.bin .add 1 true (.p 10) (.c (.int .i64 1)), (some 11), none⟩,
    ⟨.assign (.p 11), (some 5), none⟩]
@[simp] def eq38_0 := id q38_0.eq_1
def q38_1 : List AOper :=
  [⟨.move .take (.p 5), (some 19), none⟩,
    ⟨.assign (.p 19), (some 4), none⟩]
@[simp] def eq38_1 := id q38_1.eq_1
def q38_2 : List AOper :=
  [⟨.move .look (.t 0), (some 12), none⟩,
    ⟨.move .look (.p 5), (some 13), none⟩,
    ⟨.indexAddr 9 (.t 12) (.p 13), (some 14), none⟩,
    ⟨.fieldAddr 0 (.p 14), (some 15), none⟩,
    ⟨.load .head false 1 (.p 15), (some 16), none⟩,
    ⟨.move .head (.p 1), (some 17), none⟩,
    ⟨.bin .eql 2 false (.p 16) (.p 17), (some 18), none⟩]
@[simp] def eq38_2 := id q38_2.eq_1
def q38_3 : List AOper :=
  [⟨.move .look (.p 5), (some 6), none⟩,
    ⟨.move .head (.t 0), (some 7), none⟩,
    ⟨.len false (.p 7), (some 8), none⟩,
    ⟨.bin .lss 1 false (.p 6) (.p 8), (some 9), none⟩]
@[simp] def eq38_3 := id q38_3.eq_1
def k38_0 : ACode :=
  .ops [⟨.assign (.c (.int .i64 (-1))), (some 4), none⟩] .ret
@[simp] theorem xk38_0 : GoC fns Q s k38_0 st ↔ GoO fns Q s [⟨.assign (.c (.int .i64 (-1))), (some 4), none⟩] .ret st := goC_ops
def k38_1 : ACode :=
  .ops q38_0 .skip
@[simp] theorem xk38_1 : GoC fns Q s k38_1 st ↔ GoO fns Q s q38_0 .skip st := goC_ops
def k38_2 : ACode :=
  .ops q38_1 .ret
@[simp] theorem xk38_2 : GoC fns Q s k38_2 st ↔ GoO fns Q s q38_1 .ret st := goC_ops
def k38_3 : ACode :=
  .cond (.p 18) k38_2 .skip
@[simp] theorem xk38_3 : GoC fns Q s k38_3 st ↔ GB fns Q s (peek st (.p 18)) k38_2 .skip st := goC_cond
def k38_4 : ACode :=
  .ops q38_2 k38_3
@[simp] theorem xk38_4 : GoC fns Q s k38_4 st ↔ GoO fns Q s q38_2 k38_3 st := goC_ops
def k38_5 : ACode :=
  .block 1 k38_4
@[simp] theorem xk38_5 : GoC fns Q s k38_5 st ↔ GoC fns Q (.bl 1 :: s) k38_4 st := goC_block
def k38_6 : ACode :=
  .seq k38_5 k38_1
@[simp] theorem xk38_6 : GoC fns Q s k38_6 st ↔ GoC fns Q (.sq k38_1 :: s) k38_5 st := goC_seq
def k38_7 : ACode :=
  .cond (.p 9) .skip (.exit 0)
@[simp] theorem xk38_7 : GoC fns Q s k38_7 st ↔ GB fns Q s (peek st (.p 9)) .skip (.exit 0) st := goC_cond
def k38_8 : ACode :=
  .seq k38_7 k38_6
@[simp] theorem xk38_8 : GoC fns Q s k38_8 st ↔ GoC fns Q (.sq k38_6 :: s) k38_7 st := goC_seq
def k38_9 : ACode :=
  .ops q38_3 k38_8
@[simp] theorem xk38_9 : GoC fns Q s k38_9 st ↔ GoO fns Q s q38_3 k38_8 st := goC_ops
def lc38_0 : ACode :=
  k38_9
@[simp] theorem xlc38_0 : GoC fns Q s lc38_0 st ↔ GoC fns Q s k38_9 st := Iff.rfl
def k38_11 : ACode :=
  .loop lc38_0
@[simp] theorem xk38_11 : GoC fns Q s k38_11 st ↔ (LoopR fns lc38_0 st fun r => GoE fns Q s r.1 r.2) := goC_loop
def k38_12 : ACode :=
  .block 0 k38_11
@[simp] theorem xk38_12 : GoC fns Q s k38_12 st ↔ GoC fns Q (.bl 0 :: s) k38_11 st := goC_block
def k38_13 : ACode :=
  .seq k38_12 k38_0
@[simp] theorem xk38_13 : GoC fns Q s k38_13 st ↔ GoC fns Q (.sq k38_0 :: s) k38_12 st := goC_seq
def k38_14 : ACode :=
  .ops [⟨.assign (.c (.int .i64 0)), (some 5), none⟩] k38_13
@[simp] theorem xk38_14 : GoC fns Q s k38_14 st ↔ GoO fns Q s [⟨.assign (.c (.int .i64 0)), (some 5), none⟩] k38_13 st := goC_ops
def k38_15 : ACode :=
  .ops [⟨.assign (.c (.int .i64 0)), (some 4), none⟩] k38_14
@[simp] theorem xk38_15 : GoC fns Q s k38_15 st ↔ GoO fns Q s [⟨.assign (.c (.int .i64 0)), (some 4), none⟩] k38_14 st := goC_ops
def af38 : AFunc := ⟨20, k38_15, [.tmp 4], fun _ => none⟩

theorem ok38 : ∃ hs, pFunc Tryd.prog sg hs Tryd.f38 = some af38 := ⟨fun i => 0, by kernel_rfl⟩
/-- No. 15 -/
def q15_0 : List AOper :=
  [⟨.load .take true 8 (.p 6), (some 42), none⟩,
    ⟨.store 8 (.p 4) (.p 42), none, none⟩,
    ⟨.assign (.c (.bool true)), (some 5), none⟩]
@[simp] def eq15_0 := id q15_0.eq_1
def q15_1 : List AOper :=
  [⟨.move .look (.p 7), (some 15), none⟩,
    ⟨.bin .add 1 true (.p 15) (.c (.int .i64 1)), (some 16), none⟩,
    ⟨.assign (.p 16), (some 7), none⟩]
@[simp] def eq15_1 := id q15_1.eq_1
def q15_2 : List AOper :=
  [⟨.fieldAddr 7 (.p 6), (some 36), none⟩,
    ⟨.load .look false 1 (.p 36), (some 37), none⟩,
    ⟨.move .look (.p 8), (some 38), none⟩,
    ⟨.indexAddr 9 (.t 37) (.p 38), (some 39), none⟩,
    ⟨.fieldAddr 1 (.p 39), (some 40), none⟩,
    ⟨.load .take true 8 (.p 40), (some 41), none⟩,
    ⟨.store 8 (.p 6) (.p 41), none, none⟩]
@[simp] def eq15_2 := id q15_2.eq_1
def q15_3 : List AOper :=
  [⟨.build [.int .i64 0, .str [], .str [], .int .i64 0, .int .u64 0, .int .u64 0, .slice .nil 0 1 [], .slice .nil 0 1 []] [], (some 35), none⟩,
    ⟨.store 8 (.p 4) (.p 35), none, none⟩,
    ⟨.assign (.c (.bool false)), (some 5), none⟩]
@[simp] def eq15_3 := id q15_3.eq_1
def q15_4 : List AOper :=
  [⟨.move .look (.p 8), (some 33), none⟩,
    ⟨.bin .lss 1 true (.p 33) (.c (.int .i64 0)), (some 34), none⟩]
@[simp] def eq15_4 := id q15_4.eq_1
def q15_5 : List AOper :=
  [⟨.fieldAddr 7 (.p 6), (some 26), none⟩,
    ⟨.load .look false 1 (.p 26), (some 27), none⟩,
    ⟨.move .look (.t 1), (some 28), none⟩,
    ⟨.move .look (.p 7), (some 29), none⟩,
    ⟨.indexAddr 1 (.t 28) (.p 29), (some 30), none⟩,
    ⟨.load .look false 1 (.p 30), (some 31), none⟩,
    ⟨.call 38 [(.t 27, false), (.p 31, false)], (some 32), none⟩,
    ⟨.assign (.p 32), (some 8), none⟩]
@[simp] def eq15_5 := id q15_5.eq_1
def q15_6 : List AOper :=
  [⟨.build [.int .i64 0, .str [], .str [], .int .i64 0, .int .u64 0, .int .u64 0, .slice .nil 0 1 [], .slice .nil 0 1 []] [], (some 25), none⟩,
    ⟨.store 8 (.p 4) (.p 25), none, none⟩,
    ⟨.assign (.c (.bool false)), (some 5), none⟩]
@[simp] def eq15_6 := id q15_6.eq_1
def q15_7 : List AOper :=
  [⟨.fieldAddr 0 (.p 6), (some 17), none⟩,
    ⟨.load .head false 1 (.p 17), (some 18), none⟩,
    ⟨.bin .neq 1 true (.p 18) (.c (.int .i64 3)), (some 19), none⟩,
    ⟨.move .look (.p 19), (some 20), none⟩,
    ⟨.fieldAddr 0 (.p 6), (some 21), (some (20, true))⟩,
    ⟨.load .head false 1 (.p 21), (some 22), (some (20, true))⟩,
    ⟨.bin .neq 1 true (.p 22) (.c (.int .i64 4)), (some 23), (some (20, true))⟩,
    ⟨.pick (.p 20) (.p 23) (.c (.bool false)), (some 24), none⟩]
@[simp] def eq15_7 := id q15_7.eq_1
def q15_8 : List AOper :=
  [⟨.move .look (.p 7), (some 11), none⟩,
    ⟨.move .head (.t 1), (some 12), none⟩,
    ⟨.len false (.p 12), (some 13), none⟩,
    ⟨.bin .lss 1 false (.p 11) (.p 13), (some 14), none⟩]
@[simp] def eq15_8 := id q15_8.eq_1
def q15_9 : List AOper :=
  [⟨.move .look (.t 0), (some 9), none⟩,
    ⟨.build [.int .i64 0, .str [], .str [], .int .i64 0, .int .u64 0, .int .u64 0, .slice .nil 0 1 [], .slice .nil 0 1 []] [(0, 1, .c (.int .i64 3)), (7, 1, .t 9)], (some 10), none⟩,
    ⟨.newbox 6 [.int .i64 0, .str [], .str [], .int .i64 0, .int .u64 0, .int .u64 0, .slice .nil 0 1 [], .slice .nil 0 1 []], (some 6), none⟩,
    ⟨.store 8 (.p 6) (.p 10), none, none⟩]
@[simp] def eq15_9 := id q15_9.eq_1
def q15_10 : List AOper :=
  [⟨.newbox 4 [.int .i64 0, .str [], .str [], .int .i64 0, .int .u64 0, .int .u64 0, .slice .nil 0 1 [], .slice .nil 0 1 []], (some 4), none⟩,
    ⟨.assign (.c (.bool false)), (some 5), none⟩]
@[simp] def eq15_10 := id q15_10.eq_1
def k15_0 : ACode :=
  .ops q15_0 .ret
@[simp] theorem xk15_0 : GoC fns Q s k15_0 st ↔ GoO fns Q s q15_0 .ret st := goC_ops
def k15_1 : ACode :=
  .ops q15_1 .skip
@[simp] theorem xk15_1 : GoC fns Q s k15_1 st ↔ GoO fns Q s q15_1 .skip st := goC_ops
def k15_2 : ACode :=
  .ops q15_2 .skip
@[simp] theorem xk15_2 : GoC fns Q s k15_2 st ↔ GoO fns Q s q15_2 .skip st := goC_ops
def k15_3 : ACode :=
  .ops q15_3 .ret
@[simp] theorem xk15_3 : GoC fns Q s k15_3 st ↔ GoO fns Q s q15_3 .ret st := goC_ops
def k15_4 : ACode :=
  .cond (.p 34) k15_3 .skip
@[simp] theorem xk15_4 : GoC fns Q s k15_4 st ↔ GB fns Q s (peek st (.p 34)) k15_3 .skip st := goC_cond
def k15_5 : ACode :=
  .seq k15_4 k15_2
@[simp] theorem xk15_5 : GoC fns Q s k15_5 st ↔ GoC fns Q (.sq k15_2 :: s) k15_4 st := goC_seq
def k15_6 : ACode :=
  .ops q15_4 k15_5
@[simp] theorem xk15_6 : GoC fns Q s k15_6 st ↔ GoO fns Q s q15_4 k15_5 st := goC_ops
def k15_7 : ACode :=
  .ops q15_5 k15_6
@[simp] theorem xk15_7 : GoC fns Q s k15_7 st ↔ GoO fns Q s q15_5 k15_6 st := goC_ops
def k15_8 : ACode :=
  .ops q15_6 .ret
@[simp] theorem xk15_8 : GoC fns Q s k15_8 st ↔ GoO fns Q s q15_6 .ret st := goC_ops
def k15_9 : ACode :=
  .cond (.p 24) k15_8 .skip
@[simp] theorem xk15_9 : GoC fns Q s k15_9 st ↔ GB fns Q s (peek st (.p 24)) k15_8 .skip st := goC_cond
def k15_10 : ACode :=
  .seq k15_9 k15_7
@[simp] theorem xk15_10 : GoC fns Q s k15_10 st ↔ GoC fns Q (.sq k15_7 :: s) k15_9 st := goC_seq
def k15_11 : ACode :=
  .ops q15_7 k15_10
@[simp] theorem xk15_11 : GoC fns Q s k15_11 st ↔ GoO fns Q s q15_7 k15_10 st := goC_ops
def k15_12 : ACode :=
  .block 1 k15_11
@[simp] theorem xk15_12 : GoC fns Q s k15_12 st ↔ GoC fns Q (.bl 1 :: s) k15_11 st := goC_block
def k15_13 : ACode :=
  .seq k15_12 k15_1
@[simp] theorem xk15_13 : GoC fns Q s k15_13 st ↔ GoC fns Q (.sq k15_1 :: s) k15_12 st := goC_seq
def k15_14 : ACode :=
  .cond (.p 14) .skip (.exit 0)
@[simp] theorem xk15_14 : GoC fns Q s k15_14 st ↔ GB fns Q s (peek st (.p 14)) .skip (.exit 0) st := goC_cond
def k15_15 : ACode :=
  .seq k15_14 k15_13
@[simp] theorem xk15_15 : GoC fns Q s k15_15 st ↔ GoC fns Q (.sq k15_13 :: s) k15_14 st := goC_seq
def k15_16 : ACode :=
  .ops q15_8 k15_15
@[simp] theorem xk15_16 : GoC fns Q s k15_16 st ↔ GoO fns Q s q15_8 k15_15 st := goC_ops
def lc15_0 : ACode :=
  k15_16
@[simp] theorem xlc15_0 : GoC fns Q s lc15_0 st ↔ GoC fns Q s k15_16 st := Iff.rfl
def k15_18 : ACode :=
  .loop lc15_0
@[simp] theorem xk15_18 : GoC fns Q s k15_18 st ↔ (LoopR fns lc15_0 st fun r => GoE fns Q s r.1 r.2) := goC_loop
def k15_19 : ACode :=
  .block 0 k15_18
@[simp] theorem xk15_19 : GoC fns Q s k15_19 st ↔ GoC fns Q (.bl 0 :: s) k15_18 st := goC_block
def k15_20 : ACode :=
  .seq k15_19 k15_0
@[simp] theorem xk15_20 : GoC fns Q s k15_20 st ↔ GoC fns Q (.sq k15_0 :: s) k15_19 st := goC_seq
def k15_21 : ACode :=
  .ops [⟨.assign (.c (.int .i64 0)), (some 7), none⟩] k15_20
@[simp] theorem xk15_21 : GoC fns Q s k15_21 st ↔ GoO fns Q s [⟨.assign (.c (.int .i64 0)), (some 7), none⟩] k15_20 st := goC_ops
def k15_22 : ACode :=
  .ops q15_9 k15_21
@[simp] theorem xk15_22 : GoC fns Q s k15_22 st ↔ GoO fns Q s q15_9 k15_21 st := goC_ops
def k15_23 : ACode :=
  .ops q15_10 k15_22
@[simp] theorem xk15_23 : GoC fns Q s k15_23 st ↔ GoO fns Q s q15_10 k15_22 st := goC_ops
def af15 : AFunc := ⟨43, k15_23, [.cell 4 true 8, .tmp 5], fun _ => none⟩

theorem ok15 : ∃ hs, pFunc Tryd.prog sg hs Tryd.f15 = some af15 := ⟨fun i => 0, by kernel_rfl⟩
/-- No. 9 -/
def q9_0 : List AOper :=
  [⟨.fieldAddr 0 (.p 1), (some 3), none⟩,
    ⟨.load .look false 1 (.p 3), (some 4), none⟩,
    ⟨.load .look true 8 (.p 1), (some 5), none⟩,
    ⟨.call 30 [(.p 5, false)], (some 6), none⟩,
    ⟨.build [.int .i64 0, .slice .nil 0 1 []] [(0, 1, .p 4), (1, 1, .t 6)], (some 7), none⟩,
    ⟨.store 2 (.p 2) (.p 7), none, none⟩]
@[simp] def eq9_0 := id q9_0.eq_1
def q9_1 : List AOper :=
  [⟨.box 1 (.p 0), (some 1), none⟩,
    ⟨.newbox 2 [.int .i64 0, .slice .nil 0 1 []], (some 2), none⟩]
@[simp] def eq9_1 := id q9_1.eq_1
def k9_0 : ACode :=
  .ops q9_0 .ret
@[simp] theorem xk9_0 : GoC fns Q s k9_0 st ↔ GoO fns Q s q9_0 .ret st := goC_ops
def k9_1 : ACode :=
  .ops q9_1 k9_0
@[simp] theorem xk9_1 : GoC fns Q s k9_1 st ↔ GoO fns Q s q9_1 k9_0 st := goC_ops
def af9 : AFunc := ⟨8, k9_1, [.cell 2 true 2], fun _ => none⟩

theorem ok9 : ∃ hs, pFunc Tryd.prog sg hs Tryd.f9 = some af9 := ⟨fun i => 0, by kernel_rfl⟩
/-- No. 16 -/
def q16_0 : List AOper :=
  [⟨.fieldAddr 0 (.p 2), (some 5), none⟩,
    ⟨.load .head false 1 (.p 5), (some 6), none⟩,
    ⟨.fieldAddr 0 (.p 3), (some 7), none⟩,
    ⟨.load .head false 1 (.p 7), (some 8), none⟩,
    ⟨.bin .eql 1 false (.p 6) (.p 8), (some 9), none⟩,
    ⟨.move .look (.p 9), (some 10), none⟩,
    ⟨.fieldAddr 1 (.p 2), (some 11), (some (10, true))⟩,
    ⟨.load .look false 1 (.p 11), (some 12), (some (10, true))⟩,
    ⟨.convBS (.t 12), (some 13), (some (10, true))⟩,
    ⟨.fieldAddr 1 (.p 3), (some 14), (some (10, true))⟩,
    ⟨.load .look false 1 (.p 14), (some 15), (some (10, true))⟩,
    ⟨.convBS (.t 15), (some 16), (some (10, true))⟩,
    ⟨.bin .eql 2 false (.p 13) (.p 16), (some 17), (some (10, true))⟩,
    ⟨.pick (.p 10) (.p 17) (.c (.bool false)), (some 18), none⟩,
    ⟨.assign (.p 18), (some 4), none⟩]
@[simp] def eq16_0 := id q16_0.eq_1
def q16_1 : List AOper :=
  [⟨.box 2 (.p 0), (some 2), none⟩,
    ⟨.box 3 (.p 1), (some 3), none⟩,
    ⟨.assign (.c (.bool false)), (some 4), none⟩]
@[simp] def eq16_1 := id q16_1.eq_1
def k16_0 : ACode :=
  .ops q16_0 .ret
@[simp] theorem xk16_0 : GoC fns Q s k16_0 st ↔ GoO fns Q s q16_0 .ret st := goC_ops
def k16_1 : ACode :=
  .ops q16_1 k16_0
@[simp] theorem xk16_1 : GoC fns Q s k16_1 st ↔ GoO fns Q s q16_1 k16_0 st := goC_ops
def af16 : AFunc := ⟨19, k16_1, [.tmp 4], fun _ => none⟩

theorem ok16 : ∃ hs, pFunc Tryd.prog sg hs Tryd.f16 = some af16 := ⟨fun i => 0, by kernel_rfl⟩
/-- No. 4 -/
def q4_0 : List AOper :=
  [⟨.move .head (.p 9), (some 66), none⟩,
    ⟨.bin .eql 1 true (.p 66) (.c (.int .i64 0)), (some 67), none⟩,
    ⟨.move .look (.p 67), (some 68), none⟩,
    ⟨.load .look true 2 (.p 8), (some 69), (some (68, true))⟩,
    ⟨.load .look true 8 (.p 10), (some 70), (some (68, true))⟩,
    ⟨.call 9 [(.p 70, false)], (some 71), (some (68, true))⟩,
    ⟨.call 16 [(.p 69, false), (.p 71, false)], (some 72), (some (68, true))⟩,
    ⟨.pick (.p 68) (.p 72) (.c (.bool false)), (some 73), none⟩,
    ⟨.assign (.p 73), (some 4), none⟩]
@[simp] def eq4_0 := id q4_0.eq_1
def q4_1 : List AOper :=
  [⟨.move .head (.p 9), (some 64), none⟩,
    ⟨.bin .neq 1 true (.p 64) (.c (.int .i64 0)), (some 65), none⟩,
    ⟨.assign (.p 65), (some 4), none⟩]
@[simp] def eq4_1 := id q4_1.eq_1
def q4_2 : List AOper :=
  [⟨.move .look (.p 11), (some 62), none⟩,
    ⟨.un .not (.p 62), (some 63), none⟩]
@[simp] def eq4_2 := id q4_2.eq_1
def q4_3 : List AOper :=
  [⟨.fieldAddr 7 (.p 2), (some 56), none⟩,
    ⟨.load .look false 1 (.p 56), (some 57), none⟩,
    ⟨.move .look (.t 1), (some 58), none⟩,
    ⟨.call 15 [(.t 57, false), (.t 58, false)], (some 59), none⟩,
    ⟨.move .look (.t 59), (some 55), none⟩,
    ⟨.extract 55 0, (some 60), none⟩,
    ⟨.extract 55 1, (some 61), none⟩,
    ⟨.newbox 10 [.int .i64 0, .str [], .str [], .int .i64 0, .int .u64 0, .int .u64 0, .slice .nil 0 1 [], .slice .nil 0 1 []], (some 10), none⟩,
    ⟨.store 8 (.p 10) (.p 60), none, none⟩,
    ⟨.assign (.p 61), (some 11), none⟩]
@[simp] def eq4_3 := id q4_3.eq_1
def q4_4 : List AOper :=
  [⟨.move .look (.t 5), (some 50), none⟩,
    ⟨.move .look (.t 1), (some 51), none⟩,
    ⟨.call 14 [(.t 50, false), (.t 51, false)], (some 52), none⟩,
    ⟨.move .look (.t 52), (some 49), none⟩,
    ⟨.extract 49 0, (some 53), none⟩,
    ⟨.extract 49 1, (some 54), none⟩,
    ⟨.newbox 8 [.int .i64 0, .slice .nil 0 1 []], (some 8), none⟩,
    ⟨.store 2 (.p 8) (.p 53), none, none⟩,
    ⟨.assign (.p 54), (some 9), none⟩]
@[simp] def eq4_4 := id q4_4.eq_1
def q4_5 : List AOper :=
  [⟨.move .look (.p 7), (some 41), none⟩,
    ⟨.bin .add 1 true (.p 41) (.c (.int .i64 1)), (some 42), none⟩,
    ⟨.assign (.p 42), (some 7), none⟩]
@[simp] def eq4_5 := id q4_5.eq_1
def q4_6 : List AOper :=
  [⟨.move .look (.t 1), (some 43), none⟩,
    ⟨.move .look (.p 7), (some 44), none⟩,
    ⟨.indexAddr 1 (.t 43) (.p 44), (some 45), none⟩,
    ⟨.load .look false 1 (.p 45), (some 46), none⟩,
    ⟨.call 13 [(.p 46, false)], (some 47), none⟩,
    ⟨.un .not (.p 47), (some 48), none⟩]
@[simp] def eq4_6 := id q4_6.eq_1
def q4_7 : List AOper :=
  [⟨.move .look (.p 7), (some 37), none⟩,
    ⟨.move .head (.t 1), (some 38), none⟩,
    ⟨.len false (.p 38), (some 39), none⟩,
    ⟨.bin .lss 1 false (.p 37) (.p 39), (some 40), none⟩]
@[simp] def eq4_7 := id q4_7.eq_1
def q4_8 : List AOper :=
  [⟨.move .look (.p 6), (some 25), none⟩,
    ⟨.un .not (.p 25), (some 26), none⟩,
    ⟨.move .look (.p 26), (some 27), none⟩,
    ⟨.move .head (.t 1), (some 28), (some (27, false))⟩,
    ⟨.len false (.p 28), (some 29), (some (27, false))⟩,
    ⟨.bin .eql 1 true (.p 29) (.c (.int .i64 0)), (some 30), (some (27, false))⟩,
    ⟨.pick (.p 27) (.c (.bool true)) (.p 30), (some 31), none⟩,
    ⟨.move .look (.p 31), (some 32), none⟩,
    ⟨.move .head (.t 1), (some 33), (some (32, false))⟩,
    ⟨.len false (.p 33), (some 34), (some (32, false))⟩,
    ⟨.bin .gtr 1 true (.p 34) (.c (.int .i64 20)), (some 35), (some (32, false))⟩,
    ⟨.pick (.p 32) (.c (.bool true)) (.p 35), (some 36), none⟩]
@[simp] def eq4_8 := id q4_8.eq_1
def q4_9 : List AOper :=
  [⟨.load .look true 8 (.p 2), (some 21), none⟩,
    ⟨.call 12 [(.p 21, false)], (some 22), none⟩,
    ⟨.move .look (.t 22), (some 20), none⟩,
    ⟨.extract 20 0, (some 23), none⟩,
    ⟨.extract 20 1, (some 24), none⟩,
    ⟨.assign (.t 23), (some 5), none⟩,
    ⟨.assign (.p 24), (some 6), none⟩]
@[simp] def eq4_9 := id q4_9.eq_1
def q4_10 : List AOper :=
  [⟨.load .look true 8 (.p 2), (some 12), none⟩,
    ⟨.call 7 [(.p 12, false)], (some 13), none⟩,
    ⟨.un .not (.p 13), (some 14), none⟩,
    ⟨.move .look (.p 14), (some 15), none⟩,
    ⟨.move .look (.t 1), (some 16), (some (15, false))⟩,
    ⟨.call 11 [(.t 16, false)], (some 17), (some (15, false))⟩,
    ⟨.un .not (.p 17), (some 18), (some (15, false))⟩,
    ⟨.pick (.p 15) (.c (.bool true)) (.p 18), (some 19), none⟩]
@[simp] def eq4_10 := id q4_10.eq_1
def q4_11 : List AOper :=
  [⟨.box 2 (.p 0), (some 2), none⟩,
    ⟨.assign (.c (.bool false)), (some 4), none⟩]
@[simp] def eq4_11 := id q4_11.eq_1
def k4_0 : ACode :=
  .ops q4_0 .ret
@[simp] theorem xk4_0 : GoC fns Q s k4_0 st ↔ GoO fns Q s q4_0 .ret st := goC_ops
def k4_1 : ACode :=
  .ops q4_1 .ret
@[simp] theorem xk4_1 : GoC fns Q s k4_1 st ↔ GoO fns Q s q4_1 .ret st := goC_ops
def k4_2 : ACode :=
  .cond (.p 63) k4_1 .skip
@[simp] theorem xk4_2 : GoC fns Q s k4_2 st ↔ GB fns Q s (peek st (.p 63)) k4_1 .skip st := goC_cond
def k4_3 : ACode :=
  .seq k4_2 k4_0
@[simp] theorem xk4_3 : GoC fns Q s k4_3 st ↔ GoC fns Q (.sq k4_0 :: s) k4_2 st := goC_seq
def k4_4 : ACode :=
  .ops q4_2 k4_3
@[simp] theorem xk4_4 : GoC fns Q s k4_4 st ↔ GoO fns Q s q4_2 k4_3 st := goC_ops
def k4_5 : ACode :=
  .ops q4_3 k4_4
@[simp] theorem xk4_5 : GoC fns Q s k4_5 st ↔ GoO fns Q s q4_3 k4_4 st := goC_ops
def k4_6 : ACode :=
  .ops q4_4 k4_5
@[simp] theorem xk4_6 : GoC fns Q s k4_6 st ↔ GoO fns Q s q4_4 k4_5 st := goC_ops
def k4_7 : ACode :=
  .ops q4_5 .skip
@[simp] theorem xk4_7 : GoC fns Q s k4_7 st ↔ GoO fns Q s q4_5 .skip st := goC_ops
def k4_8 : ACode :=
  .ops [⟨.assign (.c (.bool true)), (some 4), none⟩] .ret
@[simp] theorem xk4_8 : GoC fns Q s k4_8 st ↔ GoO fns Q s [⟨.assign (.c (.bool true)), (some 4), none⟩] .ret st := goC_ops
def k4_9 : ACode :=
  .cond (.p 48) k4_8 .skip
@[simp] theorem xk4_9 : GoC fns Q s k4_9 st ↔ GB fns Q s (peek st (.p 48)) k4_8 .skip st := goC_cond
def k4_10 : ACode :=
  .ops q4_6 k4_9
@[simp] theorem xk4_10 : GoC fns Q s k4_10 st ↔ GoO fns Q s q4_6 k4_9 st := goC_ops
def k4_11 : ACode :=
  .block 1 k4_10
@[simp] theorem xk4_11 : GoC fns Q s k4_11 st ↔ GoC fns Q (.bl 1 :: s) k4_10 st := goC_block
def k4_12 : ACode :=
  .seq k4_11 k4_7
@[simp] theorem xk4_12 : GoC fns Q s k4_12 st ↔ GoC fns Q (.sq k4_7 :: s) k4_11 st := goC_seq
def k4_13 : ACode :=
  .cond (.p 40) .skip (.exit 0)
@[simp] theorem xk4_13 : GoC fns Q s k4_13 st ↔ GB fns Q s (peek st (.p 40)) .skip (.exit 0) st := goC_cond
def k4_14 : ACode :=
  .seq k4_13 k4_12
@[simp] theorem xk4_14 : GoC fns Q s k4_14 st ↔ GoC fns Q (.sq k4_12 :: s) k4_13 st := goC_seq
def k4_15 : ACode :=
  .ops q4_7 k4_14
@[simp] theorem xk4_15 : GoC fns Q s k4_15 st ↔ GoO fns Q s q4_7 k4_14 st := goC_ops
def lc4_0 : ACode :=
  k4_15
@[simp] theorem xlc4_0 : GoC fns Q s lc4_0 st ↔ GoC fns Q s k4_15 st := Iff.rfl
def k4_17 : ACode :=
  .loop lc4_0
@[simp] theorem xk4_17 : GoC fns Q s k4_17 st ↔ (LoopR fns lc4_0 st fun r => GoE fns Q s r.1 r.2) := goC_loop
def k4_18 : ACode :=
  .block 0 k4_17
@[simp] theorem xk4_18 : GoC fns Q s k4_18 st ↔ GoC fns Q (.bl 0 :: s) k4_17 st := goC_block
def k4_19 : ACode :=
  .seq k4_18 k4_6
@[simp] theorem xk4_19 : GoC fns Q s k4_19 st ↔ GoC fns Q (.sq k4_6 :: s) k4_18 st := goC_seq
def k4_20 : ACode :=
  .ops [⟨.assign (.c (.int .i64 0)), (some 7), none⟩] k4_19
@[simp] theorem xk4_20 : GoC fns Q s k4_20 st ↔ GoO fns Q s [⟨.assign (.c (.int .i64 0)), (some 7), none⟩] k4_19 st := goC_ops
def k4_21 : ACode :=
  .ops [⟨.assign (.c (.bool true)), (some 4), none⟩] .ret
@[simp] theorem xk4_21 : GoC fns Q s k4_21 st ↔ GoO fns Q s [⟨.assign (.c (.bool true)), (some 4), none⟩] .ret st := goC_ops
def k4_22 : ACode :=
  .cond (.p 36) k4_21 .skip
@[simp] theorem xk4_22 : GoC fns Q s k4_22 st ↔ GB fns Q s (peek st (.p 36)) k4_21 .skip st := goC_cond
def k4_23 : ACode :=
  .seq k4_22 k4_20
@[simp] theorem xk4_23 : GoC fns Q s k4_23 st ↔ GoC fns Q (.sq k4_20 :: s) k4_22 st := goC_seq
def k4_24 : ACode :=
  .ops q4_8 k4_23
@[simp] theorem xk4_24 : GoC fns Q s k4_24 st ↔ GoO fns Q s q4_8 k4_23 st := goC_ops
def k4_25 : ACode :=
  .ops q4_9 k4_24
@[simp] theorem xk4_25 : GoC fns Q s k4_25 st ↔ GoO fns Q s q4_9 k4_24 st := goC_ops
def k4_26 : ACode :=
  .ops [⟨.assign (.c (.bool true)), (some 4), none⟩] .ret
@[simp] theorem xk4_26 : GoC fns Q s k4_26 st ↔ GoO fns Q s [⟨.assign (.c (.bool true)), (some 4), none⟩] .ret st := goC_ops
def k4_27 : ACode :=
  .cond (.p 19) k4_26 .skip
@[simp] theorem xk4_27 : GoC fns Q s k4_27 st ↔ GB fns Q s (peek st (.p 19)) k4_26 .skip st := goC_cond
def k4_28 : ACode :=
  .seq k4_27 k4_25
@[simp] theorem xk4_28 : GoC fns Q s k4_28 st ↔ GoC fns Q (.sq k4_25 :: s) k4_27 st := goC_seq
def k4_29 : ACode :=
  .ops q4_10 k4_28
@[simp] theorem xk4_29 : GoC fns Q s k4_29 st ↔ GoO fns Q s q4_10 k4_28 st := goC_ops
def k4_30 : ACode :=
  .ops q4_11 k4_29
@[simp] theorem xk4_30 : GoC fns Q s k4_30 st ↔ GoO fns Q s q4_11 k4_29 st := goC_ops
def af4 : AFunc := ⟨74, k4_30, [.tmp 4], fun _ => none⟩

theorem ok4 : ∃ hs, pFunc Tryd.prog sg hs Tryd.f4 = some af4 := ⟨fun i => 0, by kernel_rfl⟩
end
end Go.Proofs.YtdnfnobgeddbfaaDoor.Abs
