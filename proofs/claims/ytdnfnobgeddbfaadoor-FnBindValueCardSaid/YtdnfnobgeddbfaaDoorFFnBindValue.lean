/- The functions that the law reaches, made ready for the interpreter (printed by a program of this session; the kernel compares each with the given program). -/
import Derived.Test.YtdnfnobgeddbfaaDoorA27
import Derived.Test.YtdnfnobgeddbfaaDoorProg
import Derived.KernelRfl
namespace Go.Proofs.YtdnfnobgeddbfaaDoor.Abs
set_option linter.all false
set_option maxRecDepth 100000
open Go.Proofs
def sg : FuncId → Nat → Nat := fun f i =>
  if f == 49 then (if i == 0 then 1 else 0) else
  if f == 50 then (if i == 0 then 1 else 0) else
  if f == 51 then (if i == 0 then 1 else 0) else
  0
section
variable {fns : FuncId → Option AFunc} {Q : Ex × St → Prop} {s : List Fr} {c : ACode} {st : St}
/-- No. 7 -/
def q7_0 : List AOper :=
  [⟨.fieldAddr 7 (.p 1), (some 15), none⟩,
    ⟨.load .head false 1 (.p 15), (some 16), none⟩,
    ⟨.len false (.p 16), (some 17), none⟩,
    ⟨.bin .gtr 1 true (.p 17) (.c (.int .i64 2147483647)), (some 18), none⟩]
@[simp] def eq7_0 := id q7_0.eq_1
def q7_1 : List AOper :=
  [⟨.fieldAddr 6 (.p 1), (some 11), none⟩,
    ⟨.load .head false 1 (.p 11), (some 12), none⟩,
    ⟨.len false (.p 12), (some 13), none⟩,
    ⟨.bin .gtr 1 true (.p 13) (.c (.int .i64 2147483647)), (some 14), none⟩]
@[simp] def eq7_1 := id q7_1.eq_1
def q7_2 : List AOper :=
  [⟨.fieldAddr 2 (.p 1), (some 7), none⟩,
    ⟨.load .head false 1 (.p 7), (some 8), none⟩,
    ⟨.len true (.p 8), (some 9), none⟩,
    ⟨.bin .gtr 1 true (.p 9) (.c (.int .i64 2147483647)), (some 10), none⟩]
@[simp] def eq7_2 := id q7_2.eq_1
def q7_3 : List AOper :=
  [⟨.fieldAddr 1 (.p 1), (some 3), none⟩,
    ⟨.load .head false 1 (.p 3), (some 4), none⟩,
    ⟨.len true (.p 4), (some 5), none⟩,
    ⟨.bin .gtr 1 true (.p 5) (.c (.int .i64 2147483647)), (some 6), none⟩]
@[simp] def eq7_3 := id q7_3.eq_1
def q7_4 : List AOper :=
  [⟨.box 1 (.p 0), (some 1), none⟩,
    ⟨.assign (.c (.bool false)), (some 2), none⟩]
@[simp] def eq7_4 := id q7_4.eq_1
def k7_0 : ACode :=
  .ops [⟨.assign (.c (.bool true)), (some 2), none⟩] .ret
@[simp] theorem xk7_0 : GoC fns Q s k7_0 st ↔ GoO fns Q s [⟨.assign (.c (.bool true)), (some 2), none⟩] .ret st := goC_ops
def k7_1 : ACode :=
  .ops [⟨.assign (.c (.bool false)), (some 2), none⟩] .ret
@[simp] theorem xk7_1 : GoC fns Q s k7_1 st ↔ GoO fns Q s [⟨.assign (.c (.bool false)), (some 2), none⟩] .ret st := goC_ops
def k7_2 : ACode :=
  .cond (.p 18) k7_1 .skip
@[simp] theorem xk7_2 : GoC fns Q s k7_2 st ↔ GB fns Q s (peek st (.p 18)) k7_1 .skip st := goC_cond
def k7_3 : ACode :=
  .seq k7_2 k7_0
@[simp] theorem xk7_3 : GoC fns Q s k7_3 st ↔ GoC fns Q (.sq k7_0 :: s) k7_2 st := goC_seq
def k7_4 : ACode :=
  .ops q7_0 k7_3
@[simp] theorem xk7_4 : GoC fns Q s k7_4 st ↔ GoO fns Q s q7_0 k7_3 st := goC_ops
def k7_5 : ACode :=
  .ops [⟨.assign (.c (.bool false)), (some 2), none⟩] .ret
@[simp] theorem xk7_5 : GoC fns Q s k7_5 st ↔ GoO fns Q s [⟨.assign (.c (.bool false)), (some 2), none⟩] .ret st := goC_ops
def k7_6 : ACode :=
  .cond (.p 14) k7_5 .skip
@[simp] theorem xk7_6 : GoC fns Q s k7_6 st ↔ GB fns Q s (peek st (.p 14)) k7_5 .skip st := goC_cond
def k7_7 : ACode :=
  .seq k7_6 k7_4
@[simp] theorem xk7_7 : GoC fns Q s k7_7 st ↔ GoC fns Q (.sq k7_4 :: s) k7_6 st := goC_seq
def k7_8 : ACode :=
  .ops q7_1 k7_7
@[simp] theorem xk7_8 : GoC fns Q s k7_8 st ↔ GoO fns Q s q7_1 k7_7 st := goC_ops
def k7_9 : ACode :=
  .ops [⟨.assign (.c (.bool false)), (some 2), none⟩] .ret
@[simp] theorem xk7_9 : GoC fns Q s k7_9 st ↔ GoO fns Q s [⟨.assign (.c (.bool false)), (some 2), none⟩] .ret st := goC_ops
def k7_10 : ACode :=
  .cond (.p 10) k7_9 .skip
@[simp] theorem xk7_10 : GoC fns Q s k7_10 st ↔ GB fns Q s (peek st (.p 10)) k7_9 .skip st := goC_cond
def k7_11 : ACode :=
  .seq k7_10 k7_8
@[simp] theorem xk7_11 : GoC fns Q s k7_11 st ↔ GoC fns Q (.sq k7_8 :: s) k7_10 st := goC_seq
def k7_12 : ACode :=
  .ops q7_2 k7_11
@[simp] theorem xk7_12 : GoC fns Q s k7_12 st ↔ GoO fns Q s q7_2 k7_11 st := goC_ops
def k7_13 : ACode :=
  .ops [⟨.assign (.c (.bool false)), (some 2), none⟩] .ret
@[simp] theorem xk7_13 : GoC fns Q s k7_13 st ↔ GoO fns Q s [⟨.assign (.c (.bool false)), (some 2), none⟩] .ret st := goC_ops
def k7_14 : ACode :=
  .cond (.p 6) k7_13 .skip
@[simp] theorem xk7_14 : GoC fns Q s k7_14 st ↔ GB fns Q s (peek st (.p 6)) k7_13 .skip st := goC_cond
def k7_15 : ACode :=
  .seq k7_14 k7_12
@[simp] theorem xk7_15 : GoC fns Q s k7_15 st ↔ GoC fns Q (.sq k7_12 :: s) k7_14 st := goC_seq
def k7_16 : ACode :=
  .ops q7_3 k7_15
@[simp] theorem xk7_16 : GoC fns Q s k7_16 st ↔ GoO fns Q s q7_3 k7_15 st := goC_ops
def k7_17 : ACode :=
  .ops q7_4 k7_16
@[simp] theorem xk7_17 : GoC fns Q s k7_17 st ↔ GoO fns Q s q7_4 k7_16 st := goC_ops
def af7 : AFunc := ⟨19, k7_17, [.tmp 2]⟩

theorem ok7 : ∃ hs, pFunc Tryd.prog sg hs Tryd.f7 = some af7 := ⟨fun i => 0, by kernel_rfl⟩
/-- No. 27 -/
def q27_0 : List AOper :=
  [⟨.move .take (.p 5), (some 31), none⟩,
    ⟨.assign (.p 31), (some 4), none⟩]
@[simp] def eq27_0 := id q27_0.eq_1
def q27_1 : List AOper :=
  [⟨.move .look (.p 6), (some 17), none⟩,
    ⟨.bin .add 1 true (.p 17) (.c (.int .i64 1)), (some 18), none⟩,
    ⟨.assign (.p 18), (some 6), none⟩]
@[simp] def eq27_1 := id q27_1.eq_1
def q27_2 : List AOper :=
  [⟨.move .look (.p 5), (some 19), none⟩,
    ⟨.fieldAddr 7 (.p 2), (some 20), none⟩,
    ⟨.load .look false 1 (.p 20), (some 21), none⟩,
    ⟨.move .look (.p 6), (some 22), none⟩,
    ⟨.indexAddr 9 (.t 21) (.p 22), (some 23), none⟩,
    ⟨.fieldAddr 1 (.p 23), (some 24), none⟩,
    ⟨.load .look true 8 (.p 24), (some 25), none⟩,
    ⟨.move .look (.p 1), (some 26), none⟩,
    ⟨.move .look (.p 5), (some 27), none⟩,
    ⟨.bin .sub 1 false (.p 26) (.p 27), (some 28), none⟩,
    ⟨.call 27 [(.p 25, false), (.p 28, false)], (some 29), none⟩,
    ⟨.bin .add 1 false (.p 19) (.p 29), (some 30), none⟩,
    ⟨.assign (.p 30), (some 5), none⟩]
@[simp] def eq27_2 := id q27_2.eq_1
def q27_3 : List AOper :=
  [⟨.move .look (.p 6), (some 7), none⟩,
    ⟨.fieldAddr 7 (.p 2), (some 8), none⟩,
    ⟨.load .head false 1 (.p 8), (some 9), none⟩,
    ⟨.len false (.p 9), (some 10), none⟩,
    ⟨.bin .lss 1 false (.p 7) (.p 10), (some 11), none⟩,
    ⟨.move .look (.p 11), (some 12), none⟩,
    ⟨.move .look (.p 5), (some 13), (some (12, true))⟩,
    ⟨.move .look (.p 1), (some 14), (some (12, true))⟩,
    ⟨.bin .leq 1 false (.p 13) (.p 14), (some 15), (some (12, true))⟩,
    ⟨.pick (.p 12) (.p 15) (.c (.bool false)), (some 16), none⟩]
@[simp] def eq27_3 := id q27_3.eq_1
def q27_4 : List AOper :=
  [⟨.box 2 (.p 0), (some 2), none⟩,
    ⟨.assign (.c (.int .i64 0)), (some 4), none⟩]
@[simp] def eq27_4 := id q27_4.eq_1
def k27_0 : ACode :=
  .ops q27_0 .ret
@[simp] theorem xk27_0 : GoC fns Q s k27_0 st ↔ GoO fns Q s q27_0 .ret st := goC_ops
def k27_1 : ACode :=
  .ops q27_1 .skip
@[simp] theorem xk27_1 : GoC fns Q s k27_1 st ↔ GoO fns Q s q27_1 .skip st := goC_ops
def k27_2 : ACode :=
  .ops q27_2 .skip
@[simp] theorem xk27_2 : GoC fns Q s k27_2 st ↔ GoO fns Q s q27_2 .skip st := goC_ops
def k27_3 : ACode :=
  .block 1 k27_2
@[simp] theorem xk27_3 : GoC fns Q s k27_3 st ↔ GoC fns Q (.bl 1 :: s) k27_2 st := goC_block
def k27_4 : ACode :=
  .seq k27_3 k27_1
@[simp] theorem xk27_4 : GoC fns Q s k27_4 st ↔ GoC fns Q (.sq k27_1 :: s) k27_3 st := goC_seq
def k27_5 : ACode :=
  .cond (.p 16) .skip (.exit 0)
@[simp] theorem xk27_5 : GoC fns Q s k27_5 st ↔ GB fns Q s (peek st (.p 16)) .skip (.exit 0) st := goC_cond
def k27_6 : ACode :=
  .seq k27_5 k27_4
@[simp] theorem xk27_6 : GoC fns Q s k27_6 st ↔ GoC fns Q (.sq k27_4 :: s) k27_5 st := goC_seq
def k27_7 : ACode :=
  .ops q27_3 k27_6
@[simp] theorem xk27_7 : GoC fns Q s k27_7 st ↔ GoO fns Q s q27_3 k27_6 st := goC_ops
def lc27_0 : ACode :=
  k27_7
@[simp] theorem xlc27_0 : GoC fns Q s lc27_0 st ↔ GoC fns Q s k27_7 st := Iff.rfl
def k27_9 : ACode :=
  .loop lc27_0
@[simp] theorem xk27_9 : GoC fns Q s k27_9 st ↔ (LoopR fns lc27_0 st fun r => GoE fns Q s r.1 r.2) := goC_loop
def k27_10 : ACode :=
  .block 0 k27_9
@[simp] theorem xk27_10 : GoC fns Q s k27_10 st ↔ GoC fns Q (.bl 0 :: s) k27_9 st := goC_block
def k27_11 : ACode :=
  .seq k27_10 k27_0
@[simp] theorem xk27_11 : GoC fns Q s k27_11 st ↔ GoC fns Q (.sq k27_0 :: s) k27_10 st := goC_seq
def k27_12 : ACode :=
  .ops [⟨.assign (.c (.int .i64 0)), (some 6), none⟩] k27_11
@[simp] theorem xk27_12 : GoC fns Q s k27_12 st ↔ GoO fns Q s [⟨.assign (.c (.int .i64 0)), (some 6), none⟩] k27_11 st := goC_ops
def k27_13 : ACode :=
  .ops [⟨.assign (.c (.int .i64 1)), (some 5), none⟩] k27_12
@[simp] theorem xk27_13 : GoC fns Q s k27_13 st ↔ GoO fns Q s [⟨.assign (.c (.int .i64 1)), (some 5), none⟩] k27_12 st := goC_ops
def k27_14 : ACode :=
  .ops q27_4 k27_13
@[simp] theorem xk27_14 : GoC fns Q s k27_14 st ↔ GoO fns Q s q27_4 k27_13 st := goC_ops
def af27 : AFunc := ⟨32, k27_14, [.tmp 4]⟩

theorem ok27 : ∃ hs, pFunc Tryd.prog sg hs Tryd.f27 = some af27 := ⟨fun i => 0, by kernel_rfl⟩
/-- No. 64 -/
def q64_0 : List AOper :=
  [⟨.move .look (.p 0), (some 3), none⟩,
    ⟨.bin .geq 1 true (.p 3) (.c (.int .i64 1)), (some 4), none⟩,
    ⟨.move .look (.p 4), (some 5), none⟩,
    ⟨.move .look (.p 0), (some 6), (some (5, true))⟩,
    ⟨.bin .leq 1 true (.p 6) (.c (.int .i64 19)), (some 7), (some (5, true))⟩,
    ⟨.pick (.p 5) (.p 7) (.c (.bool false)), (some 8), none⟩,
    ⟨.move .look (.p 8), (some 9), none⟩,
    ⟨.move .head (.p 0), (some 10), (some (9, false))⟩,
    ⟨.bin .eql 1 true (.p 10) (.c (.int .i64 255)), (some 11), (some (9, false))⟩,
    ⟨.pick (.p 9) (.c (.bool true)) (.p 11), (some 12), none⟩,
    ⟨.move .look (.p 12), (some 13), none⟩,
    ⟨.move .head (.p 0), (some 14), (some (13, false))⟩,
    ⟨.bin .eql 1 true (.p 14) (.c (.int .i64 127)), (some 15), (some (13, false))⟩,
    ⟨.pick (.p 13) (.c (.bool true)) (.p 15), (some 16), none⟩,
    ⟨.assign (.p 16), (some 2), none⟩]
@[simp] def eq64_0 := id q64_0.eq_1
def k64_0 : ACode :=
  .ops q64_0 .ret
@[simp] theorem xk64_0 : GoC fns Q s k64_0 st ↔ GoO fns Q s q64_0 .ret st := goC_ops
def k64_1 : ACode :=
  .ops [⟨.assign (.c (.bool false)), (some 2), none⟩] k64_0
@[simp] theorem xk64_1 : GoC fns Q s k64_1 st ↔ GoO fns Q s [⟨.assign (.c (.bool false)), (some 2), none⟩] k64_0 st := goC_ops
def af64 : AFunc := ⟨17, k64_1, [.tmp 2]⟩

theorem ok64 : ∃ hs, pFunc Tryd.prog sg hs Tryd.f64 = some af64 := ⟨fun i => 0, by kernel_rfl⟩
/-- No. 65 -/
def q65_0 : List AOper :=
  [⟨.load .take true 8 (.p 1), (some 47), none⟩,
    ⟨.store 8 (.p 2) (.p 47), none, none⟩]
@[simp] def eq65_0 := id q65_0.eq_1
def q65_1 : List AOper :=
  [⟨.fieldAddr 4 (.p 1), (some 8), none⟩,
    ⟨.store 1 (.p 8) (.c (.int .u64 0)), none, none⟩]
@[simp] def eq65_1 := id q65_1.eq_1
def q65_2 : List AOper :=
  [⟨.fieldAddr 1 (.p 1), (some 13), none⟩,
    ⟨.store 1 (.p 13) (.c (.str [])), none, none⟩]
@[simp] def eq65_2 := id q65_2.eq_1
def q65_3 : List AOper :=
  [⟨.fieldAddr 7 (.p 1), (some 17), none⟩,
    ⟨.store 1 (.p 17) (.c (.slice .nil 0 1 [])), none, none⟩]
@[simp] def eq65_3 := id q65_3.eq_1
def q65_4 : List AOper :=
  [⟨.fieldAddr 3 (.p 1), (some 20), none⟩,
    ⟨.store 1 (.p 20) (.c (.int .i64 0)), none, none⟩,
    ⟨.fieldAddr 6 (.p 1), (some 21), none⟩,
    ⟨.store 1 (.p 21) (.c (.slice .nil 0 1 [])), none, none⟩]
@[simp] def eq65_4 := id q65_4.eq_1
def q65_5 : List AOper :=
  [⟨.fieldAddr 6 (.p 1), (some 24), none⟩,
    ⟨.store 1 (.p 24) (.c (.slice .nil 0 1 [])), none, none⟩]
@[simp] def eq65_5 := id q65_5.eq_1
def q65_6 : List AOper :=
  [⟨.fieldAddr 3 (.p 1), (some 30), none⟩,
    ⟨.store 1 (.p 30) (.c (.int .i64 0)), none, none⟩]
@[simp] def eq65_6 := id q65_6.eq_1
def q65_7 : List AOper :=
  [⟨.fieldAddr 1 (.p 1), (some 33), none⟩,
    ⟨.store 1 (.p 33) (.c (.str [])), none, none⟩,
    ⟨.fieldAddr 2 (.p 1), (some 34), none⟩,
    ⟨.store 1 (.p 34) (.c (.str [])), none, none⟩]
@[simp] def eq65_7 := id q65_7.eq_1
def q65_8 : List AOper :=
  [⟨.fieldAddr 1 (.p 1), (some 37), none⟩,
    ⟨.store 1 (.p 37) (.c (.str [])), none, none⟩,
    ⟨.fieldAddr 6 (.p 1), (some 38), none⟩,
    ⟨.store 1 (.p 38) (.c (.slice .nil 0 1 [])), none, none⟩]
@[simp] def eq65_8 := id q65_8.eq_1
def q65_9 : List AOper :=
  [⟨.fieldAddr 1 (.p 1), (some 41), none⟩,
    ⟨.store 1 (.p 41) (.c (.str [])), none, none⟩,
    ⟨.fieldAddr 7 (.p 1), (some 42), none⟩,
    ⟨.store 1 (.p 42) (.c (.slice .nil 0 1 [])), none, none⟩]
@[simp] def eq65_9 := id q65_9.eq_1
def q65_10 : List AOper :=
  [⟨.fieldAddr 4 (.p 1), (some 45), none⟩,
    ⟨.store 1 (.p 45) (.c (.int .u64 0)), none, none⟩,
    ⟨.fieldAddr 5 (.p 1), (some 46), none⟩,
    ⟨.store 1 (.p 46) (.c (.int .u64 0)), none, none⟩]
@[simp] def eq65_10 := id q65_10.eq_1
def q65_11 : List AOper :=
  [⟨.bin .eql 1 true (.p 4) (.c (.int .i64 19)), (some 44), none⟩,
    ⟨.assign (.p 44), (some 43), none⟩]
@[simp] def eq65_11 := id q65_11.eq_1
def q65_12 : List AOper :=
  [⟨.bin .eql 1 true (.p 4) (.c (.int .i64 15)), (some 40), none⟩,
    ⟨.assign (.p 40), (some 39), none⟩]
@[simp] def eq65_12 := id q65_12.eq_1
def q65_13 : List AOper :=
  [⟨.bin .eql 1 true (.p 4) (.c (.int .i64 12)), (some 36), none⟩,
    ⟨.assign (.p 36), (some 35), none⟩]
@[simp] def eq65_13 := id q65_13.eq_1
def q65_14 : List AOper :=
  [⟨.bin .eql 1 true (.p 4) (.c (.int .i64 11)), (some 32), none⟩,
    ⟨.assign (.p 32), (some 31), none⟩]
@[simp] def eq65_14 := id q65_14.eq_1
def q65_15 : List AOper :=
  [⟨.bin .eql 1 true (.p 4) (.c (.int .i64 18)), (some 29), none⟩,
    ⟨.assign (.p 29), (some 25), none⟩]
@[simp] def eq65_15 := id q65_15.eq_1
def q65_16 : List AOper :=
  [⟨.bin .eql 1 true (.p 4) (.c (.int .i64 16)), (some 28), none⟩,
    ⟨.assign (.p 28), (some 25), none⟩]
@[simp] def eq65_16 := id q65_16.eq_1
def q65_17 : List AOper :=
  [⟨.bin .eql 1 true (.p 4) (.c (.int .i64 9)), (some 27), none⟩,
    ⟨.assign (.p 27), (some 25), none⟩]
@[simp] def eq65_17 := id q65_17.eq_1
def q65_18 : List AOper :=
  [⟨.bin .eql 1 true (.p 4) (.c (.int .i64 8)), (some 26), none⟩,
    ⟨.assign (.p 26), (some 25), none⟩]
@[simp] def eq65_18 := id q65_18.eq_1
def q65_19 : List AOper :=
  [⟨.bin .eql 1 true (.p 4) (.c (.int .i64 7)), (some 23), none⟩,
    ⟨.assign (.p 23), (some 22), none⟩]
@[simp] def eq65_19 := id q65_19.eq_1
def q65_20 : List AOper :=
  [⟨.bin .eql 1 true (.p 4) (.c (.int .i64 5)), (some 19), none⟩,
    ⟨.assign (.p 19), (some 18), none⟩]
@[simp] def eq65_20 := id q65_20.eq_1
def q65_21 : List AOper :=
  [⟨.bin .eql 1 true (.p 4) (.c (.int .i64 4)), (some 16), none⟩,
    ⟨.assign (.p 16), (some 14), none⟩]
@[simp] def eq65_21 := id q65_21.eq_1
def q65_22 : List AOper :=
  [⟨.bin .eql 1 true (.p 4) (.c (.int .i64 3)), (some 15), none⟩,
    ⟨.assign (.p 15), (some 14), none⟩]
@[simp] def eq65_22 := id q65_22.eq_1
def q65_23 : List AOper :=
  [⟨.bin .eql 1 true (.p 4) (.c (.int .i64 14)), (some 12), none⟩,
    ⟨.assign (.p 12), (some 9), none⟩]
@[simp] def eq65_23 := id q65_23.eq_1
def q65_24 : List AOper :=
  [⟨.bin .eql 1 true (.p 4) (.c (.int .i64 13)), (some 11), none⟩,
    ⟨.assign (.p 11), (some 9), none⟩]
@[simp] def eq65_24 := id q65_24.eq_1
def q65_25 : List AOper :=
  [⟨.bin .eql 1 true (.p 4) (.c (.int .i64 2)), (some 10), none⟩,
    ⟨.assign (.p 10), (some 9), none⟩]
@[simp] def eq65_25 := id q65_25.eq_1
def q65_26 : List AOper :=
  [⟨.bin .eql 1 true (.p 4) (.c (.int .i64 17)), (some 7), none⟩,
    ⟨.assign (.p 7), (some 5), none⟩]
@[simp] def eq65_26 := id q65_26.eq_1
def q65_27 : List AOper :=
  [⟨.bin .eql 1 true (.p 4) (.c (.int .i64 1)), (some 6), none⟩,
    ⟨.assign (.p 6), (some 5), none⟩]
@[simp] def eq65_27 := id q65_27.eq_1
def q65_28 : List AOper :=
  [⟨.fieldAddr 0 (.p 1), (some 3), none⟩,
    ⟨.load .head false 1 (.p 3), (some 4), none⟩]
@[simp] def eq65_28 := id q65_28.eq_1
def q65_29 : List AOper :=
  [⟨.box 1 (.p 0), (some 1), none⟩,
    ⟨.newbox 2 [.int .i64 0, .str [], .str [], .int .i64 0, .int .u64 0, .int .u64 0, .slice .nil 0 1 [], .slice .nil 0 1 []], (some 2), none⟩]
@[simp] def eq65_29 := id q65_29.eq_1
def k65_0 : ACode :=
  .ops q65_0 .ret
@[simp] theorem xk65_0 : GoC fns Q s k65_0 st ↔ GoO fns Q s q65_0 .ret st := goC_ops
def k65_1 : ACode :=
  .ops q65_1 .skip
@[simp] theorem xk65_1 : GoC fns Q s k65_1 st ↔ GoO fns Q s q65_1 .skip st := goC_ops
def k65_2 : ACode :=
  .ops q65_2 .skip
@[simp] theorem xk65_2 : GoC fns Q s k65_2 st ↔ GoO fns Q s q65_2 .skip st := goC_ops
def k65_3 : ACode :=
  .ops q65_3 .skip
@[simp] theorem xk65_3 : GoC fns Q s k65_3 st ↔ GoO fns Q s q65_3 .skip st := goC_ops
def k65_4 : ACode :=
  .ops q65_4 .skip
@[simp] theorem xk65_4 : GoC fns Q s k65_4 st ↔ GoO fns Q s q65_4 .skip st := goC_ops
def k65_5 : ACode :=
  .ops q65_5 .skip
@[simp] theorem xk65_5 : GoC fns Q s k65_5 st ↔ GoO fns Q s q65_5 .skip st := goC_ops
def k65_6 : ACode :=
  .ops q65_6 .skip
@[simp] theorem xk65_6 : GoC fns Q s k65_6 st ↔ GoO fns Q s q65_6 .skip st := goC_ops
def k65_7 : ACode :=
  .ops q65_7 .skip
@[simp] theorem xk65_7 : GoC fns Q s k65_7 st ↔ GoO fns Q s q65_7 .skip st := goC_ops
def k65_8 : ACode :=
  .ops q65_8 .skip
@[simp] theorem xk65_8 : GoC fns Q s k65_8 st ↔ GoO fns Q s q65_8 .skip st := goC_ops
def k65_9 : ACode :=
  .ops q65_9 .skip
@[simp] theorem xk65_9 : GoC fns Q s k65_9 st ↔ GoO fns Q s q65_9 .skip st := goC_ops
def k65_10 : ACode :=
  .ops q65_10 .skip
@[simp] theorem xk65_10 : GoC fns Q s k65_10 st ↔ GoO fns Q s q65_10 .skip st := goC_ops
def k65_11 : ACode :=
  .cond (.p 43) k65_10 .skip
@[simp] theorem xk65_11 : GoC fns Q s k65_11 st ↔ GB fns Q s (peek st (.p 43)) k65_10 .skip st := goC_cond
def k65_12 : ACode :=
  .ops q65_11 k65_11
@[simp] theorem xk65_12 : GoC fns Q s k65_12 st ↔ GoO fns Q s q65_11 k65_11 st := goC_ops
def k65_13 : ACode :=
  .cond (.p 39) k65_9 k65_12
@[simp] theorem xk65_13 : GoC fns Q s k65_13 st ↔ GB fns Q s (peek st (.p 39)) k65_9 k65_12 st := goC_cond
def k65_14 : ACode :=
  .ops q65_12 k65_13
@[simp] theorem xk65_14 : GoC fns Q s k65_14 st ↔ GoO fns Q s q65_12 k65_13 st := goC_ops
def k65_15 : ACode :=
  .cond (.p 35) k65_8 k65_14
@[simp] theorem xk65_15 : GoC fns Q s k65_15 st ↔ GB fns Q s (peek st (.p 35)) k65_8 k65_14 st := goC_cond
def k65_16 : ACode :=
  .ops q65_13 k65_15
@[simp] theorem xk65_16 : GoC fns Q s k65_16 st ↔ GoO fns Q s q65_13 k65_15 st := goC_ops
def k65_17 : ACode :=
  .cond (.p 31) k65_7 k65_16
@[simp] theorem xk65_17 : GoC fns Q s k65_17 st ↔ GB fns Q s (peek st (.p 31)) k65_7 k65_16 st := goC_cond
def k65_18 : ACode :=
  .ops q65_14 k65_17
@[simp] theorem xk65_18 : GoC fns Q s k65_18 st ↔ GoO fns Q s q65_14 k65_17 st := goC_ops
def k65_19 : ACode :=
  .cond (.p 25) k65_6 k65_18
@[simp] theorem xk65_19 : GoC fns Q s k65_19 st ↔ GB fns Q s (peek st (.p 25)) k65_6 k65_18 st := goC_cond
def k65_20 : ACode :=
  .ops q65_15 .skip
@[simp] theorem xk65_20 : GoC fns Q s k65_20 st ↔ GoO fns Q s q65_15 .skip st := goC_ops
def k65_21 : ACode :=
  .cond (.p 25) .skip k65_20
@[simp] theorem xk65_21 : GoC fns Q s k65_21 st ↔ GB fns Q s (peek st (.p 25)) .skip k65_20 st := goC_cond
def k65_22 : ACode :=
  .ops q65_16 k65_21
@[simp] theorem xk65_22 : GoC fns Q s k65_22 st ↔ GoO fns Q s q65_16 k65_21 st := goC_ops
def k65_23 : ACode :=
  .cond (.p 25) .skip k65_22
@[simp] theorem xk65_23 : GoC fns Q s k65_23 st ↔ GB fns Q s (peek st (.p 25)) .skip k65_22 st := goC_cond
def k65_24 : ACode :=
  .ops q65_17 k65_23
@[simp] theorem xk65_24 : GoC fns Q s k65_24 st ↔ GoO fns Q s q65_17 k65_23 st := goC_ops
def k65_25 : ACode :=
  .cond (.p 25) .skip k65_24
@[simp] theorem xk65_25 : GoC fns Q s k65_25 st ↔ GB fns Q s (peek st (.p 25)) .skip k65_24 st := goC_cond
def k65_26 : ACode :=
  .seq k65_25 k65_19
@[simp] theorem xk65_26 : GoC fns Q s k65_26 st ↔ GoC fns Q (.sq k65_19 :: s) k65_25 st := goC_seq
def k65_27 : ACode :=
  .ops q65_18 k65_26
@[simp] theorem xk65_27 : GoC fns Q s k65_27 st ↔ GoO fns Q s q65_18 k65_26 st := goC_ops
def k65_28 : ACode :=
  .cond (.p 22) k65_5 k65_27
@[simp] theorem xk65_28 : GoC fns Q s k65_28 st ↔ GB fns Q s (peek st (.p 22)) k65_5 k65_27 st := goC_cond
def k65_29 : ACode :=
  .ops q65_19 k65_28
@[simp] theorem xk65_29 : GoC fns Q s k65_29 st ↔ GoO fns Q s q65_19 k65_28 st := goC_ops
def k65_30 : ACode :=
  .cond (.p 18) k65_4 k65_29
@[simp] theorem xk65_30 : GoC fns Q s k65_30 st ↔ GB fns Q s (peek st (.p 18)) k65_4 k65_29 st := goC_cond
def k65_31 : ACode :=
  .ops q65_20 k65_30
@[simp] theorem xk65_31 : GoC fns Q s k65_31 st ↔ GoO fns Q s q65_20 k65_30 st := goC_ops
def k65_32 : ACode :=
  .cond (.p 14) k65_3 k65_31
@[simp] theorem xk65_32 : GoC fns Q s k65_32 st ↔ GB fns Q s (peek st (.p 14)) k65_3 k65_31 st := goC_cond
def k65_33 : ACode :=
  .ops q65_21 .skip
@[simp] theorem xk65_33 : GoC fns Q s k65_33 st ↔ GoO fns Q s q65_21 .skip st := goC_ops
def k65_34 : ACode :=
  .cond (.p 14) .skip k65_33
@[simp] theorem xk65_34 : GoC fns Q s k65_34 st ↔ GB fns Q s (peek st (.p 14)) .skip k65_33 st := goC_cond
def k65_35 : ACode :=
  .seq k65_34 k65_32
@[simp] theorem xk65_35 : GoC fns Q s k65_35 st ↔ GoC fns Q (.sq k65_32 :: s) k65_34 st := goC_seq
def k65_36 : ACode :=
  .ops q65_22 k65_35
@[simp] theorem xk65_36 : GoC fns Q s k65_36 st ↔ GoO fns Q s q65_22 k65_35 st := goC_ops
def k65_37 : ACode :=
  .cond (.p 9) k65_2 k65_36
@[simp] theorem xk65_37 : GoC fns Q s k65_37 st ↔ GB fns Q s (peek st (.p 9)) k65_2 k65_36 st := goC_cond
def k65_38 : ACode :=
  .ops q65_23 .skip
@[simp] theorem xk65_38 : GoC fns Q s k65_38 st ↔ GoO fns Q s q65_23 .skip st := goC_ops
def k65_39 : ACode :=
  .cond (.p 9) .skip k65_38
@[simp] theorem xk65_39 : GoC fns Q s k65_39 st ↔ GB fns Q s (peek st (.p 9)) .skip k65_38 st := goC_cond
def k65_40 : ACode :=
  .ops q65_24 k65_39
@[simp] theorem xk65_40 : GoC fns Q s k65_40 st ↔ GoO fns Q s q65_24 k65_39 st := goC_ops
def k65_41 : ACode :=
  .cond (.p 9) .skip k65_40
@[simp] theorem xk65_41 : GoC fns Q s k65_41 st ↔ GB fns Q s (peek st (.p 9)) .skip k65_40 st := goC_cond
def k65_42 : ACode :=
  .seq k65_41 k65_37
@[simp] theorem xk65_42 : GoC fns Q s k65_42 st ↔ GoC fns Q (.sq k65_37 :: s) k65_41 st := goC_seq
def k65_43 : ACode :=
  .ops q65_25 k65_42
@[simp] theorem xk65_43 : GoC fns Q s k65_43 st ↔ GoO fns Q s q65_25 k65_42 st := goC_ops
def k65_44 : ACode :=
  .cond (.p 5) k65_1 k65_43
@[simp] theorem xk65_44 : GoC fns Q s k65_44 st ↔ GB fns Q s (peek st (.p 5)) k65_1 k65_43 st := goC_cond
def k65_45 : ACode :=
  .ops q65_26 .skip
@[simp] theorem xk65_45 : GoC fns Q s k65_45 st ↔ GoO fns Q s q65_26 .skip st := goC_ops
def k65_46 : ACode :=
  .cond (.p 5) .skip k65_45
@[simp] theorem xk65_46 : GoC fns Q s k65_46 st ↔ GB fns Q s (peek st (.p 5)) .skip k65_45 st := goC_cond
def k65_47 : ACode :=
  .seq k65_46 k65_44
@[simp] theorem xk65_47 : GoC fns Q s k65_47 st ↔ GoC fns Q (.sq k65_44 :: s) k65_46 st := goC_seq
def k65_48 : ACode :=
  .ops q65_27 k65_47
@[simp] theorem xk65_48 : GoC fns Q s k65_48 st ↔ GoO fns Q s q65_27 k65_47 st := goC_ops
def k65_49 : ACode :=
  .block 0 k65_48
@[simp] theorem xk65_49 : GoC fns Q s k65_49 st ↔ GoC fns Q (.bl 0 :: s) k65_48 st := goC_block
def k65_50 : ACode :=
  .seq k65_49 k65_0
@[simp] theorem xk65_50 : GoC fns Q s k65_50 st ↔ GoC fns Q (.sq k65_0 :: s) k65_49 st := goC_seq
def k65_51 : ACode :=
  .ops q65_28 k65_50
@[simp] theorem xk65_51 : GoC fns Q s k65_51 st ↔ GoO fns Q s q65_28 k65_50 st := goC_ops
def k65_52 : ACode :=
  .ops q65_29 k65_51
@[simp] theorem xk65_52 : GoC fns Q s k65_52 st ↔ GoO fns Q s q65_29 k65_51 st := goC_ops
def af65 : AFunc := ⟨48, k65_52, [.cell 2 true 8]⟩

theorem ok65 : ∃ hs, pFunc Tryd.prog sg hs Tryd.f65 = some af65 := ⟨fun i => 0, by kernel_rfl⟩
/-- No. 13 -/
def q13_0 : List AOper :=
  [⟨.move .look (.p 3), (some 8), none⟩,
    ⟨.bin .add 1 true (.p 8) (.c (.int .i64 1)), (some 9), none⟩,
    ⟨.assign (.p 9), (some 3), none⟩]
@[simp] def eq13_0 := id q13_0.eq_1
def q13_1 : List AOper :=
  [⟨.move .look (.p 0), (some 10), none⟩,
    ⟨.move .look (.p 3), (some 11), none⟩,
    ⟨.indexStr (.p 10) (.p 11), (some 12), none⟩,
    ⟨.bin .eql 1 true (.p 12) (.c (.int .u8 0)), (some 13), none⟩]
@[simp] def eq13_1 := id q13_1.eq_1
def q13_2 : List AOper :=
  [⟨.move .look (.p 3), (some 4), none⟩,
    ⟨.move .head (.p 0), (some 5), none⟩,
    ⟨.len true (.p 5), (some 6), none⟩,
    ⟨.bin .lss 1 false (.p 4) (.p 6), (some 7), none⟩]
@[simp] def eq13_2 := id q13_2.eq_1
def k13_0 : ACode :=
  .ops [⟨.assign (.c (.bool true)), (some 2), none⟩] .ret
@[simp] theorem xk13_0 : GoC fns Q s k13_0 st ↔ GoO fns Q s [⟨.assign (.c (.bool true)), (some 2), none⟩] .ret st := goC_ops
def k13_1 : ACode :=
  .ops q13_0 .skip
@[simp] theorem xk13_1 : GoC fns Q s k13_1 st ↔ GoO fns Q s q13_0 .skip st := goC_ops
def k13_2 : ACode :=
  .ops [⟨.assign (.c (.bool false)), (some 2), none⟩] .ret
@[simp] theorem xk13_2 : GoC fns Q s k13_2 st ↔ GoO fns Q s [⟨.assign (.c (.bool false)), (some 2), none⟩] .ret st := goC_ops
def k13_3 : ACode :=
  .cond (.p 13) k13_2 .skip
@[simp] theorem xk13_3 : GoC fns Q s k13_3 st ↔ GB fns Q s (peek st (.p 13)) k13_2 .skip st := goC_cond
def k13_4 : ACode :=
  .ops q13_1 k13_3
@[simp] theorem xk13_4 : GoC fns Q s k13_4 st ↔ GoO fns Q s q13_1 k13_3 st := goC_ops
def k13_5 : ACode :=
  .block 1 k13_4
@[simp] theorem xk13_5 : GoC fns Q s k13_5 st ↔ GoC fns Q (.bl 1 :: s) k13_4 st := goC_block
def k13_6 : ACode :=
  .seq k13_5 k13_1
@[simp] theorem xk13_6 : GoC fns Q s k13_6 st ↔ GoC fns Q (.sq k13_1 :: s) k13_5 st := goC_seq
def k13_7 : ACode :=
  .cond (.p 7) .skip (.exit 0)
@[simp] theorem xk13_7 : GoC fns Q s k13_7 st ↔ GB fns Q s (peek st (.p 7)) .skip (.exit 0) st := goC_cond
def k13_8 : ACode :=
  .seq k13_7 k13_6
@[simp] theorem xk13_8 : GoC fns Q s k13_8 st ↔ GoC fns Q (.sq k13_6 :: s) k13_7 st := goC_seq
def k13_9 : ACode :=
  .ops q13_2 k13_8
@[simp] theorem xk13_9 : GoC fns Q s k13_9 st ↔ GoO fns Q s q13_2 k13_8 st := goC_ops
def lc13_0 : ACode :=
  k13_9
@[simp] theorem xlc13_0 : GoC fns Q s lc13_0 st ↔ GoC fns Q s k13_9 st := Iff.rfl
def k13_11 : ACode :=
  .loop lc13_0
@[simp] theorem xk13_11 : GoC fns Q s k13_11 st ↔ (LoopR fns lc13_0 st fun r => GoE fns Q s r.1 r.2) := goC_loop
def k13_12 : ACode :=
  .block 0 k13_11
@[simp] theorem xk13_12 : GoC fns Q s k13_12 st ↔ GoC fns Q (.bl 0 :: s) k13_11 st := goC_block
def k13_13 : ACode :=
  .seq k13_12 k13_0
@[simp] theorem xk13_13 : GoC fns Q s k13_13 st ↔ GoC fns Q (.sq k13_0 :: s) k13_12 st := goC_seq
def k13_14 : ACode :=
  .ops [⟨.assign (.c (.int .i64 0)), (some 3), none⟩] k13_13
@[simp] theorem xk13_14 : GoC fns Q s k13_14 st ↔ GoO fns Q s [⟨.assign (.c (.int .i64 0)), (some 3), none⟩] k13_13 st := goC_ops
def k13_15 : ACode :=
  .ops [⟨.assign (.c (.bool false)), (some 2), none⟩] k13_14
@[simp] theorem xk13_15 : GoC fns Q s k13_15 st ↔ GoO fns Q s [⟨.assign (.c (.bool false)), (some 2), none⟩] k13_14 st := goC_ops
def af13 : AFunc := ⟨14, k13_15, [.tmp 2]⟩

theorem ok13 : ∃ hs, pFunc Tryd.prog sg hs Tryd.f13 = some af13 := ⟨fun i => 0, by kernel_rfl⟩
/-- No. 66 -/
def q66_0 : List AOper :=
  [⟨.move .look (.p 0), (some 10), none⟩,
    ⟨.bin .quo 1 true (.p 10) (.c (.int .i64 10)), (some 11), none⟩,
    ⟨.move .look (.p 0), (some 13), none⟩,
    ⟨.bin .rem 1 true (.p 13) (.c (.int .i64 10)), (some 14), none⟩,
    ⟨.bin .add 1 true (.c (.int .i64 48)) (.p 14), (some 15), none⟩,
    ⟨.convInt .u8 (.p 15), (some 16), none⟩,
    ⟨.buildSl 5 1 [.int .u8 0] [(0, 1, .p 16)], (some 17), none⟩,
    ⟨.convBS (.t 17), (some 18), none⟩,
    ⟨.call 66 [(.p 11, false)], (some 12), none⟩,
    ⟨.bin .add 2 false (.p 12) (.p 18), (some 19), none⟩,
    ⟨.assign (.p 19), (some 2), none⟩]
@[simp] def eq66_0 := id q66_0.eq_1
def q66_1 : List AOper :=
  [⟨.move .look (.p 0), (some 5), none⟩,
    ⟨.bin .add 1 true (.c (.int .i64 48)) (.p 5), (some 6), none⟩,
    ⟨.convInt .u8 (.p 6), (some 7), none⟩,
    ⟨.buildSl 5 1 [.int .u8 0] [(0, 1, .p 7)], (some 8), none⟩,
    ⟨.convBS (.t 8), (some 9), none⟩,
    ⟨.assign (.p 9), (some 2), none⟩]
@[simp] def eq66_1 := id q66_1.eq_1
def q66_2 : List AOper :=
  [⟨.move .look (.p 0), (some 3), none⟩,
    ⟨.bin .lss 1 true (.p 3) (.c (.int .i64 10)), (some 4), none⟩]
@[simp] def eq66_2 := id q66_2.eq_1
def k66_0 : ACode :=
  .ops q66_0 .ret
@[simp] theorem xk66_0 : GoC fns Q s k66_0 st ↔ GoO fns Q s q66_0 .ret st := goC_ops
def k66_1 : ACode :=
  .ops q66_1 .ret
@[simp] theorem xk66_1 : GoC fns Q s k66_1 st ↔ GoO fns Q s q66_1 .ret st := goC_ops
def k66_2 : ACode :=
  .cond (.p 4) k66_1 .skip
@[simp] theorem xk66_2 : GoC fns Q s k66_2 st ↔ GB fns Q s (peek st (.p 4)) k66_1 .skip st := goC_cond
def k66_3 : ACode :=
  .seq k66_2 k66_0
@[simp] theorem xk66_3 : GoC fns Q s k66_3 st ↔ GoC fns Q (.sq k66_0 :: s) k66_2 st := goC_seq
def k66_4 : ACode :=
  .ops q66_2 k66_3
@[simp] theorem xk66_4 : GoC fns Q s k66_4 st ↔ GoO fns Q s q66_2 k66_3 st := goC_ops
def k66_5 : ACode :=
  .ops [⟨.assign (.c (.str [])), (some 2), none⟩] k66_4
@[simp] theorem xk66_5 : GoC fns Q s k66_5 st ↔ GoO fns Q s [⟨.assign (.c (.str [])), (some 2), none⟩] k66_4 st := goC_ops
def af66 : AFunc := ⟨20, k66_5, [.tmp 2]⟩

theorem ok66 : ∃ hs, pFunc Tryd.prog sg hs Tryd.f66 = some af66 := ⟨fun i => 0, by kernel_rfl⟩
/-- No. 48 -/
def rg48_4 : List AOper :=
  [⟨.fieldAddr 1 (.p 5), (some 18), none⟩,
    ⟨.load .head false 1 (.p 18), (some 19), none⟩,
    ⟨.bin .neq 2 true (.p 19) (.c (.str [])), (some 20), none⟩,
    ⟨.move .look (.p 20), (some 21), none⟩,
    ⟨.fieldAddr 2 (.p 5), (some 22), (some (21, false))⟩,
    ⟨.load .head false 1 (.p 22), (some 23), (some (21, false))⟩,
    ⟨.bin .neq 2 true (.p 23) (.c (.str [])), (some 24), (some (21, false))⟩,
    ⟨.pick (.p 21) (.c (.bool true)) (.p 24), (some 25), none⟩,
    ⟨.move .look (.p 25), (some 26), none⟩,
    ⟨.fieldAddr 3 (.p 5), (some 27), (some (26, false))⟩,
    ⟨.load .head false 1 (.p 27), (some 28), (some (26, false))⟩,
    ⟨.bin .neq 1 true (.p 28) (.c (.int .i64 0)), (some 29), (some (26, false))⟩,
    ⟨.pick (.p 26) (.c (.bool true)) (.p 29), (some 30), none⟩,
    ⟨.move .look (.p 30), (some 31), none⟩,
    ⟨.fieldAddr 4 (.p 5), (some 32), (some (31, false))⟩,
    ⟨.load .head false 1 (.p 32), (some 33), (some (31, false))⟩,
    ⟨.bin .neq 1 true (.p 33) (.c (.int .u64 0)), (some 34), (some (31, false))⟩,
    ⟨.pick (.p 31) (.c (.bool true)) (.p 34), (some 35), none⟩,
    ⟨.move .look (.p 35), (some 36), none⟩,
    ⟨.fieldAddr 5 (.p 5), (some 37), (some (36, false))⟩,
    ⟨.load .head false 1 (.p 37), (some 38), (some (36, false))⟩,
    ⟨.bin .neq 1 true (.p 38) (.c (.int .u64 0)), (some 39), (some (36, false))⟩,
    ⟨.pick (.p 36) (.c (.bool true)) (.p 39), (some 40), none⟩,
    ⟨.move .look (.p 40), (some 41), none⟩,
    ⟨.fieldAddr 6 (.p 5), (some 42), (some (41, false))⟩,
    ⟨.load .head false 1 (.p 42), (some 43), (some (41, false))⟩,
    ⟨.len false (.p 43), (some 44), (some (41, false))⟩,
    ⟨.bin .neq 1 true (.p 44) (.c (.int .i64 0)), (some 45), (some (41, false))⟩,
    ⟨.pick (.p 41) (.c (.bool true)) (.p 45), (some 46), none⟩,
    ⟨.move .look (.p 46), (some 47), none⟩,
    ⟨.fieldAddr 7 (.p 5), (some 48), (some (47, false))⟩,
    ⟨.load .head false 1 (.p 48), (some 49), (some (47, false))⟩,
    ⟨.len false (.p 49), (some 50), (some (47, false))⟩,
    ⟨.bin .neq 1 true (.p 50) (.c (.int .i64 0)), (some 51), (some (47, false))⟩,
    ⟨.pick (.p 47) (.c (.bool true)) (.p 51), (some 52), none⟩]
theorem org48_4 : GoO fns Q s rg48_4 c st ↔ GoO fns Q s [⟨.fieldAddr 1 (.p 5), (some 18), none⟩,
    ⟨.load .head false 1 (.p 18), (some 19), none⟩,
    ⟨.bin .neq 2 true (.p 19) (.c (.str [])), (some 20), none⟩,
    ⟨.move .look (.p 20), (some 21), none⟩,
    ⟨.fieldAddr 2 (.p 5), (some 22), (some (21, false))⟩,
    ⟨.load .head false 1 (.p 22), (some 23), (some (21, false))⟩,
    ⟨.bin .neq 2 true (.p 23) (.c (.str [])), (some 24), (some (21, false))⟩,
    ⟨.pick (.p 21) (.c (.bool true)) (.p 24), (some 25), none⟩,
    ⟨.move .look (.p 25), (some 26), none⟩,
    ⟨.fieldAddr 3 (.p 5), (some 27), (some (26, false))⟩,
    ⟨.load .head false 1 (.p 27), (some 28), (some (26, false))⟩,
    ⟨.bin .neq 1 true (.p 28) (.c (.int .i64 0)), (some 29), (some (26, false))⟩,
    ⟨.pick (.p 26) (.c (.bool true)) (.p 29), (some 30), none⟩,
    ⟨.move .look (.p 30), (some 31), none⟩,
    ⟨.fieldAddr 4 (.p 5), (some 32), (some (31, false))⟩,
    ⟨.load .head false 1 (.p 32), (some 33), (some (31, false))⟩,
    ⟨.bin .neq 1 true (.p 33) (.c (.int .u64 0)), (some 34), (some (31, false))⟩,
    ⟨.pick (.p 31) (.c (.bool true)) (.p 34), (some 35), none⟩,
    ⟨.move .look (.p 35), (some 36), none⟩,
    ⟨.fieldAddr 5 (.p 5), (some 37), (some (36, false))⟩,
    ⟨.load .head false 1 (.p 37), (some 38), (some (36, false))⟩,
    ⟨.bin .neq 1 true (.p 38) (.c (.int .u64 0)), (some 39), (some (36, false))⟩,
    ⟨.pick (.p 36) (.c (.bool true)) (.p 39), (some 40), none⟩,
    ⟨.move .look (.p 40), (some 41), none⟩,
    ⟨.fieldAddr 6 (.p 5), (some 42), (some (41, false))⟩,
    ⟨.load .head false 1 (.p 42), (some 43), (some (41, false))⟩,
    ⟨.len false (.p 43), (some 44), (some (41, false))⟩,
    ⟨.bin .neq 1 true (.p 44) (.c (.int .i64 0)), (some 45), (some (41, false))⟩,
    ⟨.pick (.p 41) (.c (.bool true)) (.p 45), (some 46), none⟩,
    ⟨.move .look (.p 46), (some 47), none⟩,
    ⟨.fieldAddr 7 (.p 5), (some 48), (some (47, false))⟩,
    ⟨.load .head false 1 (.p 48), (some 49), (some (47, false))⟩,
    ⟨.len false (.p 49), (some 50), (some (47, false))⟩,
    ⟨.bin .neq 1 true (.p 50) (.c (.int .i64 0)), (some 51), (some (47, false))⟩,
    ⟨.pick (.p 47) (.c (.bool true)) (.p 51), (some 52), none⟩] c st := Iff.rfl
def q48_0 : List AOper :=
  [⟨.move .look (.p 6), (some 107), none⟩,
    ⟨.bin .add 1 true (.p 107) (.c (.int .i64 1)), (some 108), none⟩,
    ⟨.assign (.p 108), (some 6), none⟩]
@[simp] def eq48_0 := id q48_0.eq_1
def q48_1 : List AOper :=
  [⟨.fieldAddr 0 (.p 7), (some 114), none⟩,
    ⟨.load .look false 1 (.p 114), (some 115), none⟩,
    ⟨.call 13 [(.p 115, false)], (some 116), none⟩,
    ⟨.un .not (.p 116), (some 117), none⟩,
    ⟨.move .look (.p 117), (some 118), none⟩,
    ⟨.fieldAddr 0 (.p 2), (some 119), (some (118, false))⟩,
    ⟨.load .head false 1 (.p 119), (some 120), (some (118, false))⟩,
    ⟨.bin .eql 1 true (.p 120) (.c (.int .i64 4)), (some 121), (some (118, false))⟩,
    ⟨.move .look (.p 121), (some 122), (some (118, false))⟩,
    ⟨.fieldAddr 0 (.p 7), (some 123), (some (122, true))⟩,
    ⟨.load .head false 1 (.p 123), (some 124), (some (122, true))⟩,
    ⟨.move .look (.p 6), (some 125), (some (122, true))⟩,
    ⟨.call 66 [(.p 125, false)], (some 126), (some (122, true))⟩,
    ⟨.bin .neq 2 false (.p 124) (.p 126), (some 127), (some (122, true))⟩,
    ⟨.pick (.p 122) (.p 127) (.c (.bool false)), (some 128), (some (118, false))⟩,
    ⟨.pick (.p 118) (.c (.bool true)) (.p 128), (some 129), none⟩,
    ⟨.move .look (.p 129), (some 130), none⟩,
    ⟨.fieldAddr 1 (.p 7), (some 131), (some (130, false))⟩,
    ⟨.load .look true 8 (.p 131), (some 132), (some (130, false))⟩,
    ⟨.move .look (.p 1), (some 133), (some (130, false))⟩,
    ⟨.bin .sub 1 true (.p 133) (.c (.int .i64 1)), (some 134), (some (130, false))⟩,
    ⟨.call 48 [(.p 132, false), (.p 134, false)], (some 135), (some (130, false))⟩,
    ⟨.un .not (.p 135), (some 136), (some (130, false))⟩,
    ⟨.pick (.p 130) (.c (.bool true)) (.p 136), (some 137), none⟩]
@[simp] def eq48_1 := id q48_1.eq_1
def q48_2 : List AOper :=
  [⟨.fieldAddr 7 (.p 2), (some 109), none⟩,
    ⟨.load .look false 1 (.p 109), (some 110), none⟩,
    ⟨.move .look (.p 6), (some 111), none⟩,
    ⟨.indexAddr 9 (.t 110) (.p 111), (some 112), none⟩,
    ⟨.load .take true 9 (.p 112), (some 113), none⟩,
    ⟨.newbox 7 [.str [], .int .i64 0, .str [], .str [], .int .i64 0, .int .u64 0, .int .u64 0, .slice .nil 0 1 [], .slice .nil 0 1 []], (some 7), none⟩,
    ⟨.store 9 (.p 7) (.p 113), none, none⟩]
@[simp] def eq48_2 := id q48_2.eq_1
def q48_3 : List AOper :=
  [⟨.move .look (.p 6), (some 102), none⟩,
    ⟨.fieldAddr 7 (.p 2), (some 103), none⟩,
    ⟨.load .head false 1 (.p 103), (some 104), none⟩,
    ⟨.len false (.p 104), (some 105), none⟩,
    ⟨.bin .lss 1 false (.p 102) (.p 105), (some 106), none⟩]
@[simp] def eq48_3 := id q48_3.eq_1
def q48_4 : List AOper :=
  [⟨.fieldAddr 3 (.p 2), (some 57), none⟩,
    ⟨.load .look false 1 (.p 57), (some 58), none⟩,
    ⟨.bin .geq 1 true (.p 58) (.c (.int .i64 0)), (some 59), none⟩,
    ⟨.move .look (.p 59), (some 60), none⟩,
    ⟨.fieldAddr 3 (.p 2), (some 61), (some (60, true))⟩,
    ⟨.load .look false 1 (.p 61), (some 62), (some (60, true))⟩,
    ⟨.bin .leq 1 true (.p 62) (.c (.int .i64 255)), (some 63), (some (60, true))⟩,
    ⟨.pick (.p 60) (.p 63) (.c (.bool false)), (some 64), none⟩,
    ⟨.assign (.p 64), (some 4), none⟩]
@[simp] def eq48_4 := id q48_4.eq_1
def q48_5 : List AOper :=
  [⟨.fieldAddr 6 (.p 2), (some 68), none⟩,
    ⟨.load .head false 1 (.p 68), (some 69), none⟩,
    ⟨.len false (.p 69), (some 70), none⟩,
    ⟨.bin .eql 1 true (.p 70) (.c (.int .i64 12)), (some 71), none⟩,
    ⟨.assign (.p 71), (some 4), none⟩]
@[simp] def eq48_5 := id q48_5.eq_1
def q48_6 : List AOper :=
  [⟨.fieldAddr 3 (.p 2), (some 74), none⟩,
    ⟨.load .head false 1 (.p 74), (some 75), none⟩,
    ⟨.bin .eql 1 true (.p 75) (.c (.int .i64 0)), (some 76), none⟩,
    ⟨.move .look (.p 76), (some 77), none⟩,
    ⟨.fieldAddr 3 (.p 2), (some 78), (some (77, false))⟩,
    ⟨.load .head false 1 (.p 78), (some 79), (some (77, false))⟩,
    ⟨.bin .eql 1 true (.p 79) (.c (.int .i64 1)), (some 80), (some (77, false))⟩,
    ⟨.pick (.p 77) (.c (.bool true)) (.p 80), (some 81), none⟩,
    ⟨.assign (.p 81), (some 4), none⟩]
@[simp] def eq48_6 := id q48_6.eq_1
def q48_7 : List AOper :=
  [⟨.fieldAddr 3 (.p 2), (some 84), none⟩,
    ⟨.load .look false 1 (.p 84), (some 85), none⟩,
    ⟨.bin .geq 1 true (.p 85) (.c (.int .i64 (-2147483648))), (some 86), none⟩,
    ⟨.move .look (.p 86), (some 87), none⟩,
    ⟨.fieldAddr 3 (.p 2), (some 88), (some (87, true))⟩,
    ⟨.load .look false 1 (.p 88), (some 89), (some (87, true))⟩,
    ⟨.bin .lss 1 true (.p 89) (.c (.int .i64 2147483648)), (some 90), (some (87, true))⟩,
    ⟨.pick (.p 87) (.p 90) (.c (.bool false)), (some 91), none⟩,
    ⟨.assign (.p 91), (some 4), none⟩]
@[simp] def eq48_7 := id q48_7.eq_1
def q48_8 : List AOper :=
  [⟨.fieldAddr 1 (.p 2), (some 94), none⟩,
    ⟨.load .look false 1 (.p 94), (some 95), none⟩,
    ⟨.call 13 [(.p 95, false)], (some 96), none⟩,
    ⟨.move .look (.p 96), (some 97), none⟩,
    ⟨.fieldAddr 2 (.p 2), (some 98), (some (97, true))⟩,
    ⟨.load .look false 1 (.p 98), (some 99), (some (97, true))⟩,
    ⟨.call 13 [(.p 99, false)], (some 100), (some (97, true))⟩,
    ⟨.pick (.p 97) (.p 100) (.c (.bool false)), (some 101), none⟩,
    ⟨.assign (.p 101), (some 4), none⟩]
@[simp] def eq48_8 := id q48_8.eq_1
def q48_9 : List AOper :=
  [⟨.bin .eql 1 true (.p 54) (.c (.int .i64 11)), (some 93), none⟩,
    ⟨.assign (.p 93), (some 92), none⟩]
@[simp] def eq48_9 := id q48_9.eq_1
def q48_10 : List AOper :=
  [⟨.bin .eql 1 true (.p 54) (.c (.int .i64 16)), (some 83), none⟩,
    ⟨.assign (.p 83), (some 82), none⟩]
@[simp] def eq48_10 := id q48_10.eq_1
def q48_11 : List AOper :=
  [⟨.bin .eql 1 true (.p 54) (.c (.int .i64 8)), (some 73), none⟩,
    ⟨.assign (.p 73), (some 72), none⟩]
@[simp] def eq48_11 := id q48_11.eq_1
def q48_12 : List AOper :=
  [⟨.bin .eql 1 true (.p 54) (.c (.int .i64 12)), (some 67), none⟩,
    ⟨.assign (.p 67), (some 65), none⟩]
@[simp] def eq48_12 := id q48_12.eq_1
def q48_13 : List AOper :=
  [⟨.bin .eql 1 true (.p 54) (.c (.int .i64 7)), (some 66), none⟩,
    ⟨.assign (.p 66), (some 65), none⟩]
@[simp] def eq48_13 := id q48_13.eq_1
def q48_14 : List AOper :=
  [⟨.bin .eql 1 true (.p 54) (.c (.int .i64 5)), (some 56), none⟩,
    ⟨.assign (.p 56), (some 55), none⟩]
@[simp] def eq48_14 := id q48_14.eq_1
def q48_15 : List AOper :=
  [⟨.fieldAddr 0 (.p 2), (some 53), none⟩,
    ⟨.load .head false 1 (.p 53), (some 54), none⟩]
@[simp] def eq48_15 := id q48_15.eq_1
def q48_16 : List AOper :=
  [⟨.load .look true 8 (.p 2), (some 16), none⟩,
    ⟨.call 65 [(.p 16, false)], (some 17), none⟩,
    ⟨.newbox 5 [.int .i64 0, .str [], .str [], .int .i64 0, .int .u64 0, .int .u64 0, .slice .nil 0 1 [], .slice .nil 0 1 []], (some 5), none⟩,
    ⟨.store 8 (.p 5) (.p 17), none, none⟩]
@[simp] def eq48_16 := id q48_16.eq_1
def q48_17 : List AOper :=
  [⟨.fieldAddr 0 (.p 2), (some 8), none⟩,
    ⟨.load .look false 1 (.p 8), (some 9), none⟩,
    ⟨.call 64 [(.p 9, false)], (some 10), none⟩,
    ⟨.un .not (.p 10), (some 11), none⟩,
    ⟨.move .look (.p 11), (some 12), none⟩,
    ⟨.move .head (.p 1), (some 13), (some (12, false))⟩,
    ⟨.bin .eql 1 true (.p 13) (.c (.int .i64 0)), (some 14), (some (12, false))⟩,
    ⟨.pick (.p 12) (.c (.bool true)) (.p 14), (some 15), none⟩]
@[simp] def eq48_17 := id q48_17.eq_1
def q48_18 : List AOper :=
  [⟨.box 2 (.p 0), (some 2), none⟩,
    ⟨.assign (.c (.bool false)), (some 4), none⟩]
@[simp] def eq48_18 := id q48_18.eq_1
def k48_0 : ACode :=
  .ops [⟨.assign (.c (.bool true)), (some 4), none⟩] .ret
@[simp] theorem xk48_0 : GoC fns Q s k48_0 st ↔ GoO fns Q s [⟨.assign (.c (.bool true)), (some 4), none⟩] .ret st := goC_ops
def k48_1 : ACode :=
  .ops q48_0 .skip
@[simp] theorem xk48_1 : GoC fns Q s k48_1 st ↔ GoO fns Q s q48_0 .skip st := goC_ops
def k48_2 : ACode :=
  .ops [⟨.assign (.c (.bool false)), (some 4), none⟩] .ret
@[simp] theorem xk48_2 : GoC fns Q s k48_2 st ↔ GoO fns Q s [⟨.assign (.c (.bool false)), (some 4), none⟩] .ret st := goC_ops
def k48_3 : ACode :=
  .cond (.p 137) k48_2 .skip
@[simp] theorem xk48_3 : GoC fns Q s k48_3 st ↔ GB fns Q s (peek st (.p 137)) k48_2 .skip st := goC_cond
def k48_4 : ACode :=
  .ops q48_1 k48_3
@[simp] theorem xk48_4 : GoC fns Q s k48_4 st ↔ GoO fns Q s q48_1 k48_3 st := goC_ops
def k48_5 : ACode :=
  .ops q48_2 k48_4
@[simp] theorem xk48_5 : GoC fns Q s k48_5 st ↔ GoO fns Q s q48_2 k48_4 st := goC_ops
def k48_6 : ACode :=
  .block 2 k48_5
@[simp] theorem xk48_6 : GoC fns Q s k48_6 st ↔ GoC fns Q (.bl 2 :: s) k48_5 st := goC_block
def k48_7 : ACode :=
  .seq k48_6 k48_1
@[simp] theorem xk48_7 : GoC fns Q s k48_7 st ↔ GoC fns Q (.sq k48_1 :: s) k48_6 st := goC_seq
def k48_8 : ACode :=
  .cond (.p 106) .skip (.exit 1)
@[simp] theorem xk48_8 : GoC fns Q s k48_8 st ↔ GB fns Q s (peek st (.p 106)) .skip (.exit 1) st := goC_cond
def k48_9 : ACode :=
  .seq k48_8 k48_7
@[simp] theorem xk48_9 : GoC fns Q s k48_9 st ↔ GoC fns Q (.sq k48_7 :: s) k48_8 st := goC_seq
def k48_10 : ACode :=
  .ops q48_3 k48_9
@[simp] theorem xk48_10 : GoC fns Q s k48_10 st ↔ GoO fns Q s q48_3 k48_9 st := goC_ops
def lc48_0 : ACode :=
  k48_10
@[simp] theorem xlc48_0 : GoC fns Q s lc48_0 st ↔ GoC fns Q s k48_10 st := Iff.rfl
def k48_12 : ACode :=
  .loop lc48_0
@[simp] theorem xk48_12 : GoC fns Q s k48_12 st ↔ (LoopR fns lc48_0 st fun r => GoE fns Q s r.1 r.2) := goC_loop
def k48_13 : ACode :=
  .block 1 k48_12
@[simp] theorem xk48_13 : GoC fns Q s k48_13 st ↔ GoC fns Q (.bl 1 :: s) k48_12 st := goC_block
def k48_14 : ACode :=
  .seq k48_13 k48_0
@[simp] theorem xk48_14 : GoC fns Q s k48_14 st ↔ GoC fns Q (.sq k48_0 :: s) k48_13 st := goC_seq
def k48_15 : ACode :=
  .ops [⟨.assign (.c (.int .i64 0)), (some 6), none⟩] k48_14
@[simp] theorem xk48_15 : GoC fns Q s k48_15 st ↔ GoO fns Q s [⟨.assign (.c (.int .i64 0)), (some 6), none⟩] k48_14 st := goC_ops
def k48_16 : ACode :=
  .ops q48_4 .ret
@[simp] theorem xk48_16 : GoC fns Q s k48_16 st ↔ GoO fns Q s q48_4 .ret st := goC_ops
def k48_17 : ACode :=
  .ops q48_5 .ret
@[simp] theorem xk48_17 : GoC fns Q s k48_17 st ↔ GoO fns Q s q48_5 .ret st := goC_ops
def k48_18 : ACode :=
  .ops q48_6 .ret
@[simp] theorem xk48_18 : GoC fns Q s k48_18 st ↔ GoO fns Q s q48_6 .ret st := goC_ops
def k48_19 : ACode :=
  .ops q48_7 .ret
@[simp] theorem xk48_19 : GoC fns Q s k48_19 st ↔ GoO fns Q s q48_7 .ret st := goC_ops
def k48_20 : ACode :=
  .ops q48_8 .ret
@[simp] theorem xk48_20 : GoC fns Q s k48_20 st ↔ GoO fns Q s q48_8 .ret st := goC_ops
def k48_21 : ACode :=
  .cond (.p 92) k48_20 .skip
@[simp] theorem xk48_21 : GoC fns Q s k48_21 st ↔ GB fns Q s (peek st (.p 92)) k48_20 .skip st := goC_cond
def k48_22 : ACode :=
  .ops q48_9 k48_21
@[simp] theorem xk48_22 : GoC fns Q s k48_22 st ↔ GoO fns Q s q48_9 k48_21 st := goC_ops
def k48_23 : ACode :=
  .cond (.p 82) k48_19 k48_22
@[simp] theorem xk48_23 : GoC fns Q s k48_23 st ↔ GB fns Q s (peek st (.p 82)) k48_19 k48_22 st := goC_cond
def k48_24 : ACode :=
  .ops q48_10 k48_23
@[simp] theorem xk48_24 : GoC fns Q s k48_24 st ↔ GoO fns Q s q48_10 k48_23 st := goC_ops
def k48_25 : ACode :=
  .cond (.p 72) k48_18 k48_24
@[simp] theorem xk48_25 : GoC fns Q s k48_25 st ↔ GB fns Q s (peek st (.p 72)) k48_18 k48_24 st := goC_cond
def k48_26 : ACode :=
  .ops q48_11 k48_25
@[simp] theorem xk48_26 : GoC fns Q s k48_26 st ↔ GoO fns Q s q48_11 k48_25 st := goC_ops
def k48_27 : ACode :=
  .cond (.p 65) k48_17 k48_26
@[simp] theorem xk48_27 : GoC fns Q s k48_27 st ↔ GB fns Q s (peek st (.p 65)) k48_17 k48_26 st := goC_cond
def k48_28 : ACode :=
  .ops q48_12 .skip
@[simp] theorem xk48_28 : GoC fns Q s k48_28 st ↔ GoO fns Q s q48_12 .skip st := goC_ops
def k48_29 : ACode :=
  .cond (.p 65) .skip k48_28
@[simp] theorem xk48_29 : GoC fns Q s k48_29 st ↔ GB fns Q s (peek st (.p 65)) .skip k48_28 st := goC_cond
def k48_30 : ACode :=
  .seq k48_29 k48_27
@[simp] theorem xk48_30 : GoC fns Q s k48_30 st ↔ GoC fns Q (.sq k48_27 :: s) k48_29 st := goC_seq
def k48_31 : ACode :=
  .ops q48_13 k48_30
@[simp] theorem xk48_31 : GoC fns Q s k48_31 st ↔ GoO fns Q s q48_13 k48_30 st := goC_ops
def k48_32 : ACode :=
  .cond (.p 55) k48_16 k48_31
@[simp] theorem xk48_32 : GoC fns Q s k48_32 st ↔ GB fns Q s (peek st (.p 55)) k48_16 k48_31 st := goC_cond
def k48_33 : ACode :=
  .ops q48_14 k48_32
@[simp] theorem xk48_33 : GoC fns Q s k48_33 st ↔ GoO fns Q s q48_14 k48_32 st := goC_ops
def k48_34 : ACode :=
  .block 0 k48_33
@[simp] theorem xk48_34 : GoC fns Q s k48_34 st ↔ GoC fns Q (.bl 0 :: s) k48_33 st := goC_block
def k48_35 : ACode :=
  .seq k48_34 k48_15
@[simp] theorem xk48_35 : GoC fns Q s k48_35 st ↔ GoC fns Q (.sq k48_15 :: s) k48_34 st := goC_seq
def k48_36 : ACode :=
  .ops q48_15 k48_35
@[simp] theorem xk48_36 : GoC fns Q s k48_36 st ↔ GoO fns Q s q48_15 k48_35 st := goC_ops
def k48_37 : ACode :=
  .ops [⟨.assign (.c (.bool false)), (some 4), none⟩] .ret
@[simp] theorem xk48_37 : GoC fns Q s k48_37 st ↔ GoO fns Q s [⟨.assign (.c (.bool false)), (some 4), none⟩] .ret st := goC_ops
def k48_38 : ACode :=
  .cond (.p 52) k48_37 .skip
@[simp] theorem xk48_38 : GoC fns Q s k48_38 st ↔ GB fns Q s (peek st (.p 52)) k48_37 .skip st := goC_cond
def k48_39 : ACode :=
  .seq k48_38 k48_36
@[simp] theorem xk48_39 : GoC fns Q s k48_39 st ↔ GoC fns Q (.sq k48_36 :: s) k48_38 st := goC_seq
def k48_40 : ACode :=
  .ops rg48_4 k48_39
@[simp] theorem xk48_40 : GoC fns Q s k48_40 st ↔ GoO fns Q s rg48_4 k48_39 st := goC_ops
def k48_41 : ACode :=
  .ops q48_16 k48_40
@[simp] theorem xk48_41 : GoC fns Q s k48_41 st ↔ GoO fns Q s q48_16 k48_40 st := goC_ops
def k48_42 : ACode :=
  .ops [⟨.assign (.c (.bool false)), (some 4), none⟩] .ret
@[simp] theorem xk48_42 : GoC fns Q s k48_42 st ↔ GoO fns Q s [⟨.assign (.c (.bool false)), (some 4), none⟩] .ret st := goC_ops
def k48_43 : ACode :=
  .cond (.p 15) k48_42 .skip
@[simp] theorem xk48_43 : GoC fns Q s k48_43 st ↔ GB fns Q s (peek st (.p 15)) k48_42 .skip st := goC_cond
def k48_44 : ACode :=
  .seq k48_43 k48_41
@[simp] theorem xk48_44 : GoC fns Q s k48_44 st ↔ GoC fns Q (.sq k48_41 :: s) k48_43 st := goC_seq
def k48_45 : ACode :=
  .ops q48_17 k48_44
@[simp] theorem xk48_45 : GoC fns Q s k48_45 st ↔ GoO fns Q s q48_17 k48_44 st := goC_ops
def k48_46 : ACode :=
  .ops q48_18 k48_45
@[simp] theorem xk48_46 : GoC fns Q s k48_46 st ↔ GoO fns Q s q48_18 k48_45 st := goC_ops
def af48 : AFunc := ⟨138, k48_46, [.tmp 4]⟩

theorem ok48 : ∃ hs, pFunc Tryd.prog sg hs Tryd.f48 = some af48 := ⟨fun i => 0, by kernel_rfl⟩
/-- No. 28 -/
def q28_0 : List AOper :=
  [⟨.load .look true 8 (.p 1), (some 3), none⟩,
    ⟨.call 48 [(.p 3, false), (.c (.int .i64 200), false)], (some 4), none⟩,
    ⟨.assign (.p 4), (some 2), none⟩]
@[simp] def eq28_0 := id q28_0.eq_1
def q28_1 : List AOper :=
  [⟨.box 1 (.p 0), (some 1), none⟩,
    ⟨.assign (.c (.bool false)), (some 2), none⟩]
@[simp] def eq28_1 := id q28_1.eq_1
def k28_0 : ACode :=
  .ops q28_0 .ret
@[simp] theorem xk28_0 : GoC fns Q s k28_0 st ↔ GoO fns Q s q28_0 .ret st := goC_ops
def k28_1 : ACode :=
  .ops q28_1 k28_0
@[simp] theorem xk28_1 : GoC fns Q s k28_1 st ↔ GoO fns Q s q28_1 k28_0 st := goC_ops
def af28 : AFunc := ⟨5, k28_1, [.tmp 2]⟩

theorem ok28 : ∃ hs, pFunc Tryd.prog sg hs Tryd.f28 = some af28 := ⟨fun i => 0, by kernel_rfl⟩
/-- No. 29 -/
def q29_0 : List AOper :=
  [⟨.move .take (.p 3), (some 40), none⟩,
    ⟨.assign (.p 40), (some 2), none⟩]
@[simp] def eq29_0 := id q29_0.eq_1
def q29_1 : List AOper :=
  [⟨.move .look (.p 4), (some 21), none⟩,
    ⟨.bin .add 1 true (.p 21) (.c (.int .i64 1)), (some 22), none⟩,
    ⟨.assign (.p 22), (some 4), none⟩]
@[simp] def eq29_1 := id q29_1.eq_1
def q29_2 : List AOper :=
  [⟨.move .look (.p 3), (some 23), none⟩,
    ⟨.fieldAddr 7 (.p 1), (some 24), none⟩,
    ⟨.load .look false 1 (.p 24), (some 25), none⟩,
    ⟨.move .look (.p 4), (some 26), none⟩,
    ⟨.indexAddr 9 (.t 25) (.p 26), (some 27), none⟩,
    ⟨.fieldAddr 0 (.p 27), (some 28), none⟩,
    ⟨.load .head false 1 (.p 28), (some 29), none⟩,
    ⟨.len true (.p 29), (some 30), none⟩,
    ⟨.bin .add 1 false (.p 23) (.p 30), (some 31), none⟩,
    ⟨.fieldAddr 7 (.p 1), (some 32), none⟩,
    ⟨.load .look false 1 (.p 32), (some 33), none⟩,
    ⟨.move .look (.p 4), (some 34), none⟩,
    ⟨.indexAddr 9 (.t 33) (.p 34), (some 35), none⟩,
    ⟨.fieldAddr 1 (.p 35), (some 36), none⟩,
    ⟨.load .look true 8 (.p 36), (some 37), none⟩,
    ⟨.call 29 [(.p 37, false)], (some 38), none⟩,
    ⟨.bin .add 1 false (.p 31) (.p 38), (some 39), none⟩,
    ⟨.assign (.p 39), (some 3), none⟩]
@[simp] def eq29_2 := id q29_2.eq_1
def q29_3 : List AOper :=
  [⟨.move .look (.p 4), (some 16), none⟩,
    ⟨.fieldAddr 7 (.p 1), (some 17), none⟩,
    ⟨.load .head false 1 (.p 17), (some 18), none⟩,
    ⟨.len false (.p 18), (some 19), none⟩,
    ⟨.bin .lss 1 false (.p 16) (.p 19), (some 20), none⟩]
@[simp] def eq29_3 := id q29_3.eq_1
def q29_4 : List AOper :=
  [⟨.fieldAddr 1 (.p 1), (some 5), none⟩,
    ⟨.load .head false 1 (.p 5), (some 6), none⟩,
    ⟨.len true (.p 6), (some 7), none⟩,
    ⟨.fieldAddr 2 (.p 1), (some 8), none⟩,
    ⟨.load .head false 1 (.p 8), (some 9), none⟩,
    ⟨.len true (.p 9), (some 10), none⟩,
    ⟨.bin .add 1 false (.p 7) (.p 10), (some 11), none⟩,
    ⟨.fieldAddr 6 (.p 1), (some 12), none⟩,
    ⟨.load .head false 1 (.p 12), (some 13), none⟩,
    ⟨.len false (.p 13), (some 14), none⟩,
    ⟨.bin .add 1 false (.p 11) (.p 14), (some 15), none⟩,
    ⟨.assign (.p 15), (some 3), none⟩]
@[simp] def eq29_4 := id q29_4.eq_1
def q29_5 : List AOper :=
  [⟨.box 1 (.p 0), (some 1), none⟩,
    ⟨.assign (.c (.int .i64 0)), (some 2), none⟩]
@[simp] def eq29_5 := id q29_5.eq_1
def k29_0 : ACode :=
  .ops q29_0 .ret
@[simp] theorem xk29_0 : GoC fns Q s k29_0 st ↔ GoO fns Q s q29_0 .ret st := goC_ops
def k29_1 : ACode :=
  .ops q29_1 .skip
@[simp] theorem xk29_1 : GoC fns Q s k29_1 st ↔ GoO fns Q s q29_1 .skip st := goC_ops
def k29_2 : ACode :=
  .ops q29_2 .skip
@[simp] theorem xk29_2 : GoC fns Q s k29_2 st ↔ GoO fns Q s q29_2 .skip st := goC_ops
def k29_3 : ACode :=
  .block 1 k29_2
@[simp] theorem xk29_3 : GoC fns Q s k29_3 st ↔ GoC fns Q (.bl 1 :: s) k29_2 st := goC_block
def k29_4 : ACode :=
  .seq k29_3 k29_1
@[simp] theorem xk29_4 : GoC fns Q s k29_4 st ↔ GoC fns Q (.sq k29_1 :: s) k29_3 st := goC_seq
def k29_5 : ACode :=
  .cond (.p 20) .skip (.exit 0)
@[simp] theorem xk29_5 : GoC fns Q s k29_5 st ↔ GB fns Q s (peek st (.p 20)) .skip (.exit 0) st := goC_cond
def k29_6 : ACode :=
  .seq k29_5 k29_4
@[simp] theorem xk29_6 : GoC fns Q s k29_6 st ↔ GoC fns Q (.sq k29_4 :: s) k29_5 st := goC_seq
def k29_7 : ACode :=
  .ops q29_3 k29_6
@[simp] theorem xk29_7 : GoC fns Q s k29_7 st ↔ GoO fns Q s q29_3 k29_6 st := goC_ops
def lc29_0 : ACode :=
  k29_7
@[simp] theorem xlc29_0 : GoC fns Q s lc29_0 st ↔ GoC fns Q s k29_7 st := Iff.rfl
def k29_9 : ACode :=
  .loop lc29_0
@[simp] theorem xk29_9 : GoC fns Q s k29_9 st ↔ (LoopR fns lc29_0 st fun r => GoE fns Q s r.1 r.2) := goC_loop
def k29_10 : ACode :=
  .block 0 k29_9
@[simp] theorem xk29_10 : GoC fns Q s k29_10 st ↔ GoC fns Q (.bl 0 :: s) k29_9 st := goC_block
def k29_11 : ACode :=
  .seq k29_10 k29_0
@[simp] theorem xk29_11 : GoC fns Q s k29_11 st ↔ GoC fns Q (.sq k29_0 :: s) k29_10 st := goC_seq
def k29_12 : ACode :=
  .ops [⟨.assign (.c (.int .i64 0)), (some 4), none⟩] k29_11
@[simp] theorem xk29_12 : GoC fns Q s k29_12 st ↔ GoO fns Q s [⟨.assign (.c (.int .i64 0)), (some 4), none⟩] k29_11 st := goC_ops
def k29_13 : ACode :=
  .ops q29_4 k29_12
@[simp] theorem xk29_13 : GoC fns Q s k29_13 st ↔ GoO fns Q s q29_4 k29_12 st := goC_ops
def k29_14 : ACode :=
  .ops q29_5 k29_13
@[simp] theorem xk29_14 : GoC fns Q s k29_14 st ↔ GoO fns Q s q29_5 k29_13 st := goC_ops
def af29 : AFunc := ⟨41, k29_14, [.tmp 2]⟩

theorem ok29 : ∃ hs, pFunc Tryd.prog sg hs Tryd.f29 = some af29 := ⟨fun i => 0, by kernel_rfl⟩
/-- No. 8 -/
def q8_0 : List AOper :=
  [⟨.load .look true 8 (.p 1), (some 3), none⟩,
    ⟨.call 27 [(.p 3, false), (.c (.int .i64 1000), false)], (some 4), none⟩,
    ⟨.bin .leq 1 true (.p 4) (.c (.int .i64 1000)), (some 5), none⟩,
    ⟨.move .look (.p 5), (some 6), none⟩,
    ⟨.load .look true 8 (.p 1), (some 7), (some (6, true))⟩,
    ⟨.call 28 [(.p 7, false)], (some 8), (some (6, true))⟩,
    ⟨.pick (.p 6) (.p 8) (.c (.bool false)), (some 9), none⟩,
    ⟨.move .look (.p 9), (some 10), none⟩,
    ⟨.load .look true 8 (.p 1), (some 11), (some (10, true))⟩,
    ⟨.call 29 [(.p 11, false)], (some 12), (some (10, true))⟩,
    ⟨.bin .leq 1 true (.p 12) (.c (.int .i64 65536)), (some 13), (some (10, true))⟩,
    ⟨.pick (.p 10) (.p 13) (.c (.bool false)), (some 14), none⟩,
    ⟨.assign (.p 14), (some 2), none⟩]
@[simp] def eq8_0 := id q8_0.eq_1
def q8_1 : List AOper :=
  [⟨.box 1 (.p 0), (some 1), none⟩,
    ⟨.assign (.c (.bool false)), (some 2), none⟩]
@[simp] def eq8_1 := id q8_1.eq_1
def k8_0 : ACode :=
  .ops q8_0 .ret
@[simp] theorem xk8_0 : GoC fns Q s k8_0 st ↔ GoO fns Q s q8_0 .ret st := goC_ops
def k8_1 : ACode :=
  .ops q8_1 k8_0
@[simp] theorem xk8_1 : GoC fns Q s k8_1 st ↔ GoO fns Q s q8_1 k8_0 st := goC_ops
def af8 : AFunc := ⟨15, k8_1, [.tmp 2]⟩

theorem ok8 : ∃ hs, pFunc Tryd.prog sg hs Tryd.f8 = some af8 := ⟨fun i => 0, by kernel_rfl⟩
/-- No. 49 -/
def q49_0 : List AOper :=
  [⟨.move .take (.t 0), (some 17), none⟩,
    ⟨.assign (.t 17), (some 4), none⟩]
@[simp] def eq49_0 := id q49_0.eq_1
def q49_1 : List AOper :=
  [⟨.move .look (.p 5), (some 8), none⟩,
    ⟨.bin .add 1 true (.p 8) (.c (.int .i64 8)), (some 9), none⟩,
    ⟨.assign (.p 9), (some 5), none⟩]
@[simp] def eq49_1 := id q49_1.eq_1
def q49_2 : List AOper :=
  [⟨.move .take (.t 0), (some 10), none⟩,
    ⟨.move .look (.p 1), (some 11), none⟩,
    ⟨.move .look (.p 5), (some 12), none⟩,
    ⟨.bin .shr 1 false (.p 11) (.p 12), (some 13), none⟩,
    ⟨.convInt .u8 (.p 13), (some 14), none⟩,
    ⟨.buildSl 5 1 [.int .u8 0] [(0, 1, .p 14)], (some 15), none⟩,
    ⟨.append 5 1 1 false (.t 10) (.p 15), (some 16), none⟩,
    ⟨.assign (.t 16), (some 0), none⟩]
@[simp] def eq49_2 := id q49_2.eq_1
def q49_3 : List AOper :=
  [⟨.move .look (.p 5), (some 6), none⟩,
    ⟨.bin .lss 1 true (.p 6) (.c (.int .i64 64)), (some 7), none⟩]
@[simp] def eq49_3 := id q49_3.eq_1
def k49_0 : ACode :=
  .ops q49_0 .ret
@[simp] theorem xk49_0 : GoC fns Q s k49_0 st ↔ GoO fns Q s q49_0 .ret st := goC_ops
def k49_1 : ACode :=
  .ops q49_1 .skip
@[simp] theorem xk49_1 : GoC fns Q s k49_1 st ↔ GoO fns Q s q49_1 .skip st := goC_ops
def k49_2 : ACode :=
  .ops q49_2 .skip
@[simp] theorem xk49_2 : GoC fns Q s k49_2 st ↔ GoO fns Q s q49_2 .skip st := goC_ops
def k49_3 : ACode :=
  .block 1 k49_2
@[simp] theorem xk49_3 : GoC fns Q s k49_3 st ↔ GoC fns Q (.bl 1 :: s) k49_2 st := goC_block
def k49_4 : ACode :=
  .seq k49_3 k49_1
@[simp] theorem xk49_4 : GoC fns Q s k49_4 st ↔ GoC fns Q (.sq k49_1 :: s) k49_3 st := goC_seq
def k49_5 : ACode :=
  .cond (.p 7) .skip (.exit 0)
@[simp] theorem xk49_5 : GoC fns Q s k49_5 st ↔ GB fns Q s (peek st (.p 7)) .skip (.exit 0) st := goC_cond
def k49_6 : ACode :=
  .seq k49_5 k49_4
@[simp] theorem xk49_6 : GoC fns Q s k49_6 st ↔ GoC fns Q (.sq k49_4 :: s) k49_5 st := goC_seq
def k49_7 : ACode :=
  .ops q49_3 k49_6
@[simp] theorem xk49_7 : GoC fns Q s k49_7 st ↔ GoO fns Q s q49_3 k49_6 st := goC_ops
def lc49_0 : ACode :=
  k49_7
@[simp] theorem xlc49_0 : GoC fns Q s lc49_0 st ↔ GoC fns Q s k49_7 st := Iff.rfl
def k49_9 : ACode :=
  .loop lc49_0
@[simp] theorem xk49_9 : GoC fns Q s k49_9 st ↔ (LoopR fns lc49_0 st fun r => GoE fns Q s r.1 r.2) := goC_loop
def k49_10 : ACode :=
  .block 0 k49_9
@[simp] theorem xk49_10 : GoC fns Q s k49_10 st ↔ GoC fns Q (.bl 0 :: s) k49_9 st := goC_block
def k49_11 : ACode :=
  .seq k49_10 k49_0
@[simp] theorem xk49_11 : GoC fns Q s k49_11 st ↔ GoC fns Q (.sq k49_0 :: s) k49_10 st := goC_seq
def k49_12 : ACode :=
  .ops [⟨.assign (.c (.int .i64 0)), (some 5), none⟩] k49_11
@[simp] theorem xk49_12 : GoC fns Q s k49_12 st ↔ GoO fns Q s [⟨.assign (.c (.int .i64 0)), (some 5), none⟩] k49_11 st := goC_ops
def k49_13 : ACode :=
  .ops [⟨.assign (.c (.slice .nil 0 1 [])), (some 4), none⟩] k49_12
@[simp] theorem xk49_13 : GoC fns Q s k49_13 st ↔ GoO fns Q s [⟨.assign (.c (.slice .nil 0 1 [])), (some 4), none⟩] k49_12 st := goC_ops
def af49 : AFunc := ⟨18, k49_13, [.tmp 4]⟩

theorem ok49 : ∃ hs, pFunc Tryd.prog sg hs Tryd.f49 = some af49 := ⟨fun i => 0, by kernel_rfl⟩
/-- No. 51 -/
def q51_0 : List AOper :=
  [⟨.move .take (.t 0), (some 5), none⟩,
    ⟨.move .look (.p 1), (some 6), none⟩,
    ⟨.convInt .u8 (.p 6), (some 7), none⟩,
    ⟨.move .look (.p 1), (some 8), none⟩,
    ⟨.bin .shr 1 true (.p 8) (.c (.int .u64 8)), (some 9), none⟩,
    ⟨.convInt .u8 (.p 9), (some 10), none⟩,
    ⟨.move .look (.p 1), (some 11), none⟩,
    ⟨.bin .shr 1 true (.p 11) (.c (.int .u64 16)), (some 12), none⟩,
    ⟨.convInt .u8 (.p 12), (some 13), none⟩,
    ⟨.move .look (.p 1), (some 14), none⟩,
    ⟨.bin .shr 1 true (.p 14) (.c (.int .u64 24)), (some 15), none⟩,
    ⟨.convInt .u8 (.p 15), (some 16), none⟩,
    ⟨.buildSl 5 1 [.int .u8 0, .int .u8 0, .int .u8 0, .int .u8 0] [(0, 1, .p 7), (1, 1, .p 10), (2, 1, .p 13), (3, 1, .p 16)], (some 17), none⟩,
    ⟨.append 5 1 1 false (.t 5) (.p 17), (some 18), none⟩,
    ⟨.assign (.t 18), (some 4), none⟩]
@[simp] def eq51_0 := id q51_0.eq_1
def k51_0 : ACode :=
  .ops q51_0 .ret
@[simp] theorem xk51_0 : GoC fns Q s k51_0 st ↔ GoO fns Q s q51_0 .ret st := goC_ops
def k51_1 : ACode :=
  .ops [⟨.assign (.c (.slice .nil 0 1 [])), (some 4), none⟩] k51_0
@[simp] theorem xk51_1 : GoC fns Q s k51_1 st ↔ GoO fns Q s [⟨.assign (.c (.slice .nil 0 1 [])), (some 4), none⟩] k51_0 st := goC_ops
def af51 : AFunc := ⟨19, k51_1, [.tmp 4]⟩

theorem ok51 : ∃ hs, pFunc Tryd.prog sg hs Tryd.f51 = some af51 := ⟨fun i => 0, by kernel_rfl⟩
/-- No. 50 -/
def q50_0 : List AOper :=
  [⟨.move .take (.t 0), (some 13), none⟩,
    ⟨.buildSl 5 1 [.int .u8 0] [(0, 1, .c (.int .u8 0))], (some 14), none⟩,
    ⟨.append 5 1 1 false (.t 13) (.p 14), (some 15), none⟩,
    ⟨.assign (.t 15), (some 4), none⟩]
@[simp] def eq50_0 := id q50_0.eq_1
def q50_1 : List AOper :=
  [⟨.move .take (.t 0), (some 10), none⟩,
    ⟨.move .look (.p 1), (some 11), none⟩,
    ⟨.append 5 1 1 true (.t 10) (.p 11), (some 12), none⟩,
    ⟨.assign (.t 12), (some 0), none⟩]
@[simp] def eq50_1 := id q50_1.eq_1
def q50_2 : List AOper :=
  [⟨.move .take (.t 0), (some 5), none⟩,
    ⟨.move .head (.p 1), (some 6), none⟩,
    ⟨.len true (.p 6), (some 7), none⟩,
    ⟨.bin .add 1 true (.p 7) (.c (.int .i64 1)), (some 8), none⟩,
    ⟨.call 51 [(.t 5, true), (.p 8, false)], (some 9), none⟩,
    ⟨.assign (.t 9), (some 0), none⟩]
@[simp] def eq50_2 := id q50_2.eq_1
def k50_0 : ACode :=
  .ops q50_0 .ret
@[simp] theorem xk50_0 : GoC fns Q s k50_0 st ↔ GoO fns Q s q50_0 .ret st := goC_ops
def k50_1 : ACode :=
  .ops q50_1 k50_0
@[simp] theorem xk50_1 : GoC fns Q s k50_1 st ↔ GoO fns Q s q50_1 k50_0 st := goC_ops
def k50_2 : ACode :=
  .ops q50_2 k50_1
@[simp] theorem xk50_2 : GoC fns Q s k50_2 st ↔ GoO fns Q s q50_2 k50_1 st := goC_ops
def k50_3 : ACode :=
  .ops [⟨.assign (.c (.slice .nil 0 1 [])), (some 4), none⟩] k50_2
@[simp] theorem xk50_3 : GoC fns Q s k50_3 st ↔ GoO fns Q s [⟨.assign (.c (.slice .nil 0 1 [])), (some 4), none⟩] k50_2 st := goC_ops
def af50 : AFunc := ⟨16, k50_3, [.tmp 4]⟩

theorem ok50 : ∃ hs, pFunc Tryd.prog sg hs Tryd.f50 = some af50 := ⟨fun i => 0, by kernel_rfl⟩
/-- No. 26 -/
def q26_0 : List AOper :=
  [⟨.move .take (.t 5), (some 11), none⟩,
    ⟨.buildSl 5 1 [.int .u8 0] [(0, 1, .c (.int .u8 0))], (some 12), none⟩,
    ⟨.append 5 1 1 false (.t 11) (.p 12), (some 13), none⟩,
    ⟨.assign (.t 13), (some 4), none⟩]
@[simp] def eq26_0 := id q26_0.eq_1
def q26_1 : List AOper :=
  [⟨.move .look (.p 0), (some 6), none⟩,
    ⟨.convInt .u8 (.p 6), (some 7), none⟩,
    ⟨.buildSl 5 1 [.int .u8 0] [(0, 1, .p 7)], (some 8), none⟩,
    ⟨.move .look (.p 1), (some 9), none⟩,
    ⟨.append 5 1 1 true (.t 8) (.p 9), (some 10), none⟩,
    ⟨.assign (.t 10), (some 5), none⟩]
@[simp] def eq26_1 := id q26_1.eq_1
def k26_0 : ACode :=
  .ops q26_0 .ret
@[simp] theorem xk26_0 : GoC fns Q s k26_0 st ↔ GoO fns Q s q26_0 .ret st := goC_ops
def k26_1 : ACode :=
  .ops q26_1 k26_0
@[simp] theorem xk26_1 : GoC fns Q s k26_1 st ↔ GoO fns Q s q26_1 k26_0 st := goC_ops
def k26_2 : ACode :=
  .ops [⟨.assign (.c (.slice .nil 0 1 [])), (some 4), none⟩] k26_1
@[simp] theorem xk26_2 : GoC fns Q s k26_2 st ↔ GoO fns Q s [⟨.assign (.c (.slice .nil 0 1 [])), (some 4), none⟩] k26_1 st := goC_ops
def af26 : AFunc := ⟨14, k26_2, [.tmp 4]⟩

theorem ok26 : ∃ hs, pFunc Tryd.prog sg hs Tryd.f26 = some af26 := ⟨fun i => 0, by kernel_rfl⟩
/-- No. 20 -/
def q20_0 : List AOper :=
  [⟨.fieldAddr 1 (.p 1), (some 3), none⟩,
    ⟨.fieldAddr 0 (.p 3), (some 4), none⟩,
    ⟨.load .look false 1 (.p 4), (some 5), none⟩,
    ⟨.fieldAddr 0 (.p 1), (some 6), none⟩,
    ⟨.load .look false 1 (.p 6), (some 7), none⟩,
    ⟨.fieldAddr 1 (.p 1), (some 9), none⟩,
    ⟨.load .look true 8 (.p 9), (some 10), none⟩,
    ⟨.call 26 [(.p 5, false), (.p 7, false)], (some 8), none⟩,
    ⟨.call 30 [(.p 10, false)], (some 11), none⟩,
    ⟨.append 5 1 1 false (.t 8) (.p 11), (some 12), none⟩,
    ⟨.assign (.t 12), (some 2), none⟩]
@[simp] def eq20_0 := id q20_0.eq_1
def q20_1 : List AOper :=
  [⟨.box 1 (.p 0), (some 1), none⟩,
    ⟨.assign (.c (.slice .nil 0 1 [])), (some 2), none⟩]
@[simp] def eq20_1 := id q20_1.eq_1
def k20_0 : ACode :=
  .ops q20_0 .ret
@[simp] theorem xk20_0 : GoC fns Q s k20_0 st ↔ GoO fns Q s q20_0 .ret st := goC_ops
def k20_1 : ACode :=
  .ops q20_1 k20_0
@[simp] theorem xk20_1 : GoC fns Q s k20_1 st ↔ GoO fns Q s q20_1 k20_0 st := goC_ops
def af20 : AFunc := ⟨13, k20_1, [.tmp 2]⟩

theorem ok20 : ∃ hs, pFunc Tryd.prog sg hs Tryd.f20 = some af20 := ⟨fun i => 0, by kernel_rfl⟩
/-- No. 35 -/
def q35_0 : List AOper :=
  [⟨.move .take (.t 5), (some 26), none⟩,
    ⟨.buildSl 5 1 [.int .u8 0] [(0, 1, .c (.int .u8 0))], (some 27), none⟩,
    ⟨.append 5 1 1 false (.t 26) (.p 27), (some 28), none⟩,
    ⟨.assign (.t 28), (some 2), none⟩]
@[simp] def eq35_0 := id q35_0.eq_1
def q35_1 : List AOper :=
  [⟨.move .take (.t 5), (some 23), none⟩,
    ⟨.move .look (.t 3), (some 24), none⟩,
    ⟨.append 5 1 1 false (.t 23) (.p 24), (some 25), none⟩,
    ⟨.assign (.t 25), (some 5), none⟩]
@[simp] def eq35_1 := id q35_1.eq_1
def q35_2 : List AOper :=
  [⟨.move .head (.t 3), (some 19), none⟩,
    ⟨.len false (.p 19), (some 20), none⟩,
    ⟨.bin .add 1 true (.p 20) (.c (.int .i64 5)), (some 21), none⟩,
    ⟨.call 51 [(.c (.slice .nil 0 1 []), true), (.p 21, false)], (some 22), none⟩,
    ⟨.assign (.t 22), (some 5), none⟩]
@[simp] def eq35_2 := id q35_2.eq_1
def q35_3 : List AOper :=
  [⟨.move .look (.p 4), (some 10), none⟩,
    ⟨.bin .add 1 true (.p 10) (.c (.int .i64 1)), (some 11), none⟩,
    ⟨.assign (.p 11), (some 4), none⟩]
@[simp] def eq35_3 := id q35_3.eq_1
def q35_4 : List AOper :=
  [⟨.move .take (.t 3), (some 12), none⟩,
    ⟨.move .look (.t 0), (some 13), none⟩,
    ⟨.move .look (.p 4), (some 14), none⟩,
    ⟨.indexAddr 9 (.t 13) (.p 14), (some 15), none⟩,
    ⟨.load .look true 9 (.p 15), (some 16), none⟩,
    ⟨.call 20 [(.p 16, false)], (some 17), none⟩,
    ⟨.append 5 1 1 false (.t 12) (.p 17), (some 18), none⟩,
    ⟨.assign (.t 18), (some 3), none⟩]
@[simp] def eq35_4 := id q35_4.eq_1
def q35_5 : List AOper :=
  [⟨.move .look (.p 4), (some 6), none⟩,
    ⟨.move .head (.t 0), (some 7), none⟩,
    ⟨.len false (.p 7), (some 8), none⟩,
    ⟨.bin .lss 1 false (.p 6) (.p 8), (some 9), none⟩]
@[simp] def eq35_5 := id q35_5.eq_1
def k35_0 : ACode :=
  .ops q35_0 .ret
@[simp] theorem xk35_0 : GoC fns Q s k35_0 st ↔ GoO fns Q s q35_0 .ret st := goC_ops
def k35_1 : ACode :=
  .ops q35_1 k35_0
@[simp] theorem xk35_1 : GoC fns Q s k35_1 st ↔ GoO fns Q s q35_1 k35_0 st := goC_ops
def k35_2 : ACode :=
  .ops q35_2 k35_1
@[simp] theorem xk35_2 : GoC fns Q s k35_2 st ↔ GoO fns Q s q35_2 k35_1 st := goC_ops
def k35_3 : ACode :=
  .ops q35_3 .skip
@[simp] theorem xk35_3 : GoC fns Q s k35_3 st ↔ GoO fns Q s q35_3 .skip st := goC_ops
def k35_4 : ACode :=
  .ops q35_4 .skip
@[simp] theorem xk35_4 : GoC fns Q s k35_4 st ↔ GoO fns Q s q35_4 .skip st := goC_ops
def k35_5 : ACode :=
  .block 1 k35_4
@[simp] theorem xk35_5 : GoC fns Q s k35_5 st ↔ GoC fns Q (.bl 1 :: s) k35_4 st := goC_block
def k35_6 : ACode :=
  .seq k35_5 k35_3
@[simp] theorem xk35_6 : GoC fns Q s k35_6 st ↔ GoC fns Q (.sq k35_3 :: s) k35_5 st := goC_seq
def k35_7 : ACode :=
  .cond (.p 9) .skip (.exit 0)
@[simp] theorem xk35_7 : GoC fns Q s k35_7 st ↔ GB fns Q s (peek st (.p 9)) .skip (.exit 0) st := goC_cond
def k35_8 : ACode :=
  .seq k35_7 k35_6
@[simp] theorem xk35_8 : GoC fns Q s k35_8 st ↔ GoC fns Q (.sq k35_6 :: s) k35_7 st := goC_seq
def k35_9 : ACode :=
  .ops q35_5 k35_8
@[simp] theorem xk35_9 : GoC fns Q s k35_9 st ↔ GoO fns Q s q35_5 k35_8 st := goC_ops
def lc35_0 : ACode :=
  k35_9
@[simp] theorem xlc35_0 : GoC fns Q s lc35_0 st ↔ GoC fns Q s k35_9 st := Iff.rfl
def k35_11 : ACode :=
  .loop lc35_0
@[simp] theorem xk35_11 : GoC fns Q s k35_11 st ↔ (LoopR fns lc35_0 st fun r => GoE fns Q s r.1 r.2) := goC_loop
def k35_12 : ACode :=
  .block 0 k35_11
@[simp] theorem xk35_12 : GoC fns Q s k35_12 st ↔ GoC fns Q (.bl 0 :: s) k35_11 st := goC_block
def k35_13 : ACode :=
  .seq k35_12 k35_2
@[simp] theorem xk35_13 : GoC fns Q s k35_13 st ↔ GoC fns Q (.sq k35_2 :: s) k35_12 st := goC_seq
def k35_14 : ACode :=
  .ops [⟨.assign (.c (.int .i64 0)), (some 4), none⟩] k35_13
@[simp] theorem xk35_14 : GoC fns Q s k35_14 st ↔ GoO fns Q s [⟨.assign (.c (.int .i64 0)), (some 4), none⟩] k35_13 st := goC_ops
def k35_15 : ACode :=
  .ops [⟨.assign (.c (.slice .nil 0 1 [])), (some 3), none⟩] k35_14
@[simp] theorem xk35_15 : GoC fns Q s k35_15 st ↔ GoO fns Q s [⟨.assign (.c (.slice .nil 0 1 [])), (some 3), none⟩] k35_14 st := goC_ops
def k35_16 : ACode :=
  .ops [⟨.assign (.c (.slice .nil 0 1 [])), (some 2), none⟩] k35_15
@[simp] theorem xk35_16 : GoC fns Q s k35_16 st ↔ GoO fns Q s [⟨.assign (.c (.slice .nil 0 1 [])), (some 2), none⟩] k35_15 st := goC_ops
def af35 : AFunc := ⟨29, k35_16, [.tmp 2]⟩

theorem ok35 : ∃ hs, pFunc Tryd.prog sg hs Tryd.f35 = some af35 := ⟨fun i => 0, by kernel_rfl⟩
/-- No. 30 -/
def q30_0 : List AOper :=
  [⟨.move .take (.t 3), (some 147), none⟩,
    ⟨.assign (.t 147), (some 2), none⟩]
@[simp] def eq30_0 := id q30_0.eq_1
def q30_1 : List AOper :=
  [⟨.move .take (.t 3), (some 12), none⟩,
    ⟨.fieldAddr 4 (.p 1), (some 13), none⟩,
    ⟨.load .look false 1 (.p 13), (some 14), none⟩,
    ⟨.call 49 [(.t 12, true), (.p 14, false)], (some 15), none⟩,
    ⟨.assign (.t 15), (some 3), none⟩]
@[simp] def eq30_1 := id q30_1.eq_1
def q30_2 : List AOper :=
  [⟨.move .take (.t 3), (some 20), none⟩,
    ⟨.fieldAddr 1 (.p 1), (some 21), none⟩,
    ⟨.load .look false 1 (.p 21), (some 22), none⟩,
    ⟨.call 50 [(.t 20, true), (.p 22, false)], (some 23), none⟩,
    ⟨.assign (.t 23), (some 3), none⟩]
@[simp] def eq30_2 := id q30_2.eq_1
def q30_3 : List AOper :=
  [⟨.fieldAddr 7 (.p 1), (some 27), none⟩,
    ⟨.load .look false 1 (.p 27), (some 28), none⟩,
    ⟨.call 35 [(.t 28, false)], (some 29), none⟩,
    ⟨.assign (.t 29), (some 3), none⟩]
@[simp] def eq30_3 := id q30_3.eq_1
def q30_4 : List AOper :=
  [⟨.move .take (.t 3), (some 57), none⟩,
    ⟨.fieldAddr 6 (.p 1), (some 58), none⟩,
    ⟨.load .look false 1 (.p 58), (some 59), none⟩,
    ⟨.append 5 1 1 false (.t 57) (.p 59), (some 60), none⟩,
    ⟨.assign (.t 60), (some 3), none⟩]
@[simp] def eq30_4 := id q30_4.eq_1
def q30_5 : List AOper :=
  [⟨.move .take (.t 3), (some 45), none⟩,
    ⟨.move .look (.p 4), (some 46), none⟩,
    ⟨.call 51 [(.t 45, true), (.p 46, false)], (some 47), none⟩,
    ⟨.assign (.t 47), (some 3), none⟩]
@[simp] def eq30_5 := id q30_5.eq_1
def q30_6 : List AOper :=
  [⟨.move .take (.t 3), (some 42), none⟩,
    ⟨.buildSl 5 1 [.int .u8 0] [(0, 1, .c (.int .u8 2))], (some 43), none⟩,
    ⟨.append 5 1 1 false (.t 42) (.p 43), (some 44), none⟩,
    ⟨.assign (.t 44), (some 3), none⟩]
@[simp] def eq30_6 := id q30_6.eq_1
def q30_7 : List AOper :=
  [⟨.move .take (.t 3), (some 38), none⟩,
    ⟨.move .look (.p 4), (some 39), none⟩,
    ⟨.bin .add 1 true (.p 39) (.c (.int .i64 4)), (some 40), none⟩,
    ⟨.call 51 [(.t 38, true), (.p 40, false)], (some 41), none⟩,
    ⟨.assign (.t 41), (some 3), none⟩]
@[simp] def eq30_7 := id q30_7.eq_1
def q30_8 : List AOper :=
  [⟨.move .take (.t 3), (some 51), none⟩,
    ⟨.fieldAddr 3 (.p 1), (some 52), none⟩,
    ⟨.load .look false 1 (.p 52), (some 53), none⟩,
    ⟨.convInt .u8 (.p 53), (some 54), none⟩,
    ⟨.buildSl 5 1 [.int .u8 0] [(0, 1, .p 54)], (some 55), none⟩,
    ⟨.append 5 1 1 false (.t 51) (.p 55), (some 56), none⟩,
    ⟨.assign (.t 56), (some 3), none⟩]
@[simp] def eq30_8 := id q30_8.eq_1
def q30_9 : List AOper :=
  [⟨.move .take (.t 3), (some 48), none⟩,
    ⟨.move .look (.p 4), (some 49), none⟩,
    ⟨.call 51 [(.t 48, true), (.p 49, false)], (some 50), none⟩,
    ⟨.assign (.t 50), (some 3), none⟩]
@[simp] def eq30_9 := id q30_9.eq_1
def q30_10 : List AOper :=
  [⟨.fieldAddr 3 (.p 1), (some 35), none⟩,
    ⟨.load .head false 1 (.p 35), (some 36), none⟩,
    ⟨.bin .eql 1 true (.p 36) (.c (.int .i64 2)), (some 37), none⟩]
@[simp] def eq30_10 := id q30_10.eq_1
def q30_11 : List AOper :=
  [⟨.fieldAddr 6 (.p 1), (some 32), none⟩,
    ⟨.load .head false 1 (.p 32), (some 33), none⟩,
    ⟨.len false (.p 33), (some 34), none⟩,
    ⟨.assign (.p 34), (some 4), none⟩]
@[simp] def eq30_11 := id q30_11.eq_1
def q30_12 : List AOper :=
  [⟨.move .take (.t 3), (some 63), none⟩,
    ⟨.fieldAddr 6 (.p 1), (some 64), none⟩,
    ⟨.load .look false 1 (.p 64), (some 65), none⟩,
    ⟨.append 5 1 1 false (.t 63) (.p 65), (some 66), none⟩,
    ⟨.assign (.t 66), (some 3), none⟩]
@[simp] def eq30_12 := id q30_12.eq_1
def q30_13 : List AOper :=
  [⟨.move .take (.t 3), (some 69), none⟩,
    ⟨.fieldAddr 3 (.p 1), (some 70), none⟩,
    ⟨.load .look false 1 (.p 70), (some 71), none⟩,
    ⟨.convInt .u8 (.p 71), (some 72), none⟩,
    ⟨.buildSl 5 1 [.int .u8 0] [(0, 1, .p 72)], (some 73), none⟩,
    ⟨.append 5 1 1 false (.t 69) (.p 73), (some 74), none⟩,
    ⟨.assign (.t 74), (some 3), none⟩]
@[simp] def eq30_13 := id q30_13.eq_1
def q30_14 : List AOper :=
  [⟨.move .take (.t 3), (some 78), none⟩,
    ⟨.fieldAddr 3 (.p 1), (some 79), none⟩,
    ⟨.load .look false 1 (.p 79), (some 80), none⟩,
    ⟨.convInt .u64 (.p 80), (some 81), none⟩,
    ⟨.call 49 [(.t 78, true), (.p 81, false)], (some 82), none⟩,
    ⟨.assign (.t 82), (some 3), none⟩]
@[simp] def eq30_14 := id q30_14.eq_1
def q30_15 : List AOper :=
  [⟨.move .take (.t 3), (some 85), none⟩,
    ⟨.fieldAddr 3 (.p 1), (some 86), none⟩,
    ⟨.load .look false 1 (.p 86), (some 87), none⟩,
    ⟨.call 51 [(.t 85, true), (.p 87, false)], (some 88), none⟩,
    ⟨.assign (.t 88), (some 3), none⟩]
@[simp] def eq30_15 := id q30_15.eq_1
def q30_16 : List AOper :=
  [⟨.move .take (.t 3), (some 102), none⟩,
    ⟨.buildSl 5 1 [.int .u8 0] [(0, 1, .c (.int .u8 0))], (some 103), none⟩,
    ⟨.append 5 1 1 false (.t 102) (.p 103), (some 104), none⟩,
    ⟨.assign (.t 104), (some 3), none⟩]
@[simp] def eq30_16 := id q30_16.eq_1
def q30_17 : List AOper :=
  [⟨.move .take (.t 3), (some 98), none⟩,
    ⟨.fieldAddr 2 (.p 1), (some 99), none⟩,
    ⟨.load .look false 1 (.p 99), (some 100), none⟩,
    ⟨.append 5 1 1 true (.t 98) (.p 100), (some 101), none⟩,
    ⟨.assign (.t 101), (some 3), none⟩]
@[simp] def eq30_17 := id q30_17.eq_1
def q30_18 : List AOper :=
  [⟨.move .take (.t 3), (some 95), none⟩,
    ⟨.buildSl 5 1 [.int .u8 0] [(0, 1, .c (.int .u8 0))], (some 96), none⟩,
    ⟨.append 5 1 1 false (.t 95) (.p 96), (some 97), none⟩,
    ⟨.assign (.t 97), (some 3), none⟩]
@[simp] def eq30_18 := id q30_18.eq_1
def q30_19 : List AOper :=
  [⟨.move .take (.t 3), (some 91), none⟩,
    ⟨.fieldAddr 1 (.p 1), (some 92), none⟩,
    ⟨.load .look false 1 (.p 92), (some 93), none⟩,
    ⟨.append 5 1 1 true (.t 91) (.p 93), (some 94), none⟩,
    ⟨.assign (.t 94), (some 3), none⟩]
@[simp] def eq30_19 := id q30_19.eq_1
def q30_20 : List AOper :=
  [⟨.move .take (.t 3), (some 111), none⟩,
    ⟨.fieldAddr 6 (.p 1), (some 112), none⟩,
    ⟨.load .look false 1 (.p 112), (some 113), none⟩,
    ⟨.append 5 1 1 false (.t 111) (.p 113), (some 114), none⟩,
    ⟨.assign (.t 114), (some 3), none⟩]
@[simp] def eq30_20 := id q30_20.eq_1
def q30_21 : List AOper :=
  [⟨.move .take (.t 3), (some 107), none⟩,
    ⟨.fieldAddr 1 (.p 1), (some 108), none⟩,
    ⟨.load .look false 1 (.p 108), (some 109), none⟩,
    ⟨.call 50 [(.t 107, true), (.p 109, false)], (some 110), none⟩,
    ⟨.assign (.t 110), (some 3), none⟩]
@[simp] def eq30_21 := id q30_21.eq_1
def q30_22 : List AOper :=
  [⟨.move .take (.t 3), (some 134), none⟩,
    ⟨.move .look (.t 6), (some 135), none⟩,
    ⟨.append 5 1 1 false (.t 134) (.p 135), (some 136), none⟩,
    ⟨.assign (.t 136), (some 3), none⟩]
@[simp] def eq30_22 := id q30_22.eq_1
def q30_23 : List AOper :=
  [⟨.move .take (.t 3), (some 131), none⟩,
    ⟨.move .look (.t 5), (some 132), none⟩,
    ⟨.append 5 1 1 false (.t 131) (.p 132), (some 133), none⟩,
    ⟨.assign (.t 133), (some 3), none⟩]
@[simp] def eq30_23 := id q30_23.eq_1
def q30_24 : List AOper :=
  [⟨.move .take (.t 3), (some 123), none⟩,
    ⟨.move .head (.t 5), (some 124), none⟩,
    ⟨.len false (.p 124), (some 125), none⟩,
    ⟨.bin .add 1 true (.c (.int .i64 4)) (.p 125), (some 126), none⟩,
    ⟨.move .head (.t 6), (some 127), none⟩,
    ⟨.len false (.p 127), (some 128), none⟩,
    ⟨.bin .add 1 false (.p 126) (.p 128), (some 129), none⟩,
    ⟨.call 51 [(.t 123, true), (.p 129, false)], (some 130), none⟩,
    ⟨.assign (.t 130), (some 3), none⟩]
@[simp] def eq30_24 := id q30_24.eq_1
def q30_25 : List AOper :=
  [⟨.fieldAddr 7 (.p 1), (some 120), none⟩,
    ⟨.load .look false 1 (.p 120), (some 121), none⟩,
    ⟨.call 35 [(.t 121, false)], (some 122), none⟩,
    ⟨.assign (.t 122), (some 6), none⟩]
@[simp] def eq30_25 := id q30_25.eq_1
def q30_26 : List AOper :=
  [⟨.fieldAddr 1 (.p 1), (some 117), none⟩,
    ⟨.load .look false 1 (.p 117), (some 118), none⟩,
    ⟨.call 50 [(.c (.slice .nil 0 1 []), true), (.p 118, false)], (some 119), none⟩,
    ⟨.assign (.t 119), (some 5), none⟩]
@[simp] def eq30_26 := id q30_26.eq_1
def q30_27 : List AOper :=
  [⟨.move .take (.t 3), (some 143), none⟩,
    ⟨.fieldAddr 5 (.p 1), (some 144), none⟩,
    ⟨.load .look false 1 (.p 144), (some 145), none⟩,
    ⟨.call 49 [(.t 143, true), (.p 145, false)], (some 146), none⟩,
    ⟨.assign (.t 146), (some 3), none⟩]
@[simp] def eq30_27 := id q30_27.eq_1
def q30_28 : List AOper :=
  [⟨.move .take (.t 3), (some 139), none⟩,
    ⟨.fieldAddr 4 (.p 1), (some 140), none⟩,
    ⟨.load .look false 1 (.p 140), (some 141), none⟩,
    ⟨.call 49 [(.t 139, true), (.p 141, false)], (some 142), none⟩,
    ⟨.assign (.t 142), (some 3), none⟩]
@[simp] def eq30_28 := id q30_28.eq_1
def q30_29 : List AOper :=
  [⟨.bin .eql 1 true (.p 8) (.c (.int .i64 19)), (some 138), none⟩,
    ⟨.assign (.p 138), (some 137), none⟩]
@[simp] def eq30_29 := id q30_29.eq_1
def q30_30 : List AOper :=
  [⟨.bin .eql 1 true (.p 8) (.c (.int .i64 15)), (some 116), none⟩,
    ⟨.assign (.p 116), (some 115), none⟩]
@[simp] def eq30_30 := id q30_30.eq_1
def q30_31 : List AOper :=
  [⟨.bin .eql 1 true (.p 8) (.c (.int .i64 12)), (some 106), none⟩,
    ⟨.assign (.p 106), (some 105), none⟩]
@[simp] def eq30_31 := id q30_31.eq_1
def q30_32 : List AOper :=
  [⟨.bin .eql 1 true (.p 8) (.c (.int .i64 11)), (some 90), none⟩,
    ⟨.assign (.p 90), (some 89), none⟩]
@[simp] def eq30_32 := id q30_32.eq_1
def q30_33 : List AOper :=
  [⟨.bin .eql 1 true (.p 8) (.c (.int .i64 16)), (some 84), none⟩,
    ⟨.assign (.p 84), (some 83), none⟩]
@[simp] def eq30_33 := id q30_33.eq_1
def q30_34 : List AOper :=
  [⟨.bin .eql 1 true (.p 8) (.c (.int .i64 18)), (some 77), none⟩,
    ⟨.assign (.p 77), (some 75), none⟩]
@[simp] def eq30_34 := id q30_34.eq_1
def q30_35 : List AOper :=
  [⟨.bin .eql 1 true (.p 8) (.c (.int .i64 9)), (some 76), none⟩,
    ⟨.assign (.p 76), (some 75), none⟩]
@[simp] def eq30_35 := id q30_35.eq_1
def q30_36 : List AOper :=
  [⟨.bin .eql 1 true (.p 8) (.c (.int .i64 8)), (some 68), none⟩,
    ⟨.assign (.p 68), (some 67), none⟩]
@[simp] def eq30_36 := id q30_36.eq_1
def q30_37 : List AOper :=
  [⟨.bin .eql 1 true (.p 8) (.c (.int .i64 7)), (some 62), none⟩,
    ⟨.assign (.p 62), (some 61), none⟩]
@[simp] def eq30_37 := id q30_37.eq_1
def q30_38 : List AOper :=
  [⟨.bin .eql 1 true (.p 8) (.c (.int .i64 5)), (some 31), none⟩,
    ⟨.assign (.p 31), (some 30), none⟩]
@[simp] def eq30_38 := id q30_38.eq_1
def q30_39 : List AOper :=
  [⟨.bin .eql 1 true (.p 8) (.c (.int .i64 4)), (some 26), none⟩,
    ⟨.assign (.p 26), (some 24), none⟩]
@[simp] def eq30_39 := id q30_39.eq_1
def q30_40 : List AOper :=
  [⟨.bin .eql 1 true (.p 8) (.c (.int .i64 3)), (some 25), none⟩,
    ⟨.assign (.p 25), (some 24), none⟩]
@[simp] def eq30_40 := id q30_40.eq_1
def q30_41 : List AOper :=
  [⟨.bin .eql 1 true (.p 8) (.c (.int .i64 14)), (some 19), none⟩,
    ⟨.assign (.p 19), (some 16), none⟩]
@[simp] def eq30_41 := id q30_41.eq_1
def q30_42 : List AOper :=
  [⟨.bin .eql 1 true (.p 8) (.c (.int .i64 13)), (some 18), none⟩,
    ⟨.assign (.p 18), (some 16), none⟩]
@[simp] def eq30_42 := id q30_42.eq_1
def q30_43 : List AOper :=
  [⟨.bin .eql 1 true (.p 8) (.c (.int .i64 2)), (some 17), none⟩,
    ⟨.assign (.p 17), (some 16), none⟩]
@[simp] def eq30_43 := id q30_43.eq_1
def q30_44 : List AOper :=
  [⟨.bin .eql 1 true (.p 8) (.c (.int .i64 17)), (some 11), none⟩,
    ⟨.assign (.p 11), (some 9), none⟩]
@[simp] def eq30_44 := id q30_44.eq_1
def q30_45 : List AOper :=
  [⟨.bin .eql 1 true (.p 8) (.c (.int .i64 1)), (some 10), none⟩,
    ⟨.assign (.p 10), (some 9), none⟩]
@[simp] def eq30_45 := id q30_45.eq_1
def q30_46 : List AOper :=
  [⟨.fieldAddr 0 (.p 1), (some 7), none⟩,
    ⟨.load .head false 1 (.p 7), (some 8), none⟩]
@[simp] def eq30_46 := id q30_46.eq_1
def q30_47 : List AOper :=
  [⟨.box 1 (.p 0), (some 1), none⟩,
    ⟨.assign (.c (.slice .nil 0 1 [])), (some 2), none⟩]
@[simp] def eq30_47 := id q30_47.eq_1
def k30_0 : ACode :=
  .ops q30_0 .ret
@[simp] theorem xk30_0 : GoC fns Q s k30_0 st ↔ GoO fns Q s q30_0 .ret st := goC_ops
def k30_1 : ACode :=
  .ops q30_1 .skip
@[simp] theorem xk30_1 : GoC fns Q s k30_1 st ↔ GoO fns Q s q30_1 .skip st := goC_ops
def k30_2 : ACode :=
  .ops q30_2 .skip
@[simp] theorem xk30_2 : GoC fns Q s k30_2 st ↔ GoO fns Q s q30_2 .skip st := goC_ops
def k30_3 : ACode :=
  .ops q30_3 .skip
@[simp] theorem xk30_3 : GoC fns Q s k30_3 st ↔ GoO fns Q s q30_3 .skip st := goC_ops
def k30_4 : ACode :=
  .ops q30_4 .skip
@[simp] theorem xk30_4 : GoC fns Q s k30_4 st ↔ GoO fns Q s q30_4 .skip st := goC_ops
def k30_5 : ACode :=
  .ops q30_5 .skip
@[simp] theorem xk30_5 : GoC fns Q s k30_5 st ↔ GoO fns Q s q30_5 .skip st := goC_ops
def k30_6 : ACode :=
  .ops q30_6 k30_5
@[simp] theorem xk30_6 : GoC fns Q s k30_6 st ↔ GoO fns Q s q30_6 k30_5 st := goC_ops
def k30_7 : ACode :=
  .ops q30_7 k30_6
@[simp] theorem xk30_7 : GoC fns Q s k30_7 st ↔ GoO fns Q s q30_7 k30_6 st := goC_ops
def k30_8 : ACode :=
  .ops q30_8 .skip
@[simp] theorem xk30_8 : GoC fns Q s k30_8 st ↔ GoO fns Q s q30_8 .skip st := goC_ops
def k30_9 : ACode :=
  .ops q30_9 k30_8
@[simp] theorem xk30_9 : GoC fns Q s k30_9 st ↔ GoO fns Q s q30_9 k30_8 st := goC_ops
def k30_10 : ACode :=
  .cond (.p 37) k30_7 k30_9
@[simp] theorem xk30_10 : GoC fns Q s k30_10 st ↔ GB fns Q s (peek st (.p 37)) k30_7 k30_9 st := goC_cond
def k30_11 : ACode :=
  .seq k30_10 k30_4
@[simp] theorem xk30_11 : GoC fns Q s k30_11 st ↔ GoC fns Q (.sq k30_4 :: s) k30_10 st := goC_seq
def k30_12 : ACode :=
  .ops q30_10 k30_11
@[simp] theorem xk30_12 : GoC fns Q s k30_12 st ↔ GoO fns Q s q30_10 k30_11 st := goC_ops
def k30_13 : ACode :=
  .ops q30_11 k30_12
@[simp] theorem xk30_13 : GoC fns Q s k30_13 st ↔ GoO fns Q s q30_11 k30_12 st := goC_ops
def k30_14 : ACode :=
  .ops q30_12 .skip
@[simp] theorem xk30_14 : GoC fns Q s k30_14 st ↔ GoO fns Q s q30_12 .skip st := goC_ops
def k30_15 : ACode :=
  .ops q30_13 .skip
@[simp] theorem xk30_15 : GoC fns Q s k30_15 st ↔ GoO fns Q s q30_13 .skip st := goC_ops
def k30_16 : ACode :=
  .ops q30_14 .skip
@[simp] theorem xk30_16 : GoC fns Q s k30_16 st ↔ GoO fns Q s q30_14 .skip st := goC_ops
def k30_17 : ACode :=
  .ops q30_15 .skip
@[simp] theorem xk30_17 : GoC fns Q s k30_17 st ↔ GoO fns Q s q30_15 .skip st := goC_ops
def k30_18 : ACode :=
  .ops q30_16 .skip
@[simp] theorem xk30_18 : GoC fns Q s k30_18 st ↔ GoO fns Q s q30_16 .skip st := goC_ops
def k30_19 : ACode :=
  .ops q30_17 k30_18
@[simp] theorem xk30_19 : GoC fns Q s k30_19 st ↔ GoO fns Q s q30_17 k30_18 st := goC_ops
def k30_20 : ACode :=
  .ops q30_18 k30_19
@[simp] theorem xk30_20 : GoC fns Q s k30_20 st ↔ GoO fns Q s q30_18 k30_19 st := goC_ops
def k30_21 : ACode :=
  .ops q30_19 k30_20
@[simp] theorem xk30_21 : GoC fns Q s k30_21 st ↔ GoO fns Q s q30_19 k30_20 st := goC_ops
def k30_22 : ACode :=
  .ops q30_20 .skip
@[simp] theorem xk30_22 : GoC fns Q s k30_22 st ↔ GoO fns Q s q30_20 .skip st := goC_ops
def k30_23 : ACode :=
  .ops q30_21 k30_22
@[simp] theorem xk30_23 : GoC fns Q s k30_23 st ↔ GoO fns Q s q30_21 k30_22 st := goC_ops
def k30_24 : ACode :=
  .ops q30_22 .skip
@[simp] theorem xk30_24 : GoC fns Q s k30_24 st ↔ GoO fns Q s q30_22 .skip st := goC_ops
def k30_25 : ACode :=
  .ops q30_23 k30_24
@[simp] theorem xk30_25 : GoC fns Q s k30_25 st ↔ GoO fns Q s q30_23 k30_24 st := goC_ops
def k30_26 : ACode :=
  .ops q30_24 k30_25
@[simp] theorem xk30_26 : GoC fns Q s k30_26 st ↔ GoO fns Q s q30_24 k30_25 st := goC_ops
def k30_27 : ACode :=
  .ops q30_25 k30_26
@[simp] theorem xk30_27 : GoC fns Q s k30_27 st ↔ GoO fns Q s q30_25 k30_26 st := goC_ops
def k30_28 : ACode :=
  .ops q30_26 k30_27
@[simp] theorem xk30_28 : GoC fns Q s k30_28 st ↔ GoO fns Q s q30_26 k30_27 st := goC_ops
def k30_29 : ACode :=
  .ops q30_27 .skip
@[simp] theorem xk30_29 : GoC fns Q s k30_29 st ↔ GoO fns Q s q30_27 .skip st := goC_ops
def k30_30 : ACode :=
  .ops q30_28 k30_29
@[simp] theorem xk30_30 : GoC fns Q s k30_30 st ↔ GoO fns Q s q30_28 k30_29 st := goC_ops
def k30_31 : ACode :=
  .cond (.p 137) k30_30 .skip
@[simp] theorem xk30_31 : GoC fns Q s k30_31 st ↔ GB fns Q s (peek st (.p 137)) k30_30 .skip st := goC_cond
def k30_32 : ACode :=
  .ops q30_29 k30_31
@[simp] theorem xk30_32 : GoC fns Q s k30_32 st ↔ GoO fns Q s q30_29 k30_31 st := goC_ops
def k30_33 : ACode :=
  .cond (.p 115) k30_28 k30_32
@[simp] theorem xk30_33 : GoC fns Q s k30_33 st ↔ GB fns Q s (peek st (.p 115)) k30_28 k30_32 st := goC_cond
def k30_34 : ACode :=
  .ops q30_30 k30_33
@[simp] theorem xk30_34 : GoC fns Q s k30_34 st ↔ GoO fns Q s q30_30 k30_33 st := goC_ops
def k30_35 : ACode :=
  .cond (.p 105) k30_23 k30_34
@[simp] theorem xk30_35 : GoC fns Q s k30_35 st ↔ GB fns Q s (peek st (.p 105)) k30_23 k30_34 st := goC_cond
def k30_36 : ACode :=
  .ops q30_31 k30_35
@[simp] theorem xk30_36 : GoC fns Q s k30_36 st ↔ GoO fns Q s q30_31 k30_35 st := goC_ops
def k30_37 : ACode :=
  .cond (.p 89) k30_21 k30_36
@[simp] theorem xk30_37 : GoC fns Q s k30_37 st ↔ GB fns Q s (peek st (.p 89)) k30_21 k30_36 st := goC_cond
def k30_38 : ACode :=
  .ops q30_32 k30_37
@[simp] theorem xk30_38 : GoC fns Q s k30_38 st ↔ GoO fns Q s q30_32 k30_37 st := goC_ops
def k30_39 : ACode :=
  .cond (.p 83) k30_17 k30_38
@[simp] theorem xk30_39 : GoC fns Q s k30_39 st ↔ GB fns Q s (peek st (.p 83)) k30_17 k30_38 st := goC_cond
def k30_40 : ACode :=
  .ops q30_33 k30_39
@[simp] theorem xk30_40 : GoC fns Q s k30_40 st ↔ GoO fns Q s q30_33 k30_39 st := goC_ops
def k30_41 : ACode :=
  .cond (.p 75) k30_16 k30_40
@[simp] theorem xk30_41 : GoC fns Q s k30_41 st ↔ GB fns Q s (peek st (.p 75)) k30_16 k30_40 st := goC_cond
def k30_42 : ACode :=
  .ops q30_34 .skip
@[simp] theorem xk30_42 : GoC fns Q s k30_42 st ↔ GoO fns Q s q30_34 .skip st := goC_ops
def k30_43 : ACode :=
  .cond (.p 75) .skip k30_42
@[simp] theorem xk30_43 : GoC fns Q s k30_43 st ↔ GB fns Q s (peek st (.p 75)) .skip k30_42 st := goC_cond
def k30_44 : ACode :=
  .seq k30_43 k30_41
@[simp] theorem xk30_44 : GoC fns Q s k30_44 st ↔ GoC fns Q (.sq k30_41 :: s) k30_43 st := goC_seq
def k30_45 : ACode :=
  .ops q30_35 k30_44
@[simp] theorem xk30_45 : GoC fns Q s k30_45 st ↔ GoO fns Q s q30_35 k30_44 st := goC_ops
def k30_46 : ACode :=
  .cond (.p 67) k30_15 k30_45
@[simp] theorem xk30_46 : GoC fns Q s k30_46 st ↔ GB fns Q s (peek st (.p 67)) k30_15 k30_45 st := goC_cond
def k30_47 : ACode :=
  .ops q30_36 k30_46
@[simp] theorem xk30_47 : GoC fns Q s k30_47 st ↔ GoO fns Q s q30_36 k30_46 st := goC_ops
def k30_48 : ACode :=
  .cond (.p 61) k30_14 k30_47
@[simp] theorem xk30_48 : GoC fns Q s k30_48 st ↔ GB fns Q s (peek st (.p 61)) k30_14 k30_47 st := goC_cond
def k30_49 : ACode :=
  .ops q30_37 k30_48
@[simp] theorem xk30_49 : GoC fns Q s k30_49 st ↔ GoO fns Q s q30_37 k30_48 st := goC_ops
def k30_50 : ACode :=
  .cond (.p 30) k30_13 k30_49
@[simp] theorem xk30_50 : GoC fns Q s k30_50 st ↔ GB fns Q s (peek st (.p 30)) k30_13 k30_49 st := goC_cond
def k30_51 : ACode :=
  .ops q30_38 k30_50
@[simp] theorem xk30_51 : GoC fns Q s k30_51 st ↔ GoO fns Q s q30_38 k30_50 st := goC_ops
def k30_52 : ACode :=
  .cond (.p 24) k30_3 k30_51
@[simp] theorem xk30_52 : GoC fns Q s k30_52 st ↔ GB fns Q s (peek st (.p 24)) k30_3 k30_51 st := goC_cond
def k30_53 : ACode :=
  .ops q30_39 .skip
@[simp] theorem xk30_53 : GoC fns Q s k30_53 st ↔ GoO fns Q s q30_39 .skip st := goC_ops
def k30_54 : ACode :=
  .cond (.p 24) .skip k30_53
@[simp] theorem xk30_54 : GoC fns Q s k30_54 st ↔ GB fns Q s (peek st (.p 24)) .skip k30_53 st := goC_cond
def k30_55 : ACode :=
  .seq k30_54 k30_52
@[simp] theorem xk30_55 : GoC fns Q s k30_55 st ↔ GoC fns Q (.sq k30_52 :: s) k30_54 st := goC_seq
def k30_56 : ACode :=
  .ops q30_40 k30_55
@[simp] theorem xk30_56 : GoC fns Q s k30_56 st ↔ GoO fns Q s q30_40 k30_55 st := goC_ops
def k30_57 : ACode :=
  .cond (.p 16) k30_2 k30_56
@[simp] theorem xk30_57 : GoC fns Q s k30_57 st ↔ GB fns Q s (peek st (.p 16)) k30_2 k30_56 st := goC_cond
def k30_58 : ACode :=
  .ops q30_41 .skip
@[simp] theorem xk30_58 : GoC fns Q s k30_58 st ↔ GoO fns Q s q30_41 .skip st := goC_ops
def k30_59 : ACode :=
  .cond (.p 16) .skip k30_58
@[simp] theorem xk30_59 : GoC fns Q s k30_59 st ↔ GB fns Q s (peek st (.p 16)) .skip k30_58 st := goC_cond
def k30_60 : ACode :=
  .ops q30_42 k30_59
@[simp] theorem xk30_60 : GoC fns Q s k30_60 st ↔ GoO fns Q s q30_42 k30_59 st := goC_ops
def k30_61 : ACode :=
  .cond (.p 16) .skip k30_60
@[simp] theorem xk30_61 : GoC fns Q s k30_61 st ↔ GB fns Q s (peek st (.p 16)) .skip k30_60 st := goC_cond
def k30_62 : ACode :=
  .seq k30_61 k30_57
@[simp] theorem xk30_62 : GoC fns Q s k30_62 st ↔ GoC fns Q (.sq k30_57 :: s) k30_61 st := goC_seq
def k30_63 : ACode :=
  .ops q30_43 k30_62
@[simp] theorem xk30_63 : GoC fns Q s k30_63 st ↔ GoO fns Q s q30_43 k30_62 st := goC_ops
def k30_64 : ACode :=
  .cond (.p 9) k30_1 k30_63
@[simp] theorem xk30_64 : GoC fns Q s k30_64 st ↔ GB fns Q s (peek st (.p 9)) k30_1 k30_63 st := goC_cond
def k30_65 : ACode :=
  .ops q30_44 .skip
@[simp] theorem xk30_65 : GoC fns Q s k30_65 st ↔ GoO fns Q s q30_44 .skip st := goC_ops
def k30_66 : ACode :=
  .cond (.p 9) .skip k30_65
@[simp] theorem xk30_66 : GoC fns Q s k30_66 st ↔ GB fns Q s (peek st (.p 9)) .skip k30_65 st := goC_cond
def k30_67 : ACode :=
  .seq k30_66 k30_64
@[simp] theorem xk30_67 : GoC fns Q s k30_67 st ↔ GoC fns Q (.sq k30_64 :: s) k30_66 st := goC_seq
def k30_68 : ACode :=
  .ops q30_45 k30_67
@[simp] theorem xk30_68 : GoC fns Q s k30_68 st ↔ GoO fns Q s q30_45 k30_67 st := goC_ops
def k30_69 : ACode :=
  .block 0 k30_68
@[simp] theorem xk30_69 : GoC fns Q s k30_69 st ↔ GoC fns Q (.bl 0 :: s) k30_68 st := goC_block
def k30_70 : ACode :=
  .seq k30_69 k30_0
@[simp] theorem xk30_70 : GoC fns Q s k30_70 st ↔ GoC fns Q (.sq k30_0 :: s) k30_69 st := goC_seq
def k30_71 : ACode :=
  .ops q30_46 k30_70
@[simp] theorem xk30_71 : GoC fns Q s k30_71 st ↔ GoO fns Q s q30_46 k30_70 st := goC_ops
def k30_72 : ACode :=
  .ops [⟨.assign (.c (.slice .nil 0 1 [])), (some 3), none⟩] k30_71
@[simp] theorem xk30_72 : GoC fns Q s k30_72 st ↔ GoO fns Q s [⟨.assign (.c (.slice .nil 0 1 [])), (some 3), none⟩] k30_71 st := goC_ops
def k30_73 : ACode :=
  .ops q30_47 k30_72
@[simp] theorem xk30_73 : GoC fns Q s k30_73 st ↔ GoO fns Q s q30_47 k30_72 st := goC_ops
def af30 : AFunc := ⟨148, k30_73, [.tmp 2]⟩

theorem ok30 : ∃ hs, pFunc Tryd.prog sg hs Tryd.f30 = some af30 := ⟨fun i => 0, by kernel_rfl⟩
/-- No. 9 -/
def q9_0 : List AOper :=
  [⟨.fieldAddr 0 (.p 1), (some 3), none⟩,
    ⟨.load .look false 1 (.p 3), (some 4), none⟩,
    ⟨.load .look true 8 (.p 1), (some 5), none⟩,
    ⟨.call 30 [(.p 5, false)], (some 6), none⟩,
    ⟨.build [.int .i64 0, .slice .nil 0 1 []] [(0, 1, .p 4), (1, 1, .t 6)], (some 7), none⟩,
    ⟨.store 2 (.p 2) (.p 7), none, none⟩]
@[simp] def eq9_0 := id q9_0.eq_1
def q9_1 : List AOper :=
  [⟨.box 1 (.p 0), (some 1), none⟩,
    ⟨.newbox 2 [.int .i64 0, .slice .nil 0 1 []], (some 2), none⟩]
@[simp] def eq9_1 := id q9_1.eq_1
def k9_0 : ACode :=
  .ops q9_0 .ret
@[simp] theorem xk9_0 : GoC fns Q s k9_0 st ↔ GoO fns Q s q9_0 .ret st := goC_ops
def k9_1 : ACode :=
  .ops q9_1 k9_0
@[simp] theorem xk9_1 : GoC fns Q s k9_1 st ↔ GoO fns Q s q9_1 k9_0 st := goC_ops
def af9 : AFunc := ⟨8, k9_1, [.cell 2 true 2]⟩

theorem ok9 : ∃ hs, pFunc Tryd.prog sg hs Tryd.f9 = some af9 := ⟨fun i => 0, by kernel_rfl⟩
/-- No. 32 -/
def q32_0 : List AOper :=
  [⟨.fieldAddr 0 (.p 1), (some 3), none⟩,
    ⟨.load .look false 1 (.p 3), (some 4), none⟩,
    ⟨.convInt .u8 (.p 4), (some 5), none⟩,
    ⟨.fieldAddr 1 (.p 1), (some 6), none⟩,
    ⟨.load .look false 1 (.p 6), (some 7), none⟩,
    ⟨.build [.int .u8 0, .slice .nil 0 1 []] [(0, 1, .p 5), (1, 1, .t 7)], (some 8), none⟩,
    ⟨.store 2 (.p 2) (.p 8), none, none⟩]
@[simp] def eq32_0 := id q32_0.eq_1
def q32_1 : List AOper :=
  [⟨.box 1 (.p 0), (some 1), none⟩,
    ⟨.newbox 2 [.int .u8 0, .slice .nil 0 1 []], (some 2), none⟩]
@[simp] def eq32_1 := id q32_1.eq_1
def k32_0 : ACode :=
  .ops q32_0 .ret
@[simp] theorem xk32_0 : GoC fns Q s k32_0 st ↔ GoO fns Q s q32_0 .ret st := goC_ops
def k32_1 : ACode :=
  .ops q32_1 k32_0
@[simp] theorem xk32_1 : GoC fns Q s k32_1 st ↔ GoO fns Q s q32_1 k32_0 st := goC_ops
def af32 : AFunc := ⟨9, k32_1, [.cell 2 true 2]⟩

theorem ok32 : ∃ hs, pFunc Tryd.prog sg hs Tryd.f32 = some af32 := ⟨fun i => 0, by kernel_rfl⟩
/-- No. 53 -/
def q53_0 : List AOper :=
  [⟨.fieldAddr 0 (.p 1), (some 3), none⟩,
    ⟨.load .look false 1 (.p 3), (some 4), none⟩,
    ⟨.fieldAddr 1 (.p 1), (some 5), none⟩,
    ⟨.load .look false 1 (.p 5), (some 6), none⟩,
    ⟨.build [.int .u8 0, .slice .nil 0 1 []] [(0, 1, .p 4), (1, 1, .t 6)], (some 7), none⟩,
    ⟨.store 2 (.p 2) (.p 7), none, none⟩]
@[simp] def eq53_0 := id q53_0.eq_1
def q53_1 : List AOper :=
  [⟨.box 1 (.p 0), (some 1), none⟩,
    ⟨.newbox 2 [.int .u8 0, .slice .nil 0 1 []], (some 2), none⟩]
@[simp] def eq53_1 := id q53_1.eq_1
def k53_0 : ACode :=
  .ops q53_0 .ret
@[simp] theorem xk53_0 : GoC fns Q s k53_0 st ↔ GoO fns Q s q53_0 .ret st := goC_ops
def k53_1 : ACode :=
  .ops q53_1 k53_0
@[simp] theorem xk53_1 : GoC fns Q s k53_1 st ↔ GoO fns Q s q53_1 k53_0 st := goC_ops
def af53 : AFunc := ⟨8, k53_1, [.cell 2 true 2]⟩

theorem ok53 : ∃ hs, pFunc Tryd.prog sg hs Tryd.f53 = some af53 := ⟨fun i => 0, by kernel_rfl⟩
/-- No. 85 -/
def q85_0 : List AOper :=
  [⟨.move .take (.p 5), (some 35), none⟩,
    ⟨.move .look (.t 0), (some 36), none⟩,
    ⟨.sliceSl 1 (.t 36) (some (.c (.int .i64 4))) none, (some 37), none⟩,
    ⟨.assign (.p 35), (some 2), none⟩,
    ⟨.assign (.t 37), (some 3), none⟩,
    ⟨.assign (.c (.bool true)), (some 4), none⟩]
@[simp] def eq85_0 := id q85_0.eq_1
def q85_1 : List AOper :=
  [⟨.move .look (.t 0), (some 13), none⟩,
    ⟨.indexAddr 1 (.t 13) (.c (.int .i64 0)), (some 14), none⟩,
    ⟨.load .look false 1 (.p 14), (some 15), none⟩,
    ⟨.convInt .i32 (.p 15), (some 16), none⟩,
    ⟨.move .look (.t 0), (some 17), none⟩,
    ⟨.indexAddr 1 (.t 17) (.c (.int .i64 1)), (some 18), none⟩,
    ⟨.load .look false 1 (.p 18), (some 19), none⟩,
    ⟨.convInt .i32 (.p 19), (some 20), none⟩,
    ⟨.bin .shl 1 true (.p 20) (.c (.int .u64 8)), (some 21), none⟩,
    ⟨.bin .or 1 false (.p 16) (.p 21), (some 22), none⟩,
    ⟨.move .look (.t 0), (some 23), none⟩,
    ⟨.indexAddr 1 (.t 23) (.c (.int .i64 2)), (some 24), none⟩,
    ⟨.load .look false 1 (.p 24), (some 25), none⟩,
    ⟨.convInt .i32 (.p 25), (some 26), none⟩,
    ⟨.bin .shl 1 true (.p 26) (.c (.int .u64 16)), (some 27), none⟩,
    ⟨.bin .or 1 false (.p 22) (.p 27), (some 28), none⟩,
    ⟨.move .look (.t 0), (some 29), none⟩,
    ⟨.indexAddr 1 (.t 29) (.c (.int .i64 3)), (some 30), none⟩,
    ⟨.load .look false 1 (.p 30), (some 31), none⟩,
    ⟨.convInt .i32 (.p 31), (some 32), none⟩,
    ⟨.bin .shl 1 true (.p 32) (.c (.int .u64 24)), (some 33), none⟩,
    ⟨.bin .or 1 false (.p 28) (.p 33), (some 34), none⟩,
    ⟨.assign (.p 34), (some 5), none⟩]
@[simp] def eq85_1 := id q85_1.eq_1
def q85_2 : List AOper :=
  [⟨.move .look (.t 0), (some 10), none⟩,
    ⟨.indexAddr 1 (.t 10) (.c (.int .i64 3)), (some 11), none⟩,
    ⟨.load .head false 1 (.p 11), (some 12), none⟩]
@[simp] def eq85_2 := id q85_2.eq_1
def q85_3 : List AOper :=
  [⟨.move .take (.t 0), (some 9), none⟩,
    ⟨.assign (.c (.int .i32 0)), (some 2), none⟩,
    ⟨.assign (.t 9), (some 3), none⟩,
    ⟨.assign (.c (.bool false)), (some 4), none⟩]
@[simp] def eq85_3 := id q85_3.eq_1
def q85_4 : List AOper :=
  [⟨.move .head (.t 0), (some 6), none⟩,
    ⟨.len false (.p 6), (some 7), none⟩,
    ⟨.bin .lss 1 true (.p 7) (.c (.int .i64 4)), (some 8), none⟩]
@[simp] def eq85_4 := id q85_4.eq_1
def q85_5 : List AOper :=
  [⟨.assign (.c (.int .i32 0)), (some 2), none⟩,
    ⟨.assign (.c (.slice .nil 0 1 [])), (some 3), none⟩,
    ⟨.assign (.c (.bool false)), (some 4), none⟩]
@[simp] def eq85_5 := id q85_5.eq_1
def k85_0 : ACode :=
  .ops q85_0 .ret
@[simp] theorem xk85_0 : GoC fns Q s k85_0 st ↔ GoO fns Q s q85_0 .ret st := goC_ops
def k85_1 : ACode :=
  .ops q85_1 k85_0
@[simp] theorem xk85_1 : GoC fns Q s k85_1 st ↔ GoO fns Q s q85_1 k85_0 st := goC_ops
def k85_2 : ACode :=
  .ops q85_2 k85_1
@[simp] theorem xk85_2 : GoC fns Q s k85_2 st ↔ GoO fns Q s q85_2 k85_1 st := goC_ops
def k85_3 : ACode :=
  .ops q85_3 .ret
@[simp] theorem xk85_3 : GoC fns Q s k85_3 st ↔ GoO fns Q s q85_3 .ret st := goC_ops
def k85_4 : ACode :=
  .cond (.p 8) k85_3 .skip
@[simp] theorem xk85_4 : GoC fns Q s k85_4 st ↔ GB fns Q s (peek st (.p 8)) k85_3 .skip st := goC_cond
def k85_5 : ACode :=
  .seq k85_4 k85_2
@[simp] theorem xk85_5 : GoC fns Q s k85_5 st ↔ GoC fns Q (.sq k85_2 :: s) k85_4 st := goC_seq
def k85_6 : ACode :=
  .ops q85_4 k85_5
@[simp] theorem xk85_6 : GoC fns Q s k85_6 st ↔ GoO fns Q s q85_4 k85_5 st := goC_ops
def k85_7 : ACode :=
  .ops q85_5 k85_6
@[simp] theorem xk85_7 : GoC fns Q s k85_7 st ↔ GoO fns Q s q85_5 k85_6 st := goC_ops
def af85 : AFunc := ⟨38, k85_7, [.tmp 2, .tmp 3, .tmp 4]⟩

theorem ok85 : ∃ hs, pFunc Tryd.prog sg hs Tryd.f85 = some af85 := ⟨fun i => 0, by kernel_rfl⟩
/-- No. 71 -/
def q71_0 : List AOper :=
  [⟨.move .take (.p 5), (some 17), none⟩,
    ⟨.move .take (.t 0), (some 18), none⟩,
    ⟨.move .take (.p 6), (some 19), none⟩,
    ⟨.assign (.p 17), (some 2), none⟩,
    ⟨.assign (.t 18), (some 3), none⟩,
    ⟨.assign (.p 19), (some 4), none⟩]
@[simp] def eq71_0 := id q71_0.eq_1
def q71_1 : List AOper :=
  [⟨.move .take (.p 5), (some 15), none⟩,
    ⟨.move .take (.t 0), (some 16), none⟩,
    ⟨.assign (.p 15), (some 2), none⟩,
    ⟨.assign (.t 16), (some 3), none⟩,
    ⟨.assign (.c (.bool false)), (some 4), none⟩]
@[simp] def eq71_1 := id q71_1.eq_1
def q71_2 : List AOper :=
  [⟨.move .look (.p 5), (some 13), none⟩,
    ⟨.bin .lss 1 true (.p 13) (.c (.int .i32 0)), (some 14), none⟩]
@[simp] def eq71_2 := id q71_2.eq_1
def q71_3 : List AOper :=
  [⟨.move .look (.t 0), (some 8), none⟩,
    ⟨.call 85 [(.t 8, false)], (some 9), none⟩,
    ⟨.move .look (.t 9), (some 7), none⟩,
    ⟨.extract 7 0, (some 10), none⟩,
    ⟨.extract 7 1, (some 11), none⟩,
    ⟨.extract 7 2, (some 12), none⟩,
    ⟨.assign (.p 10), (some 5), none⟩,
    ⟨.assign (.t 11), (some 0), none⟩,
    ⟨.assign (.p 12), (some 6), none⟩]
@[simp] def eq71_3 := id q71_3.eq_1
def q71_4 : List AOper :=
  [⟨.assign (.c (.int .i32 0)), (some 2), none⟩,
    ⟨.assign (.c (.slice .nil 0 1 [])), (some 3), none⟩,
    ⟨.assign (.c (.bool false)), (some 4), none⟩]
@[simp] def eq71_4 := id q71_4.eq_1
def k71_0 : ACode :=
  .ops q71_0 .ret
@[simp] theorem xk71_0 : GoC fns Q s k71_0 st ↔ GoO fns Q s q71_0 .ret st := goC_ops
def k71_1 : ACode :=
  .ops q71_1 .ret
@[simp] theorem xk71_1 : GoC fns Q s k71_1 st ↔ GoO fns Q s q71_1 .ret st := goC_ops
def k71_2 : ACode :=
  .cond (.p 14) k71_1 .skip
@[simp] theorem xk71_2 : GoC fns Q s k71_2 st ↔ GB fns Q s (peek st (.p 14)) k71_1 .skip st := goC_cond
def k71_3 : ACode :=
  .seq k71_2 k71_0
@[simp] theorem xk71_3 : GoC fns Q s k71_3 st ↔ GoC fns Q (.sq k71_0 :: s) k71_2 st := goC_seq
def k71_4 : ACode :=
  .ops q71_2 k71_3
@[simp] theorem xk71_4 : GoC fns Q s k71_4 st ↔ GoO fns Q s q71_2 k71_3 st := goC_ops
def k71_5 : ACode :=
  .ops q71_3 k71_4
@[simp] theorem xk71_5 : GoC fns Q s k71_5 st ↔ GoO fns Q s q71_3 k71_4 st := goC_ops
def k71_6 : ACode :=
  .ops q71_4 k71_5
@[simp] theorem xk71_6 : GoC fns Q s k71_6 st ↔ GoO fns Q s q71_4 k71_5 st := goC_ops
def af71 : AFunc := ⟨20, k71_6, [.tmp 2, .tmp 3, .tmp 4]⟩

theorem ok71 : ∃ hs, pFunc Tryd.prog sg hs Tryd.f71 = some af71 := ⟨fun i => 0, by kernel_rfl⟩
/-- No. 82 -/
def q82_0 : List AOper :=
  [⟨.move .look (.t 0), (some 5), none⟩,
    ⟨.move .look (.p 1), (some 6), none⟩,
    ⟨.px .idxB [.p 5, .p 6], (some 7), none⟩,
    ⟨.assign (.p 7), (some 4), none⟩]
@[simp] def eq82_0 := id q82_0.eq_1
def k82_0 : ACode :=
  .ops q82_0 .ret
@[simp] theorem xk82_0 : GoC fns Q s k82_0 st ↔ GoO fns Q s q82_0 .ret st := goC_ops
def k82_1 : ACode :=
  .ops [⟨.assign (.c (.int .i64 0)), (some 4), none⟩] k82_0
@[simp] theorem xk82_1 : GoC fns Q s k82_1 st ↔ GoO fns Q s [⟨.assign (.c (.int .i64 0)), (some 4), none⟩] k82_0 st := goC_ops
def af82 : AFunc := ⟨8, k82_1, [.tmp 4]⟩

theorem ok82 : ∃ hs, pFunc Tryd.prog sg hs Tryd.f82 = some af82 := ⟨fun i => 0, by kernel_rfl⟩
/-- No. 84 -/
def q84_0 : List AOper :=
  [⟨.move .take (.p 6), (some 92), none⟩,
    ⟨.move .take (.p 7), (some 93), none⟩,
    ⟨.assign (.p 92), (some 4), none⟩,
    ⟨.assign (.p 93), (some 5), none⟩]
@[simp] def eq84_0 := id q84_0.eq_1
def q84_1 : List AOper :=
  [⟨.move .look (.p 6), (some 90), none⟩,
    ⟨.bin .lss 1 true (.p 90) (.c (.int .i32 0)), (some 91), none⟩]
@[simp] def eq84_1 := id q84_1.eq_1
def q84_2 : List AOper :=
  [⟨.move .look (.t 0), (some 16), none⟩,
    ⟨.call 71 [(.t 16, false)], (some 17), none⟩,
    ⟨.move .look (.t 17), (some 15), none⟩,
    ⟨.extract 15 0, (some 18), none⟩,
    ⟨.extract 15 1, (some 19), none⟩,
    ⟨.extract 15 2, (some 20), none⟩,
    ⟨.assign (.p 18), (some 6), none⟩,
    ⟨.assign (.p 20), (some 7), none⟩]
@[simp] def eq84_2 := id q84_2.eq_1
def q84_3 : List AOper :=
  [⟨.move .look (.p 6), (some 29), none⟩,
    ⟨.bin .add 1 true (.p 29) (.c (.int .i32 5)), (some 30), none⟩,
    ⟨.assign (.p 30), (some 6), none⟩]
@[simp] def eq84_3 := id q84_3.eq_1
def q84_4 : List AOper :=
  [⟨.move .look (.t 0), (some 24), none⟩,
    ⟨.call 71 [(.t 24, false)], (some 25), none⟩,
    ⟨.move .look (.t 25), (some 23), none⟩,
    ⟨.extract 23 0, (some 26), none⟩,
    ⟨.extract 23 1, (some 27), none⟩,
    ⟨.extract 23 2, (some 28), none⟩,
    ⟨.assign (.p 26), (some 6), none⟩,
    ⟨.assign (.p 28), (some 7), none⟩]
@[simp] def eq84_4 := id q84_4.eq_1
def q84_5 : List AOper :=
  [⟨.move .look (.p 6), (some 41), none⟩,
    ⟨.bin .add 1 true (.p 41) (.c (.int .i32 16)), (some 42), none⟩,
    ⟨.assign (.p 42), (some 6), none⟩]
@[simp] def eq84_5 := id q84_5.eq_1
def q84_6 : List AOper :=
  [⟨.move .look (.t 0), (some 36), none⟩,
    ⟨.call 71 [(.t 36, false)], (some 37), none⟩,
    ⟨.move .look (.t 37), (some 35), none⟩,
    ⟨.extract 35 0, (some 38), none⟩,
    ⟨.extract 35 1, (some 39), none⟩,
    ⟨.extract 35 2, (some 40), none⟩,
    ⟨.assign (.p 38), (some 6), none⟩,
    ⟨.assign (.p 40), (some 7), none⟩]
@[simp] def eq84_6 := id q84_6.eq_1
def q84_7 : List AOper :=
  [⟨.move .look (.p 6), (some 62), none⟩,
    ⟨.bin .add 1 true (.p 62) (.c (.int .i32 4)), (some 63), none⟩,
    ⟨.assign (.p 63), (some 6), none⟩]
@[simp] def eq84_7 := id q84_7.eq_1
def q84_8 : List AOper :=
  [⟨.move .look (.t 0), (some 57), none⟩,
    ⟨.call 71 [(.t 57, false)], (some 58), none⟩,
    ⟨.move .look (.t 58), (some 56), none⟩,
    ⟨.extract 56 0, (some 59), none⟩,
    ⟨.extract 56 1, (some 60), none⟩,
    ⟨.extract 56 2, (some 61), none⟩,
    ⟨.assign (.p 59), (some 6), none⟩,
    ⟨.assign (.p 61), (some 7), none⟩]
@[simp] def eq84_8 := id q84_8.eq_1
def q84_9 : List AOper :=
  [⟨.move .look (.p 8), (some 84), none⟩,
    ⟨.bin .add 1 true (.p 84) (.c (.int .i64 1)), (some 85), none⟩,
    ⟨.move .look (.p 9), (some 86), none⟩,
    ⟨.bin .add 1 false (.p 85) (.p 86), (some 87), none⟩,
    ⟨.bin .add 1 true (.p 87) (.c (.int .i64 1)), (some 88), none⟩,
    ⟨.convInt .i32 (.p 88), (some 89), none⟩,
    ⟨.assign (.p 89), (some 6), none⟩]
@[simp] def eq84_9 := id q84_9.eq_1
def q84_10 : List AOper :=
  [⟨.move .look (.p 9), (some 82), none⟩,
    ⟨.bin .lss 1 true (.p 82) (.c (.int .i64 0)), (some 83), none⟩]
@[simp] def eq84_10 := id q84_10.eq_1
def q84_11 : List AOper :=
  [⟨.move .look (.t 0), (some 77), none⟩,
    ⟨.move .look (.p 8), (some 78), none⟩,
    ⟨.bin .add 1 true (.p 78) (.c (.int .i64 1)), (some 79), none⟩,
    ⟨.sliceSl 1 (.t 77) (some (.p 79)) none, (some 80), none⟩,
    ⟨.call 82 [(.t 80, false), (.c (.int .u8 0), false)], (some 81), none⟩,
    ⟨.assign (.p 81), (some 9), none⟩]
@[simp] def eq84_11 := id q84_11.eq_1
def q84_12 : List AOper :=
  [⟨.move .look (.p 8), (some 75), none⟩,
    ⟨.bin .lss 1 true (.p 75) (.c (.int .i64 0)), (some 76), none⟩]
@[simp] def eq84_12 := id q84_12.eq_1
def q84_13 : List AOper :=
  [⟨.move .look (.t 0), (some 73), none⟩,
    ⟨.call 82 [(.t 73, false), (.c (.int .u8 0), false)], (some 74), none⟩,
    ⟨.assign (.p 74), (some 8), none⟩]
@[simp] def eq84_13 := id q84_13.eq_1
def q84_14 : List AOper :=
  [⟨.bin .eql 1 true (.p 10) (.c (.int .u8 11)), (some 72), none⟩,
    ⟨.assign (.p 72), (some 71), none⟩]
@[simp] def eq84_14 := id q84_14.eq_1
def q84_15 : List AOper :=
  [⟨.bin .eql 1 true (.p 10) (.c (.int .u8 7)), (some 70), none⟩,
    ⟨.assign (.p 70), (some 69), none⟩]
@[simp] def eq84_15 := id q84_15.eq_1
def q84_16 : List AOper :=
  [⟨.bin .eql 1 true (.p 10) (.c (.int .u8 6)), (some 68), none⟩,
    ⟨.assign (.p 68), (some 64), none⟩]
@[simp] def eq84_16 := id q84_16.eq_1
def q84_17 : List AOper :=
  [⟨.bin .eql 1 true (.p 10) (.c (.int .u8 10)), (some 67), none⟩,
    ⟨.assign (.p 67), (some 64), none⟩]
@[simp] def eq84_17 := id q84_17.eq_1
def q84_18 : List AOper :=
  [⟨.bin .eql 1 true (.p 10) (.c (.int .u8 255)), (some 66), none⟩,
    ⟨.assign (.p 66), (some 64), none⟩]
@[simp] def eq84_18 := id q84_18.eq_1
def q84_19 : List AOper :=
  [⟨.bin .eql 1 true (.p 10) (.c (.int .u8 127)), (some 65), none⟩,
    ⟨.assign (.p 65), (some 64), none⟩]
@[simp] def eq84_19 := id q84_19.eq_1
def q84_20 : List AOper :=
  [⟨.bin .eql 1 true (.p 10) (.c (.int .u8 14)), (some 55), none⟩,
    ⟨.assign (.p 55), (some 52), none⟩]
@[simp] def eq84_20 := id q84_20.eq_1
def q84_21 : List AOper :=
  [⟨.bin .eql 1 true (.p 10) (.c (.int .u8 2)), (some 54), none⟩,
    ⟨.assign (.p 54), (some 52), none⟩]
@[simp] def eq84_21 := id q84_21.eq_1
def q84_22 : List AOper :=
  [⟨.bin .eql 1 true (.p 10) (.c (.int .u8 13)), (some 53), none⟩,
    ⟨.assign (.p 53), (some 52), none⟩]
@[simp] def eq84_22 := id q84_22.eq_1
def q84_23 : List AOper :=
  [⟨.bin .eql 1 true (.p 10) (.c (.int .u8 16)), (some 51), none⟩,
    ⟨.assign (.p 51), (some 50), none⟩]
@[simp] def eq84_23 := id q84_23.eq_1
def q84_24 : List AOper :=
  [⟨.bin .eql 1 true (.p 10) (.c (.int .u8 19)), (some 49), none⟩,
    ⟨.assign (.p 49), (some 48), none⟩]
@[simp] def eq84_24 := id q84_24.eq_1
def q84_25 : List AOper :=
  [⟨.bin .eql 1 true (.p 10) (.c (.int .u8 17)), (some 47), none⟩,
    ⟨.assign (.p 47), (some 43), none⟩]
@[simp] def eq84_25 := id q84_25.eq_1
def q84_26 : List AOper :=
  [⟨.bin .eql 1 true (.p 10) (.c (.int .u8 18)), (some 46), none⟩,
    ⟨.assign (.p 46), (some 43), none⟩]
@[simp] def eq84_26 := id q84_26.eq_1
def q84_27 : List AOper :=
  [⟨.bin .eql 1 true (.p 10) (.c (.int .u8 1)), (some 45), none⟩,
    ⟨.assign (.p 45), (some 43), none⟩]
@[simp] def eq84_27 := id q84_27.eq_1
def q84_28 : List AOper :=
  [⟨.bin .eql 1 true (.p 10) (.c (.int .u8 9)), (some 44), none⟩,
    ⟨.assign (.p 44), (some 43), none⟩]
@[simp] def eq84_28 := id q84_28.eq_1
def q84_29 : List AOper :=
  [⟨.bin .eql 1 true (.p 10) (.c (.int .u8 12)), (some 34), none⟩,
    ⟨.assign (.p 34), (some 33), none⟩]
@[simp] def eq84_29 := id q84_29.eq_1
def q84_30 : List AOper :=
  [⟨.bin .eql 1 true (.p 10) (.c (.int .u8 8)), (some 32), none⟩,
    ⟨.assign (.p 32), (some 31), none⟩]
@[simp] def eq84_30 := id q84_30.eq_1
def q84_31 : List AOper :=
  [⟨.bin .eql 1 true (.p 10) (.c (.int .u8 5)), (some 22), none⟩,
    ⟨.assign (.p 22), (some 21), none⟩]
@[simp] def eq84_31 := id q84_31.eq_1
def q84_32 : List AOper :=
  [⟨.bin .eql 1 true (.p 10) (.c (.int .u8 15)), (some 14), none⟩,
    ⟨.assign (.p 14), (some 11), none⟩]
@[simp] def eq84_32 := id q84_32.eq_1
def q84_33 : List AOper :=
  [⟨.bin .eql 1 true (.p 10) (.c (.int .u8 3)), (some 13), none⟩,
    ⟨.assign (.p 13), (some 11), none⟩]
@[simp] def eq84_33 := id q84_33.eq_1
def q84_34 : List AOper :=
  [⟨.bin .eql 1 true (.p 10) (.c (.int .u8 4)), (some 12), none⟩,
    ⟨.assign (.p 12), (some 11), none⟩]
@[simp] def eq84_34 := id q84_34.eq_1
def q84_35 : List AOper :=
  [⟨.assign (.c (.int .i32 0)), (some 4), none⟩,
    ⟨.assign (.c (.bool false)), (some 5), none⟩]
@[simp] def eq84_35 := id q84_35.eq_1
def k84_0 : ACode :=
  .ops q84_0 .ret
@[simp] theorem xk84_0 : GoC fns Q s k84_0 st ↔ GoO fns Q s q84_0 .ret st := goC_ops
def k84_1 : ACode :=
  .ops [⟨.assign (.c (.bool false)), (some 7), none⟩] .skip
@[simp] theorem xk84_1 : GoC fns Q s k84_1 st ↔ GoO fns Q s [⟨.assign (.c (.bool false)), (some 7), none⟩] .skip st := goC_ops
def k84_2 : ACode :=
  .cond (.p 91) k84_1 .skip
@[simp] theorem xk84_2 : GoC fns Q s k84_2 st ↔ GB fns Q s (peek st (.p 91)) k84_1 .skip st := goC_cond
def k84_3 : ACode :=
  .seq k84_2 k84_0
@[simp] theorem xk84_3 : GoC fns Q s k84_3 st ↔ GoC fns Q (.sq k84_0 :: s) k84_2 st := goC_seq
def k84_4 : ACode :=
  .ops q84_1 k84_3
@[simp] theorem xk84_4 : GoC fns Q s k84_4 st ↔ GoO fns Q s q84_1 k84_3 st := goC_ops
def k84_5 : ACode :=
  .ops q84_2 .skip
@[simp] theorem xk84_5 : GoC fns Q s k84_5 st ↔ GoO fns Q s q84_2 .skip st := goC_ops
def k84_6 : ACode :=
  .ops q84_3 .skip
@[simp] theorem xk84_6 : GoC fns Q s k84_6 st ↔ GoO fns Q s q84_3 .skip st := goC_ops
def k84_7 : ACode :=
  .ops q84_4 k84_6
@[simp] theorem xk84_7 : GoC fns Q s k84_7 st ↔ GoO fns Q s q84_4 k84_6 st := goC_ops
def k84_8 : ACode :=
  .ops [⟨.assign (.c (.int .i32 1)), (some 6), none⟩] .skip
@[simp] theorem xk84_8 : GoC fns Q s k84_8 st ↔ GoO fns Q s [⟨.assign (.c (.int .i32 1)), (some 6), none⟩] .skip st := goC_ops
def k84_9 : ACode :=
  .ops q84_5 .skip
@[simp] theorem xk84_9 : GoC fns Q s k84_9 st ↔ GoO fns Q s q84_5 .skip st := goC_ops
def k84_10 : ACode :=
  .ops q84_6 k84_9
@[simp] theorem xk84_10 : GoC fns Q s k84_10 st ↔ GoO fns Q s q84_6 k84_9 st := goC_ops
def k84_11 : ACode :=
  .ops [⟨.assign (.c (.int .i32 8)), (some 6), none⟩] .skip
@[simp] theorem xk84_11 : GoC fns Q s k84_11 st ↔ GoO fns Q s [⟨.assign (.c (.int .i32 8)), (some 6), none⟩] .skip st := goC_ops
def k84_12 : ACode :=
  .ops [⟨.assign (.c (.int .i32 16)), (some 6), none⟩] .skip
@[simp] theorem xk84_12 : GoC fns Q s k84_12 st ↔ GoO fns Q s [⟨.assign (.c (.int .i32 16)), (some 6), none⟩] .skip st := goC_ops
def k84_13 : ACode :=
  .ops [⟨.assign (.c (.int .i32 4)), (some 6), none⟩] .skip
@[simp] theorem xk84_13 : GoC fns Q s k84_13 st ↔ GoO fns Q s [⟨.assign (.c (.int .i32 4)), (some 6), none⟩] .skip st := goC_ops
def k84_14 : ACode :=
  .ops q84_7 .skip
@[simp] theorem xk84_14 : GoC fns Q s k84_14 st ↔ GoO fns Q s q84_7 .skip st := goC_ops
def k84_15 : ACode :=
  .ops q84_8 k84_14
@[simp] theorem xk84_15 : GoC fns Q s k84_15 st ↔ GoO fns Q s q84_8 k84_14 st := goC_ops
def k84_16 : ACode :=
  .ops [⟨.assign (.c (.int .i32 0)), (some 6), none⟩] .skip
@[simp] theorem xk84_16 : GoC fns Q s k84_16 st ↔ GoO fns Q s [⟨.assign (.c (.int .i32 0)), (some 6), none⟩] .skip st := goC_ops
def k84_17 : ACode :=
  .ops [⟨.assign (.c (.int .i32 12)), (some 6), none⟩] .skip
@[simp] theorem xk84_17 : GoC fns Q s k84_17 st ↔ GoO fns Q s [⟨.assign (.c (.int .i32 12)), (some 6), none⟩] .skip st := goC_ops
def k84_18 : ACode :=
  .ops q84_9 .skip
@[simp] theorem xk84_18 : GoC fns Q s k84_18 st ↔ GoO fns Q s q84_9 .skip st := goC_ops
def k84_19 : ACode :=
  .ops [⟨.assign (.c (.bool false)), (some 7), none⟩] (.exit 0)
@[simp] theorem xk84_19 : GoC fns Q s k84_19 st ↔ GoO fns Q s [⟨.assign (.c (.bool false)), (some 7), none⟩] (.exit 0) st := goC_ops
def k84_20 : ACode :=
  .cond (.p 83) k84_19 .skip
@[simp] theorem xk84_20 : GoC fns Q s k84_20 st ↔ GB fns Q s (peek st (.p 83)) k84_19 .skip st := goC_cond
def k84_21 : ACode :=
  .seq k84_20 k84_18
@[simp] theorem xk84_21 : GoC fns Q s k84_21 st ↔ GoC fns Q (.sq k84_18 :: s) k84_20 st := goC_seq
def k84_22 : ACode :=
  .ops q84_10 k84_21
@[simp] theorem xk84_22 : GoC fns Q s k84_22 st ↔ GoO fns Q s q84_10 k84_21 st := goC_ops
def k84_23 : ACode :=
  .ops q84_11 k84_22
@[simp] theorem xk84_23 : GoC fns Q s k84_23 st ↔ GoO fns Q s q84_11 k84_22 st := goC_ops
def k84_24 : ACode :=
  .ops [⟨.assign (.c (.bool false)), (some 7), none⟩] (.exit 0)
@[simp] theorem xk84_24 : GoC fns Q s k84_24 st ↔ GoO fns Q s [⟨.assign (.c (.bool false)), (some 7), none⟩] (.exit 0) st := goC_ops
def k84_25 : ACode :=
  .cond (.p 76) k84_24 .skip
@[simp] theorem xk84_25 : GoC fns Q s k84_25 st ↔ GB fns Q s (peek st (.p 76)) k84_24 .skip st := goC_cond
def k84_26 : ACode :=
  .seq k84_25 k84_23
@[simp] theorem xk84_26 : GoC fns Q s k84_26 st ↔ GoC fns Q (.sq k84_23 :: s) k84_25 st := goC_seq
def k84_27 : ACode :=
  .ops q84_12 k84_26
@[simp] theorem xk84_27 : GoC fns Q s k84_27 st ↔ GoO fns Q s q84_12 k84_26 st := goC_ops
def k84_28 : ACode :=
  .ops q84_13 k84_27
@[simp] theorem xk84_28 : GoC fns Q s k84_28 st ↔ GoO fns Q s q84_13 k84_27 st := goC_ops
def k84_29 : ACode :=
  .ops [⟨.assign (.c (.bool false)), (some 7), none⟩] .skip
@[simp] theorem xk84_29 : GoC fns Q s k84_29 st ↔ GoO fns Q s [⟨.assign (.c (.bool false)), (some 7), none⟩] .skip st := goC_ops
def k84_30 : ACode :=
  .cond (.p 71) k84_28 k84_29
@[simp] theorem xk84_30 : GoC fns Q s k84_30 st ↔ GB fns Q s (peek st (.p 71)) k84_28 k84_29 st := goC_cond
def k84_31 : ACode :=
  .ops q84_14 k84_30
@[simp] theorem xk84_31 : GoC fns Q s k84_31 st ↔ GoO fns Q s q84_14 k84_30 st := goC_ops
def k84_32 : ACode :=
  .cond (.p 69) k84_17 k84_31
@[simp] theorem xk84_32 : GoC fns Q s k84_32 st ↔ GB fns Q s (peek st (.p 69)) k84_17 k84_31 st := goC_cond
def k84_33 : ACode :=
  .ops q84_15 k84_32
@[simp] theorem xk84_33 : GoC fns Q s k84_33 st ↔ GoO fns Q s q84_15 k84_32 st := goC_ops
def k84_34 : ACode :=
  .cond (.p 64) k84_16 k84_33
@[simp] theorem xk84_34 : GoC fns Q s k84_34 st ↔ GB fns Q s (peek st (.p 64)) k84_16 k84_33 st := goC_cond
def k84_35 : ACode :=
  .ops q84_16 .skip
@[simp] theorem xk84_35 : GoC fns Q s k84_35 st ↔ GoO fns Q s q84_16 .skip st := goC_ops
def k84_36 : ACode :=
  .cond (.p 64) .skip k84_35
@[simp] theorem xk84_36 : GoC fns Q s k84_36 st ↔ GB fns Q s (peek st (.p 64)) .skip k84_35 st := goC_cond
def k84_37 : ACode :=
  .ops q84_17 k84_36
@[simp] theorem xk84_37 : GoC fns Q s k84_37 st ↔ GoO fns Q s q84_17 k84_36 st := goC_ops
def k84_38 : ACode :=
  .cond (.p 64) .skip k84_37
@[simp] theorem xk84_38 : GoC fns Q s k84_38 st ↔ GB fns Q s (peek st (.p 64)) .skip k84_37 st := goC_cond
def k84_39 : ACode :=
  .ops q84_18 k84_38
@[simp] theorem xk84_39 : GoC fns Q s k84_39 st ↔ GoO fns Q s q84_18 k84_38 st := goC_ops
def k84_40 : ACode :=
  .cond (.p 64) .skip k84_39
@[simp] theorem xk84_40 : GoC fns Q s k84_40 st ↔ GB fns Q s (peek st (.p 64)) .skip k84_39 st := goC_cond
def k84_41 : ACode :=
  .seq k84_40 k84_34
@[simp] theorem xk84_41 : GoC fns Q s k84_41 st ↔ GoC fns Q (.sq k84_34 :: s) k84_40 st := goC_seq
def k84_42 : ACode :=
  .ops q84_19 k84_41
@[simp] theorem xk84_42 : GoC fns Q s k84_42 st ↔ GoO fns Q s q84_19 k84_41 st := goC_ops
def k84_43 : ACode :=
  .cond (.p 52) k84_15 k84_42
@[simp] theorem xk84_43 : GoC fns Q s k84_43 st ↔ GB fns Q s (peek st (.p 52)) k84_15 k84_42 st := goC_cond
def k84_44 : ACode :=
  .ops q84_20 .skip
@[simp] theorem xk84_44 : GoC fns Q s k84_44 st ↔ GoO fns Q s q84_20 .skip st := goC_ops
def k84_45 : ACode :=
  .cond (.p 52) .skip k84_44
@[simp] theorem xk84_45 : GoC fns Q s k84_45 st ↔ GB fns Q s (peek st (.p 52)) .skip k84_44 st := goC_cond
def k84_46 : ACode :=
  .ops q84_21 k84_45
@[simp] theorem xk84_46 : GoC fns Q s k84_46 st ↔ GoO fns Q s q84_21 k84_45 st := goC_ops
def k84_47 : ACode :=
  .cond (.p 52) .skip k84_46
@[simp] theorem xk84_47 : GoC fns Q s k84_47 st ↔ GB fns Q s (peek st (.p 52)) .skip k84_46 st := goC_cond
def k84_48 : ACode :=
  .seq k84_47 k84_43
@[simp] theorem xk84_48 : GoC fns Q s k84_48 st ↔ GoC fns Q (.sq k84_43 :: s) k84_47 st := goC_seq
def k84_49 : ACode :=
  .ops q84_22 k84_48
@[simp] theorem xk84_49 : GoC fns Q s k84_49 st ↔ GoO fns Q s q84_22 k84_48 st := goC_ops
def k84_50 : ACode :=
  .cond (.p 50) k84_13 k84_49
@[simp] theorem xk84_50 : GoC fns Q s k84_50 st ↔ GB fns Q s (peek st (.p 50)) k84_13 k84_49 st := goC_cond
def k84_51 : ACode :=
  .ops q84_23 k84_50
@[simp] theorem xk84_51 : GoC fns Q s k84_51 st ↔ GoO fns Q s q84_23 k84_50 st := goC_ops
def k84_52 : ACode :=
  .cond (.p 48) k84_12 k84_51
@[simp] theorem xk84_52 : GoC fns Q s k84_52 st ↔ GB fns Q s (peek st (.p 48)) k84_12 k84_51 st := goC_cond
def k84_53 : ACode :=
  .ops q84_24 k84_52
@[simp] theorem xk84_53 : GoC fns Q s k84_53 st ↔ GoO fns Q s q84_24 k84_52 st := goC_ops
def k84_54 : ACode :=
  .cond (.p 43) k84_11 k84_53
@[simp] theorem xk84_54 : GoC fns Q s k84_54 st ↔ GB fns Q s (peek st (.p 43)) k84_11 k84_53 st := goC_cond
def k84_55 : ACode :=
  .ops q84_25 .skip
@[simp] theorem xk84_55 : GoC fns Q s k84_55 st ↔ GoO fns Q s q84_25 .skip st := goC_ops
def k84_56 : ACode :=
  .cond (.p 43) .skip k84_55
@[simp] theorem xk84_56 : GoC fns Q s k84_56 st ↔ GB fns Q s (peek st (.p 43)) .skip k84_55 st := goC_cond
def k84_57 : ACode :=
  .ops q84_26 k84_56
@[simp] theorem xk84_57 : GoC fns Q s k84_57 st ↔ GoO fns Q s q84_26 k84_56 st := goC_ops
def k84_58 : ACode :=
  .cond (.p 43) .skip k84_57
@[simp] theorem xk84_58 : GoC fns Q s k84_58 st ↔ GB fns Q s (peek st (.p 43)) .skip k84_57 st := goC_cond
def k84_59 : ACode :=
  .ops q84_27 k84_58
@[simp] theorem xk84_59 : GoC fns Q s k84_59 st ↔ GoO fns Q s q84_27 k84_58 st := goC_ops
def k84_60 : ACode :=
  .cond (.p 43) .skip k84_59
@[simp] theorem xk84_60 : GoC fns Q s k84_60 st ↔ GB fns Q s (peek st (.p 43)) .skip k84_59 st := goC_cond
def k84_61 : ACode :=
  .seq k84_60 k84_54
@[simp] theorem xk84_61 : GoC fns Q s k84_61 st ↔ GoC fns Q (.sq k84_54 :: s) k84_60 st := goC_seq
def k84_62 : ACode :=
  .ops q84_28 k84_61
@[simp] theorem xk84_62 : GoC fns Q s k84_62 st ↔ GoO fns Q s q84_28 k84_61 st := goC_ops
def k84_63 : ACode :=
  .cond (.p 33) k84_10 k84_62
@[simp] theorem xk84_63 : GoC fns Q s k84_63 st ↔ GB fns Q s (peek st (.p 33)) k84_10 k84_62 st := goC_cond
def k84_64 : ACode :=
  .ops q84_29 k84_63
@[simp] theorem xk84_64 : GoC fns Q s k84_64 st ↔ GoO fns Q s q84_29 k84_63 st := goC_ops
def k84_65 : ACode :=
  .cond (.p 31) k84_8 k84_64
@[simp] theorem xk84_65 : GoC fns Q s k84_65 st ↔ GB fns Q s (peek st (.p 31)) k84_8 k84_64 st := goC_cond
def k84_66 : ACode :=
  .ops q84_30 k84_65
@[simp] theorem xk84_66 : GoC fns Q s k84_66 st ↔ GoO fns Q s q84_30 k84_65 st := goC_ops
def k84_67 : ACode :=
  .cond (.p 21) k84_7 k84_66
@[simp] theorem xk84_67 : GoC fns Q s k84_67 st ↔ GB fns Q s (peek st (.p 21)) k84_7 k84_66 st := goC_cond
def k84_68 : ACode :=
  .ops q84_31 k84_67
@[simp] theorem xk84_68 : GoC fns Q s k84_68 st ↔ GoO fns Q s q84_31 k84_67 st := goC_ops
def k84_69 : ACode :=
  .cond (.p 11) k84_5 k84_68
@[simp] theorem xk84_69 : GoC fns Q s k84_69 st ↔ GB fns Q s (peek st (.p 11)) k84_5 k84_68 st := goC_cond
def k84_70 : ACode :=
  .ops q84_32 .skip
@[simp] theorem xk84_70 : GoC fns Q s k84_70 st ↔ GoO fns Q s q84_32 .skip st := goC_ops
def k84_71 : ACode :=
  .cond (.p 11) .skip k84_70
@[simp] theorem xk84_71 : GoC fns Q s k84_71 st ↔ GB fns Q s (peek st (.p 11)) .skip k84_70 st := goC_cond
def k84_72 : ACode :=
  .ops q84_33 k84_71
@[simp] theorem xk84_72 : GoC fns Q s k84_72 st ↔ GoO fns Q s q84_33 k84_71 st := goC_ops
def k84_73 : ACode :=
  .cond (.p 11) .skip k84_72
@[simp] theorem xk84_73 : GoC fns Q s k84_73 st ↔ GB fns Q s (peek st (.p 11)) .skip k84_72 st := goC_cond
def k84_74 : ACode :=
  .seq k84_73 k84_69
@[simp] theorem xk84_74 : GoC fns Q s k84_74 st ↔ GoC fns Q (.sq k84_69 :: s) k84_73 st := goC_seq
def k84_75 : ACode :=
  .ops q84_34 k84_74
@[simp] theorem xk84_75 : GoC fns Q s k84_75 st ↔ GoO fns Q s q84_34 k84_74 st := goC_ops
def k84_76 : ACode :=
  .block 0 k84_75
@[simp] theorem xk84_76 : GoC fns Q s k84_76 st ↔ GoC fns Q (.bl 0 :: s) k84_75 st := goC_block
def k84_77 : ACode :=
  .seq k84_76 k84_4
@[simp] theorem xk84_77 : GoC fns Q s k84_77 st ↔ GoC fns Q (.sq k84_4 :: s) k84_76 st := goC_seq
def k84_78 : ACode :=
  .ops [⟨.move .head (.p 1), (some 10), none⟩] k84_77
@[simp] theorem xk84_78 : GoC fns Q s k84_78 st ↔ GoO fns Q s [⟨.move .head (.p 1), (some 10), none⟩] k84_77 st := goC_ops
def k84_79 : ACode :=
  .ops [⟨.assign (.c (.bool true)), (some 7), none⟩] k84_78
@[simp] theorem xk84_79 : GoC fns Q s k84_79 st ↔ GoO fns Q s [⟨.assign (.c (.bool true)), (some 7), none⟩] k84_78 st := goC_ops
def k84_80 : ACode :=
  .ops [⟨.assign (.c (.int .i32 0)), (some 6), none⟩] k84_79
@[simp] theorem xk84_80 : GoC fns Q s k84_80 st ↔ GoO fns Q s [⟨.assign (.c (.int .i32 0)), (some 6), none⟩] k84_79 st := goC_ops
def k84_81 : ACode :=
  .ops q84_35 k84_80
@[simp] theorem xk84_81 : GoC fns Q s k84_81 st ↔ GoO fns Q s q84_35 k84_80 st := goC_ops
def af84 : AFunc := ⟨94, k84_81, [.tmp 4, .tmp 5]⟩

theorem ok84 : ∃ hs, pFunc Tryd.prog sg hs Tryd.f84 = some af84 := ⟨fun i => 0, by kernel_rfl⟩
/-- No. 69 -/
def q69_0 : List AOper :=
  [⟨.move .look (.t 0), (some 25), none⟩,
    ⟨.move .head (.p 7), (some 26), none⟩,
    ⟨.sliceSl 1 (.t 25) none (some (.p 26)), (some 27), none⟩,
    ⟨.move .look (.t 0), (some 28), none⟩,
    ⟨.move .head (.p 7), (some 29), none⟩,
    ⟨.sliceSl 1 (.t 28) (some (.p 29)) none, (some 30), none⟩,
    ⟨.assign (.t 27), (some 4), none⟩,
    ⟨.assign (.t 30), (some 5), none⟩,
    ⟨.assign (.c (.bool true)), (some 6), none⟩]
@[simp] def eq69_0 := id q69_0.eq_1
def q69_1 : List AOper :=
  [⟨.move .take (.t 0), (some 24), none⟩,
    ⟨.assign (.c (.slice .nil 0 1 [])), (some 4), none⟩,
    ⟨.assign (.t 24), (some 5), none⟩,
    ⟨.assign (.c (.bool false)), (some 6), none⟩]
@[simp] def eq69_1 := id q69_1.eq_1
def q69_2 : List AOper :=
  [⟨.move .look (.p 8), (some 15), none⟩,
    ⟨.un .not (.p 15), (some 16), none⟩,
    ⟨.move .look (.p 16), (some 17), none⟩,
    ⟨.move .look (.p 7), (some 18), (some (17, false))⟩,
    ⟨.convInt .i64 (.p 18), (some 19), (some (17, false))⟩,
    ⟨.move .head (.t 0), (some 20), (some (17, false))⟩,
    ⟨.len false (.p 20), (some 21), (some (17, false))⟩,
    ⟨.bin .gtr 1 false (.p 19) (.p 21), (some 22), (some (17, false))⟩,
    ⟨.pick (.p 17) (.c (.bool true)) (.p 22), (some 23), none⟩]
@[simp] def eq69_2 := id q69_2.eq_1
def q69_3 : List AOper :=
  [⟨.move .look (.t 0), (some 10), none⟩,
    ⟨.move .look (.p 1), (some 11), none⟩,
    ⟨.call 84 [(.t 10, false), (.p 11, false)], (some 12), none⟩,
    ⟨.move .look (.t 12), (some 9), none⟩,
    ⟨.extract 9 0, (some 13), none⟩,
    ⟨.extract 9 1, (some 14), none⟩,
    ⟨.assign (.p 13), (some 7), none⟩,
    ⟨.assign (.p 14), (some 8), none⟩]
@[simp] def eq69_3 := id q69_3.eq_1
def q69_4 : List AOper :=
  [⟨.assign (.c (.slice .nil 0 1 [])), (some 4), none⟩,
    ⟨.assign (.c (.slice .nil 0 1 [])), (some 5), none⟩,
    ⟨.assign (.c (.bool false)), (some 6), none⟩]
@[simp] def eq69_4 := id q69_4.eq_1
def k69_0 : ACode :=
  .ops q69_0 .ret
@[simp] theorem xk69_0 : GoC fns Q s k69_0 st ↔ GoO fns Q s q69_0 .ret st := goC_ops
def k69_1 : ACode :=
  .ops q69_1 .ret
@[simp] theorem xk69_1 : GoC fns Q s k69_1 st ↔ GoO fns Q s q69_1 .ret st := goC_ops
def k69_2 : ACode :=
  .cond (.p 23) k69_1 .skip
@[simp] theorem xk69_2 : GoC fns Q s k69_2 st ↔ GB fns Q s (peek st (.p 23)) k69_1 .skip st := goC_cond
def k69_3 : ACode :=
  .seq k69_2 k69_0
@[simp] theorem xk69_3 : GoC fns Q s k69_3 st ↔ GoC fns Q (.sq k69_0 :: s) k69_2 st := goC_seq
def k69_4 : ACode :=
  .ops q69_2 k69_3
@[simp] theorem xk69_4 : GoC fns Q s k69_4 st ↔ GoO fns Q s q69_2 k69_3 st := goC_ops
def k69_5 : ACode :=
  .ops q69_3 k69_4
@[simp] theorem xk69_5 : GoC fns Q s k69_5 st ↔ GoO fns Q s q69_3 k69_4 st := goC_ops
def k69_6 : ACode :=
  .ops q69_4 k69_5
@[simp] theorem xk69_6 : GoC fns Q s k69_6 st ↔ GoO fns Q s q69_4 k69_5 st := goC_ops
def af69 : AFunc := ⟨31, k69_6, [.tmp 4, .tmp 5, .tmp 6]⟩

theorem ok69 : ∃ hs, pFunc Tryd.prog sg hs Tryd.f69 = some af69 := ⟨fun i => 0, by kernel_rfl⟩
/-- No. 70 -/
def q70_0 : List AOper :=
  [⟨.move .look (.t 0), (some 5), none⟩,
    ⟨.move .look (.t 1), (some 6), none⟩,
    ⟨.build [.slice .nil 0 1 [], .slice .nil 0 1 []] [(0, 1, .t 5), (1, 1, .t 6)], (some 7), none⟩,
    ⟨.store 2 (.p 4) (.p 7), none, none⟩]
@[simp] def eq70_0 := id q70_0.eq_1
def k70_0 : ACode :=
  .ops q70_0 .ret
@[simp] theorem xk70_0 : GoC fns Q s k70_0 st ↔ GoO fns Q s q70_0 .ret st := goC_ops
def k70_1 : ACode :=
  .ops [⟨.newbox 4 [.slice .nil 0 1 [], .slice .nil 0 1 []], (some 4), none⟩] k70_0
@[simp] theorem xk70_1 : GoC fns Q s k70_1 st ↔ GoO fns Q s [⟨.newbox 4 [.slice .nil 0 1 [], .slice .nil 0 1 []], (some 4), none⟩] k70_0 st := goC_ops
def af70 : AFunc := ⟨8, k70_1, [.cell 4 true 2]⟩

theorem ok70 : ∃ hs, pFunc Tryd.prog sg hs Tryd.f70 = some af70 := ⟨fun i => 0, by kernel_rfl⟩
/-- No. 54 -/
def q54_0 : List AOper :=
  [⟨.fieldAddr 1 (.p 1), (some 17), none⟩,
    ⟨.load .look false 1 (.p 17), (some 18), none⟩,
    ⟨.fieldAddr 1 (.p 1), (some 19), none⟩,
    ⟨.load .look false 1 (.p 19), (some 20), none⟩,
    ⟨.call 70 [(.t 18, false), (.t 20, false)], (some 21), none⟩,
    ⟨.mkIface 100 (.p 21), (some 22), none⟩,
    ⟨.assign (.p 22), (some 2), none⟩]
@[simp] def eq54_0 := id q54_0.eq_1
def q54_1 : List AOper :=
  [⟨.move .look (.p 5), (some 15), none⟩,
    ⟨.un .not (.p 15), (some 16), none⟩]
@[simp] def eq54_1 := id q54_1.eq_1
def q54_2 : List AOper :=
  [⟨.fieldAddr 1 (.p 1), (some 7), none⟩,
    ⟨.load .look false 1 (.p 7), (some 8), none⟩,
    ⟨.fieldAddr 0 (.p 1), (some 9), none⟩,
    ⟨.load .look false 1 (.p 9), (some 10), none⟩,
    ⟨.call 69 [(.t 8, false), (.p 10, false)], (some 11), none⟩,
    ⟨.move .look (.t 11), (some 6), none⟩,
    ⟨.extract 6 0, (some 12), none⟩,
    ⟨.extract 6 1, (some 13), none⟩,
    ⟨.extract 6 2, (some 14), none⟩,
    ⟨.assign (.t 12), (some 3), none⟩,
    ⟨.assign (.t 13), (some 4), none⟩,
    ⟨.assign (.p 14), (some 5), none⟩]
@[simp] def eq54_2 := id q54_2.eq_1
def q54_3 : List AOper :=
  [⟨.box 1 (.p 0), (some 1), none⟩,
    ⟨.assign (.c (.nilI)), (some 2), none⟩]
@[simp] def eq54_3 := id q54_3.eq_1
def k54_0 : ACode :=
  .ops [⟨.assign (.c (.nilI)), (some 2), none⟩] .ret
@[simp] theorem xk54_0 : GoC fns Q s k54_0 st ↔ GoO fns Q s [⟨.assign (.c (.nilI)), (some 2), none⟩] .ret st := goC_ops
def k54_1 : ACode :=
  .ops q54_0 .ret
@[simp] theorem xk54_1 : GoC fns Q s k54_1 st ↔ GoO fns Q s q54_0 .ret st := goC_ops
def k54_2 : ACode :=
  .cond (.p 16) k54_1 .skip
@[simp] theorem xk54_2 : GoC fns Q s k54_2 st ↔ GB fns Q s (peek st (.p 16)) k54_1 .skip st := goC_cond
def k54_3 : ACode :=
  .seq k54_2 k54_0
@[simp] theorem xk54_3 : GoC fns Q s k54_3 st ↔ GoC fns Q (.sq k54_0 :: s) k54_2 st := goC_seq
def k54_4 : ACode :=
  .ops q54_1 k54_3
@[simp] theorem xk54_4 : GoC fns Q s k54_4 st ↔ GoO fns Q s q54_1 k54_3 st := goC_ops
def k54_5 : ACode :=
  .ops q54_2 k54_4
@[simp] theorem xk54_5 : GoC fns Q s k54_5 st ↔ GoO fns Q s q54_2 k54_4 st := goC_ops
def k54_6 : ACode :=
  .ops q54_3 k54_5
@[simp] theorem xk54_6 : GoC fns Q s k54_6 st ↔ GoO fns Q s q54_3 k54_5 st := goC_ops
def af54 : AFunc := ⟨23, k54_6, [.tmp 2]⟩

theorem ok54 : ∃ hs, pFunc Tryd.prog sg hs Tryd.f54 = some af54 := ⟨fun i => 0, by kernel_rfl⟩
/-- No. 33 -/
def q33_0 : List AOper :=
  [⟨.load .look true 2 (.p 1), (some 3), none⟩,
    ⟨.call 53 [(.p 3, false)], (some 4), none⟩,
    ⟨.call 54 [(.p 4, false)], (some 5), none⟩,
    ⟨.assign (.p 5), (some 2), none⟩]
@[simp] def eq33_0 := id q33_0.eq_1
def q33_1 : List AOper :=
  [⟨.box 1 (.p 0), (some 1), none⟩,
    ⟨.assign (.c (.nilI)), (some 2), none⟩]
@[simp] def eq33_1 := id q33_1.eq_1
def k33_0 : ACode :=
  .ops q33_0 .ret
@[simp] theorem xk33_0 : GoC fns Q s k33_0 st ↔ GoO fns Q s q33_0 .ret st := goC_ops
def k33_1 : ACode :=
  .ops q33_1 k33_0
@[simp] theorem xk33_1 : GoC fns Q s k33_1 st ↔ GoO fns Q s q33_1 k33_0 st := goC_ops
def af33 : AFunc := ⟨6, k33_1, [.tmp 2]⟩

theorem ok33 : ∃ hs, pFunc Tryd.prog sg hs Tryd.f33 = some af33 := ⟨fun i => 0, by kernel_rfl⟩
/-- No. 68 -/
def q68_0 : List AOper :=
  [⟨.move .head (.p 0), (some 37), none⟩,
    ⟨.bin .eql 5 true (.p 37) (.c (.nilI)), (some 38), none⟩]
@[simp] def eq68_0 := id q68_0.eq_1
def q68_1 : List AOper :=
  [⟨.move .look (.p 9), (some 35), none⟩,
    ⟨.dead, (some 36), none⟩,
    ⟨.assign (.p 36), (some 0), none⟩]
@[simp] def eq68_1 := id q68_1.eq_1
def q68_2 : List AOper :=
  [⟨.bin .add 1 true (.p 45) (.c (.int .i64 1)), (some 53), none⟩,
    ⟨.move .look (.p 53), (some 45), none⟩]
@[simp] def eq68_2 := id q68_2.eq_1
def q68_3 : List AOper :=
  [⟨.move .look (.p 12), (some 49), none⟩,
    ⟨.move .look (.p 1), (some 50), none⟩,
    ⟨.move .look (.p 2), (some 51), none⟩,
    ⟨.call 68 [(.p 49, false), (.p 50, false), (.p 51, false)], (some 52), none⟩]
@[simp] def eq68_3 := id q68_3.eq_1
def q68_4 : List AOper :=
  [⟨.indexAddr 1 (.t 43) (.p 45), (some 47), none⟩,
    ⟨.load .take false 1 (.p 47), (some 48), none⟩,
    ⟨.assign (.p 48), (some 12), none⟩]
@[simp] def eq68_4 := id q68_4.eq_1
def q68_5 : List AOper :=
  [⟨.move .look (.p 10), (some 42), none⟩,
    ⟨.dead, (some 43), none⟩,
    ⟨.len false (.p 43), (some 44), none⟩,
    ⟨.move .head (.c (.int .i64 0)), (some 45), none⟩]
@[simp] def eq68_5 := id q68_5.eq_1
def q68_6 : List AOper :=
  [⟨.px (.tassertI (.nilI) true [176] [8, 10, 11, 14, 15, 16, 17, 19, 69, 71, 76, 83, 100, 101, 102, 103, 105, 108, 112, 118, 143, 154, 155, 156, 167, 174, 175, 184, 208]) [.p 31], (some 39), none⟩,
    ⟨.extract 39 1, (some 40), none⟩,
    ⟨.extract 39 0, (some 41), none⟩]
@[simp] def eq68_6 := id q68_6.eq_1
def q68_7 : List AOper :=
  [⟨.px (.tassertI (.nilI) true [175] [8, 10, 11, 14, 15, 16, 17, 19, 69, 71, 76, 83, 100, 101, 102, 103, 105, 108, 112, 118, 143, 154, 155, 156, 167, 174, 176, 184, 208]) [.p 31], (some 32), none⟩,
    ⟨.extract 32 1, (some 33), none⟩,
    ⟨.extract 32 0, (some 34), none⟩]
@[simp] def eq68_7 := id q68_7.eq_1
def q68_8 : List AOper :=
  [⟨.move .look (.p 8), (some 25), none⟩,
    ⟨.move .look (.p 25), (some 26), none⟩,
    ⟨.move .look (.p 7), (some 27), (some (26, true))⟩,
    ⟨.move .look (.p 1), (some 28), (some (26, true))⟩,
    ⟨.dead, (some 29), (some (26, true))⟩,
    ⟨.pick (.p 26) (.p 29) (.c (.bool false)), (some 30), none⟩]
@[simp] def eq68_8 := id q68_8.eq_1
def q68_9 : List AOper :=
  [⟨.move .look (.p 0), (some 21), none⟩,
    ⟨.px (.tassertI (.nilI) true [] [8, 10, 11, 14, 15, 16, 17, 19, 69, 71, 76, 83, 100, 101, 102, 103, 105, 108, 112, 118, 143, 154, 155, 156, 167, 174, 175, 176, 184, 208]) [.p 21], (some 22), none⟩,
    ⟨.move .look (.t 22), (some 20), none⟩,
    ⟨.extract 20 0, (some 23), none⟩,
    ⟨.extract 20 1, (some 24), none⟩,
    ⟨.assign (.p 23), (some 7), none⟩,
    ⟨.assign (.p 24), (some 8), none⟩]
@[simp] def eq68_9 := id q68_9.eq_1
def q68_10 : List AOper :=
  [⟨.move .look (.p 2), (some 14), none⟩,
    ⟨.move .look (.p 14), (some 15), none⟩,
    ⟨.move .head (.p 0), (some 16), (some (15, true))⟩,
    ⟨.move .head (.p 1), (some 17), (some (15, true))⟩,
    ⟨.bin .eql 5 false (.p 16) (.p 17), (some 18), (some (15, true))⟩,
    ⟨.pick (.p 15) (.p 18) (.c (.bool false)), (some 19), none⟩]
@[simp] def eq68_10 := id q68_10.eq_1
def k68_0 : ACode :=
  .ops [⟨.assign (.c (.bool false)), (some 6), none⟩] .ret
@[simp] theorem xk68_0 : GoC fns Q s k68_0 st ↔ GoO fns Q s [⟨.assign (.c (.bool false)), (some 6), none⟩] .ret st := goC_ops
def k68_1 : ACode :=
  .cond (.p 38) k68_0 .skip
@[simp] theorem xk68_1 : GoC fns Q s k68_1 st ↔ GB fns Q s (peek st (.p 38)) k68_0 .skip st := goC_cond
def k68_2 : ACode :=
  .ops q68_0 k68_1
@[simp] theorem xk68_2 : GoC fns Q s k68_2 st ↔ GoO fns Q s q68_0 k68_1 st := goC_ops
def k68_3 : ACode :=
  .ops q68_1 k68_2
@[simp] theorem xk68_3 : GoC fns Q s k68_3 st ↔ GoO fns Q s q68_1 k68_2 st := goC_ops
def k68_4 : ACode :=
  .ops [⟨.assign (.p 34), (some 9), none⟩] k68_3
@[simp] theorem xk68_4 : GoC fns Q s k68_4 st ↔ GoO fns Q s [⟨.assign (.p 34), (some 9), none⟩] k68_3 st := goC_ops
def k68_5 : ACode :=
  .ops [⟨.assign (.c (.bool false)), (some 6), none⟩] .ret
@[simp] theorem xk68_5 : GoC fns Q s k68_5 st ↔ GoO fns Q s [⟨.assign (.c (.bool false)), (some 6), none⟩] .ret st := goC_ops
def k68_6 : ACode :=
  .ops q68_2 .skip
@[simp] theorem xk68_6 : GoC fns Q s k68_6 st ↔ GoO fns Q s q68_2 .skip st := goC_ops
def k68_7 : ACode :=
  .ops [⟨.assign (.c (.bool true)), (some 6), none⟩] .ret
@[simp] theorem xk68_7 : GoC fns Q s k68_7 st ↔ GoO fns Q s [⟨.assign (.c (.bool true)), (some 6), none⟩] .ret st := goC_ops
def k68_8 : ACode :=
  .cond (.p 52) k68_7 .skip
@[simp] theorem xk68_8 : GoC fns Q s k68_8 st ↔ GB fns Q s (peek st (.p 52)) k68_7 .skip st := goC_cond
def k68_9 : ACode :=
  .ops q68_3 k68_8
@[simp] theorem xk68_9 : GoC fns Q s k68_9 st ↔ GoO fns Q s q68_3 k68_8 st := goC_ops
def k68_10 : ACode :=
  .ops q68_4 k68_9
@[simp] theorem xk68_10 : GoC fns Q s k68_10 st ↔ GoO fns Q s q68_4 k68_9 st := goC_ops
def k68_11 : ACode :=
  .block 4 k68_10
@[simp] theorem xk68_11 : GoC fns Q s k68_11 st ↔ GoC fns Q (.bl 4 :: s) k68_10 st := goC_block
def k68_12 : ACode :=
  .seq k68_11 k68_6
@[simp] theorem xk68_12 : GoC fns Q s k68_12 st ↔ GoC fns Q (.sq k68_6 :: s) k68_11 st := goC_seq
def k68_13 : ACode :=
  .cond (.p 46) .skip (.exit 3)
@[simp] theorem xk68_13 : GoC fns Q s k68_13 st ↔ GB fns Q s (peek st (.p 46)) .skip (.exit 3) st := goC_cond
def k68_14 : ACode :=
  .seq k68_13 k68_12
@[simp] theorem xk68_14 : GoC fns Q s k68_14 st ↔ GoC fns Q (.sq k68_12 :: s) k68_13 st := goC_seq
def k68_15 : ACode :=
  .ops [⟨.bin .lss 1 false (.p 45) (.p 44), (some 46), none⟩] k68_14
@[simp] theorem xk68_15 : GoC fns Q s k68_15 st ↔ GoO fns Q s [⟨.bin .lss 1 false (.p 45) (.p 44), (some 46), none⟩] k68_14 st := goC_ops
def lc68_0 : ACode :=
  k68_15
@[simp] theorem xlc68_0 : GoC fns Q s lc68_0 st ↔ GoC fns Q s k68_15 st := Iff.rfl
def k68_17 : ACode :=
  .loop lc68_0
@[simp] theorem xk68_17 : GoC fns Q s k68_17 st ↔ (LoopR fns lc68_0 st fun r => GoE fns Q s r.1 r.2) := goC_loop
def k68_18 : ACode :=
  .block 3 k68_17
@[simp] theorem xk68_18 : GoC fns Q s k68_18 st ↔ GoC fns Q (.bl 3 :: s) k68_17 st := goC_block
def k68_19 : ACode :=
  .seq k68_18 k68_5
@[simp] theorem xk68_19 : GoC fns Q s k68_19 st ↔ GoC fns Q (.sq k68_5 :: s) k68_18 st := goC_seq
def k68_20 : ACode :=
  .ops q68_5 k68_19
@[simp] theorem xk68_20 : GoC fns Q s k68_20 st ↔ GoO fns Q s q68_5 k68_19 st := goC_ops
def k68_21 : ACode :=
  .ops [⟨.assign (.p 41), (some 10), none⟩] k68_20
@[simp] theorem xk68_21 : GoC fns Q s k68_21 st ↔ GoO fns Q s [⟨.assign (.p 41), (some 10), none⟩] k68_20 st := goC_ops
def k68_22 : ACode :=
  .ops [⟨.assign (.c (.bool false)), (some 6), none⟩] .ret
@[simp] theorem xk68_22 : GoC fns Q s k68_22 st ↔ GoO fns Q s [⟨.assign (.c (.bool false)), (some 6), none⟩] .ret st := goC_ops
def k68_23 : ACode :=
  .ops [⟨.assign (.p 31), (some 13), none⟩] k68_22
@[simp] theorem xk68_23 : GoC fns Q s k68_23 st ↔ GoO fns Q s [⟨.assign (.p 31), (some 13), none⟩] k68_22 st := goC_ops
def k68_24 : ACode :=
  .cond (.p 40) k68_21 k68_23
@[simp] theorem xk68_24 : GoC fns Q s k68_24 st ↔ GB fns Q s (peek st (.p 40)) k68_21 k68_23 st := goC_cond
def k68_25 : ACode :=
  .ops q68_6 k68_24
@[simp] theorem xk68_25 : GoC fns Q s k68_25 st ↔ GoO fns Q s q68_6 k68_24 st := goC_ops
def k68_26 : ACode :=
  .cond (.p 33) k68_4 k68_25
@[simp] theorem xk68_26 : GoC fns Q s k68_26 st ↔ GB fns Q s (peek st (.p 33)) k68_4 k68_25 st := goC_cond
def k68_27 : ACode :=
  .ops q68_7 k68_26
@[simp] theorem xk68_27 : GoC fns Q s k68_27 st ↔ GoO fns Q s q68_7 k68_26 st := goC_ops
def k68_28 : ACode :=
  .block 2 k68_27
@[simp] theorem xk68_28 : GoC fns Q s k68_28 st ↔ GoC fns Q (.bl 2 :: s) k68_27 st := goC_block
def k68_29 : ACode :=
  .ops [⟨.move .head (.p 0), (some 31), none⟩] k68_28
@[simp] theorem xk68_29 : GoC fns Q s k68_29 st ↔ GoO fns Q s [⟨.move .head (.p 0), (some 31), none⟩] k68_28 st := goC_ops
def k68_30 : ACode :=
  .ops [⟨.assign (.c (.bool true)), (some 6), none⟩] .ret
@[simp] theorem xk68_30 : GoC fns Q s k68_30 st ↔ GoO fns Q s [⟨.assign (.c (.bool true)), (some 6), none⟩] .ret st := goC_ops
def k68_31 : ACode :=
  .cond (.p 30) k68_30 .skip
@[simp] theorem xk68_31 : GoC fns Q s k68_31 st ↔ GB fns Q s (peek st (.p 30)) k68_30 .skip st := goC_cond
def k68_32 : ACode :=
  .seq k68_31 k68_29
@[simp] theorem xk68_32 : GoC fns Q s k68_32 st ↔ GoC fns Q (.sq k68_29 :: s) k68_31 st := goC_seq
def k68_33 : ACode :=
  .ops q68_8 k68_32
@[simp] theorem xk68_33 : GoC fns Q s k68_33 st ↔ GoO fns Q s q68_8 k68_32 st := goC_ops
def k68_34 : ACode :=
  .ops q68_9 k68_33
@[simp] theorem xk68_34 : GoC fns Q s k68_34 st ↔ GoO fns Q s q68_9 k68_33 st := goC_ops
def k68_35 : ACode :=
  .ops [⟨.assign (.c (.bool true)), (some 6), none⟩] .ret
@[simp] theorem xk68_35 : GoC fns Q s k68_35 st ↔ GoO fns Q s [⟨.assign (.c (.bool true)), (some 6), none⟩] .ret st := goC_ops
def k68_36 : ACode :=
  .cond (.p 19) k68_35 .skip
@[simp] theorem xk68_36 : GoC fns Q s k68_36 st ↔ GB fns Q s (peek st (.p 19)) k68_35 .skip st := goC_cond
def k68_37 : ACode :=
  .seq k68_36 k68_34
@[simp] theorem xk68_37 : GoC fns Q s k68_37 st ↔ GoC fns Q (.sq k68_34 :: s) k68_36 st := goC_seq
def k68_38 : ACode :=
  .ops q68_10 k68_37
@[simp] theorem xk68_38 : GoC fns Q s k68_38 st ↔ GoO fns Q s q68_10 k68_37 st := goC_ops
def k68_39 : ACode :=
  .block 1 k68_38
@[simp] theorem xk68_39 : GoC fns Q s k68_39 st ↔ GoC fns Q (.bl 1 :: s) k68_38 st := goC_block
def lc68_1 : ACode :=
  k68_39
@[simp] theorem xlc68_1 : GoC fns Q s lc68_1 st ↔ GoC fns Q s k68_39 st := Iff.rfl
def k68_41 : ACode :=
  .loop lc68_1
@[simp] theorem xk68_41 : GoC fns Q s k68_41 st ↔ (LoopR fns lc68_1 st fun r => GoE fns Q s r.1 r.2) := goC_loop
def k68_42 : ACode :=
  .block 0 k68_41
@[simp] theorem xk68_42 : GoC fns Q s k68_42 st ↔ GoC fns Q (.bl 0 :: s) k68_41 st := goC_block
def k68_43 : ACode :=
  .seq k68_42 .ret
@[simp] theorem xk68_43 : GoC fns Q s k68_43 st ↔ GoC fns Q (.sq .ret :: s) k68_42 st := goC_seq
def k68_44 : ACode :=
  .ops [⟨.assign (.c (.bool false)), (some 6), none⟩] k68_43
@[simp] theorem xk68_44 : GoC fns Q s k68_44 st ↔ GoO fns Q s [⟨.assign (.c (.bool false)), (some 6), none⟩] k68_43 st := goC_ops
def af68 : AFunc := ⟨54, k68_44, [.tmp 6]⟩

theorem ok68 : ∃ hs, pFunc Tryd.prog sg hs Tryd.f68 = some af68 := ⟨fun i => 0, by kernel_rfl⟩
/-- No. 52 -/
def q52_0 : List AOper :=
  [⟨.move .look (.p 0), (some 18), none⟩,
    ⟨.move .look (.p 1), (some 19), none⟩,
    ⟨.move .look (.p 5), (some 20), none⟩,
    ⟨.call 68 [(.p 18, false), (.p 19, false), (.p 20, false)], (some 21), none⟩,
    ⟨.assign (.p 21), (some 4), none⟩]
@[simp] def eq52_0 := id q52_0.eq_1
def q52_1 : List AOper :=
  [⟨.move .look (.p 1), (some 15), none⟩,
    ⟨.call 67 [(.p 15, false)], (some 16), none⟩,
    ⟨.dead, (some 17), none⟩,
    ⟨.assign (.p 17), (some 5), none⟩]
@[simp] def eq52_1 := id q52_1.eq_1
def q52_2 : List AOper :=
  [⟨.move .head (.p 0), (some 12), none⟩,
    ⟨.move .head (.p 1), (some 13), none⟩,
    ⟨.bin .eql 5 false (.p 12) (.p 13), (some 14), none⟩,
    ⟨.assign (.p 14), (some 4), none⟩]
@[simp] def eq52_2 := id q52_2.eq_1
def q52_3 : List AOper :=
  [⟨.move .head (.p 0), (some 6), none⟩,
    ⟨.bin .eql 5 true (.p 6) (.c (.nilI)), (some 7), none⟩,
    ⟨.move .look (.p 7), (some 8), none⟩,
    ⟨.move .head (.p 1), (some 9), (some (8, false))⟩,
    ⟨.bin .eql 5 true (.p 9) (.c (.nilI)), (some 10), (some (8, false))⟩,
    ⟨.pick (.p 8) (.c (.bool true)) (.p 10), (some 11), none⟩]
@[simp] def eq52_3 := id q52_3.eq_1
def k52_0 : ACode :=
  .ops q52_0 .ret
@[simp] theorem xk52_0 : GoC fns Q s k52_0 st ↔ GoO fns Q s q52_0 .ret st := goC_ops
def k52_1 : ACode :=
  .ops q52_1 k52_0
@[simp] theorem xk52_1 : GoC fns Q s k52_1 st ↔ GoO fns Q s q52_1 k52_0 st := goC_ops
def k52_2 : ACode :=
  .ops q52_2 .ret
@[simp] theorem xk52_2 : GoC fns Q s k52_2 st ↔ GoO fns Q s q52_2 .ret st := goC_ops
def k52_3 : ACode :=
  .cond (.p 11) k52_2 .skip
@[simp] theorem xk52_3 : GoC fns Q s k52_3 st ↔ GB fns Q s (peek st (.p 11)) k52_2 .skip st := goC_cond
def k52_4 : ACode :=
  .seq k52_3 k52_1
@[simp] theorem xk52_4 : GoC fns Q s k52_4 st ↔ GoC fns Q (.sq k52_1 :: s) k52_3 st := goC_seq
def k52_5 : ACode :=
  .ops q52_3 k52_4
@[simp] theorem xk52_5 : GoC fns Q s k52_5 st ↔ GoO fns Q s q52_3 k52_4 st := goC_ops
def k52_6 : ACode :=
  .ops [⟨.assign (.c (.bool false)), (some 4), none⟩] k52_5
@[simp] theorem xk52_6 : GoC fns Q s k52_6 st ↔ GoO fns Q s [⟨.assign (.c (.bool false)), (some 4), none⟩] k52_5 st := goC_ops
def af52 : AFunc := ⟨22, k52_6, [.tmp 4]⟩

theorem ok52 : ∃ hs, pFunc Tryd.prog sg hs Tryd.f52 = some af52 := ⟨fun i => 0, by kernel_rfl⟩
/-- No. 31 -/
def q31_0 : List AOper :=
  [⟨.move .look (.p 0), (some 39), none⟩,
    ⟨.load .look false 1 (.c (.gl 3)), (some 40), none⟩,
    ⟨.call 52 [(.p 39, false), (.p 40, false)], (some 41), none⟩,
    ⟨.assign (.p 41), (some 38), none⟩]
@[simp] def eq31_0 := id q31_0.eq_1
def q31_1 : List AOper :=
  [⟨.move .look (.p 0), (some 35), none⟩,
    ⟨.load .look false 1 (.c (.gl 2)), (some 36), none⟩,
    ⟨.call 52 [(.p 35, false), (.p 36, false)], (some 37), none⟩,
    ⟨.assign (.p 37), (some 34), none⟩]
@[simp] def eq31_1 := id q31_1.eq_1
def q31_2 : List AOper :=
  [⟨.move .look (.p 0), (some 31), none⟩,
    ⟨.load .look false 1 (.c (.gl 1)), (some 32), none⟩,
    ⟨.call 52 [(.p 31, false), (.p 32, false)], (some 33), none⟩,
    ⟨.assign (.p 33), (some 27), none⟩]
@[simp] def eq31_2 := id q31_2.eq_1
def q31_3 : List AOper :=
  [⟨.move .look (.p 0), (some 28), none⟩,
    ⟨.load .look false 1 (.c (.gl 0)), (some 29), none⟩,
    ⟨.call 52 [(.p 28, false), (.p 29, false)], (some 30), none⟩,
    ⟨.assign (.p 30), (some 27), none⟩]
@[simp] def eq31_3 := id q31_3.eq_1
def q31_4 : List AOper :=
  [⟨.newbox 3 [.slice .nil 0 1 [], .slice .nil 0 1 []], (some 3), none⟩,
    ⟨.store 2 (.p 3) (.p 12), none, none⟩]
@[simp] def eq31_4 := id q31_4.eq_1
def q31_5 : List AOper :=
  [⟨.bin .eql 2 true (.p 16) (.c (.str [100, 111, 99, 117, 109, 101, 110, 116, 32, 111, 114, 32, 97, 114, 114, 97, 121, 32, 101, 110, 100, 32, 105, 115, 32, 109, 105, 115, 115, 105, 110, 103, 32, 110, 117, 108, 108, 32, 98, 121, 116, 101])), (some 20), none⟩,
    ⟨.assign (.p 20), (some 19), none⟩]
@[simp] def eq31_5 := id q31_5.eq_1
def q31_6 : List AOper :=
  [⟨.bin .eql 2 true (.p 16) (.c (.str [100, 111, 99, 117, 109, 101, 110, 116, 32, 111, 114, 32, 97, 114, 114, 97, 121, 32, 108, 101, 110, 103, 116, 104, 32, 105, 115, 32, 105, 110, 118, 97, 108, 105, 100])), (some 18), none⟩,
    ⟨.assign (.p 18), (some 17), none⟩]
@[simp] def eq31_6 := id q31_6.eq_1
def q31_7 : List AOper :=
  [⟨.newbox 6 [.str [], .int .u8 0], (some 6), none⟩,
    ⟨.store 2 (.p 6) (.p 26), none, none⟩]
@[simp] def eq31_7 := id q31_7.eq_1
def q31_8 : List AOper :=
  [⟨.px (.tassert 105 (.agg [.str [], .int .u8 0]) true) [.p 9], (some 24), none⟩,
    ⟨.extract 24 1, (some 25), none⟩,
    ⟨.extract 24 0, (some 26), none⟩]
@[simp] def eq31_8 := id q31_8.eq_1
def q31_9 : List AOper :=
  [⟨.px (.tassert 102 (.str []) true) [.p 9], (some 21), none⟩,
    ⟨.extract 21 1, (some 22), none⟩,
    ⟨.extract 21 0, (some 23), none⟩]
@[simp] def eq31_9 := id q31_9.eq_1
def q31_10 : List AOper :=
  [⟨.px (.tassert 101 (.str []) true) [.p 9], (some 13), none⟩,
    ⟨.extract 13 1, (some 14), none⟩,
    ⟨.extract 13 0, (some 15), none⟩]
@[simp] def eq31_10 := id q31_10.eq_1
def q31_11 : List AOper :=
  [⟨.px (.tassert 100 (.agg [.slice .nil 0 1 [], .slice .nil 0 1 []]) true) [.p 9], (some 10), none⟩,
    ⟨.extract 10 1, (some 11), none⟩,
    ⟨.extract 10 0, (some 12), none⟩]
@[simp] def eq31_11 := id q31_11.eq_1
def q31_12 : List AOper :=
  [⟨.move .head (.p 0), (some 7), none⟩,
    ⟨.bin .eql 5 true (.p 7) (.c (.nilI)), (some 8), none⟩]
@[simp] def eq31_12 := id q31_12.eq_1
def k31_0 : ACode :=
  .ops [⟨.assign (.c (.int .i64 9)), (some 2), none⟩] .ret
@[simp] theorem xk31_0 : GoC fns Q s k31_0 st ↔ GoO fns Q s [⟨.assign (.c (.int .i64 9)), (some 2), none⟩] .ret st := goC_ops
def k31_1 : ACode :=
  .ops [⟨.assign (.c (.int .i64 7)), (some 2), none⟩] .ret
@[simp] theorem xk31_1 : GoC fns Q s k31_1 st ↔ GoO fns Q s [⟨.assign (.c (.int .i64 7)), (some 2), none⟩] .ret st := goC_ops
def k31_2 : ACode :=
  .ops [⟨.assign (.c (.int .i64 8)), (some 2), none⟩] .ret
@[simp] theorem xk31_2 : GoC fns Q s k31_2 st ↔ GoO fns Q s [⟨.assign (.c (.int .i64 8)), (some 2), none⟩] .ret st := goC_ops
def k31_3 : ACode :=
  .ops [⟨.assign (.c (.int .i64 11)), (some 2), none⟩] .ret
@[simp] theorem xk31_3 : GoC fns Q s k31_3 st ↔ GoO fns Q s [⟨.assign (.c (.int .i64 11)), (some 2), none⟩] .ret st := goC_ops
def k31_4 : ACode :=
  .cond (.p 38) k31_3 .skip
@[simp] theorem xk31_4 : GoC fns Q s k31_4 st ↔ GB fns Q s (peek st (.p 38)) k31_3 .skip st := goC_cond
def k31_5 : ACode :=
  .ops q31_0 k31_4
@[simp] theorem xk31_5 : GoC fns Q s k31_5 st ↔ GoO fns Q s q31_0 k31_4 st := goC_ops
def k31_6 : ACode :=
  .cond (.p 34) k31_2 k31_5
@[simp] theorem xk31_6 : GoC fns Q s k31_6 st ↔ GB fns Q s (peek st (.p 34)) k31_2 k31_5 st := goC_cond
def k31_7 : ACode :=
  .ops q31_1 k31_6
@[simp] theorem xk31_7 : GoC fns Q s k31_7 st ↔ GoO fns Q s q31_1 k31_6 st := goC_ops
def k31_8 : ACode :=
  .cond (.p 27) k31_1 k31_7
@[simp] theorem xk31_8 : GoC fns Q s k31_8 st ↔ GB fns Q s (peek st (.p 27)) k31_1 k31_7 st := goC_cond
def k31_9 : ACode :=
  .ops q31_2 .skip
@[simp] theorem xk31_9 : GoC fns Q s k31_9 st ↔ GoO fns Q s q31_2 .skip st := goC_ops
def k31_10 : ACode :=
  .cond (.p 27) .skip k31_9
@[simp] theorem xk31_10 : GoC fns Q s k31_10 st ↔ GB fns Q s (peek st (.p 27)) .skip k31_9 st := goC_cond
def k31_11 : ACode :=
  .seq k31_10 k31_8
@[simp] theorem xk31_11 : GoC fns Q s k31_11 st ↔ GoC fns Q (.sq k31_8 :: s) k31_10 st := goC_seq
def k31_12 : ACode :=
  .ops q31_3 k31_11
@[simp] theorem xk31_12 : GoC fns Q s k31_12 st ↔ GoO fns Q s q31_3 k31_11 st := goC_ops
def k31_13 : ACode :=
  .block 2 k31_12
@[simp] theorem xk31_13 : GoC fns Q s k31_13 st ↔ GoC fns Q (.bl 2 :: s) k31_12 st := goC_block
def k31_14 : ACode :=
  .seq k31_13 k31_0
@[simp] theorem xk31_14 : GoC fns Q s k31_14 st ↔ GoC fns Q (.sq k31_0 :: s) k31_13 st := goC_seq
def k31_15 : ACode :=
  .ops [⟨.assign (.c (.int .i64 1)), (some 2), none⟩] .ret
@[simp] theorem xk31_15 : GoC fns Q s k31_15 st ↔ GoO fns Q s [⟨.assign (.c (.int .i64 1)), (some 2), none⟩] .ret st := goC_ops
def k31_16 : ACode :=
  .ops q31_4 k31_15
@[simp] theorem xk31_16 : GoC fns Q s k31_16 st ↔ GoO fns Q s q31_4 k31_15 st := goC_ops
def k31_17 : ACode :=
  .ops [⟨.assign (.c (.int .i64 4)), (some 2), none⟩] .ret
@[simp] theorem xk31_17 : GoC fns Q s k31_17 st ↔ GoO fns Q s [⟨.assign (.c (.int .i64 4)), (some 2), none⟩] .ret st := goC_ops
def k31_18 : ACode :=
  .ops [⟨.assign (.c (.int .i64 2)), (some 2), none⟩] .ret
@[simp] theorem xk31_18 : GoC fns Q s k31_18 st ↔ GoO fns Q s [⟨.assign (.c (.int .i64 2)), (some 2), none⟩] .ret st := goC_ops
def k31_19 : ACode :=
  .ops [⟨.assign (.c (.int .i64 3)), (some 2), none⟩] .ret
@[simp] theorem xk31_19 : GoC fns Q s k31_19 st ↔ GoO fns Q s [⟨.assign (.c (.int .i64 3)), (some 2), none⟩] .ret st := goC_ops
def k31_20 : ACode :=
  .cond (.p 19) k31_19 .skip
@[simp] theorem xk31_20 : GoC fns Q s k31_20 st ↔ GB fns Q s (peek st (.p 19)) k31_19 .skip st := goC_cond
def k31_21 : ACode :=
  .ops q31_5 k31_20
@[simp] theorem xk31_21 : GoC fns Q s k31_21 st ↔ GoO fns Q s q31_5 k31_20 st := goC_ops
def k31_22 : ACode :=
  .cond (.p 17) k31_18 k31_21
@[simp] theorem xk31_22 : GoC fns Q s k31_22 st ↔ GB fns Q s (peek st (.p 17)) k31_18 k31_21 st := goC_cond
def k31_23 : ACode :=
  .ops q31_6 k31_22
@[simp] theorem xk31_23 : GoC fns Q s k31_23 st ↔ GoO fns Q s q31_6 k31_22 st := goC_ops
def k31_24 : ACode :=
  .block 1 k31_23
@[simp] theorem xk31_24 : GoC fns Q s k31_24 st ↔ GoC fns Q (.bl 1 :: s) k31_23 st := goC_block
def k31_25 : ACode :=
  .seq k31_24 k31_17
@[simp] theorem xk31_25 : GoC fns Q s k31_25 st ↔ GoC fns Q (.sq k31_17 :: s) k31_24 st := goC_seq
def k31_26 : ACode :=
  .ops [⟨.move .head (.p 4), (some 16), none⟩] k31_25
@[simp] theorem xk31_26 : GoC fns Q s k31_26 st ↔ GoO fns Q s [⟨.move .head (.p 4), (some 16), none⟩] k31_25 st := goC_ops
def k31_27 : ACode :=
  .ops [⟨.assign (.p 15), (some 4), none⟩] k31_26
@[simp] theorem xk31_27 : GoC fns Q s k31_27 st ↔ GoO fns Q s [⟨.assign (.p 15), (some 4), none⟩] k31_26 st := goC_ops
def k31_28 : ACode :=
  .ops [⟨.assign (.c (.int .i64 5)), (some 2), none⟩] .ret
@[simp] theorem xk31_28 : GoC fns Q s k31_28 st ↔ GoO fns Q s [⟨.assign (.c (.int .i64 5)), (some 2), none⟩] .ret st := goC_ops
def k31_29 : ACode :=
  .ops [⟨.assign (.p 23), (some 5), none⟩] k31_28
@[simp] theorem xk31_29 : GoC fns Q s k31_29 st ↔ GoO fns Q s [⟨.assign (.p 23), (some 5), none⟩] k31_28 st := goC_ops
def k31_30 : ACode :=
  .ops [⟨.assign (.c (.int .i64 10)), (some 2), none⟩] .ret
@[simp] theorem xk31_30 : GoC fns Q s k31_30 st ↔ GoO fns Q s [⟨.assign (.c (.int .i64 10)), (some 2), none⟩] .ret st := goC_ops
def k31_31 : ACode :=
  .ops q31_7 k31_30
@[simp] theorem xk31_31 : GoC fns Q s k31_31 st ↔ GoO fns Q s q31_7 k31_30 st := goC_ops
def k31_32 : ACode :=
  .cond (.p 25) k31_31 .skip
@[simp] theorem xk31_32 : GoC fns Q s k31_32 st ↔ GB fns Q s (peek st (.p 25)) k31_31 .skip st := goC_cond
def k31_33 : ACode :=
  .ops q31_8 k31_32
@[simp] theorem xk31_33 : GoC fns Q s k31_33 st ↔ GoO fns Q s q31_8 k31_32 st := goC_ops
def k31_34 : ACode :=
  .cond (.p 22) k31_29 k31_33
@[simp] theorem xk31_34 : GoC fns Q s k31_34 st ↔ GB fns Q s (peek st (.p 22)) k31_29 k31_33 st := goC_cond
def k31_35 : ACode :=
  .ops q31_9 k31_34
@[simp] theorem xk31_35 : GoC fns Q s k31_35 st ↔ GoO fns Q s q31_9 k31_34 st := goC_ops
def k31_36 : ACode :=
  .cond (.p 14) k31_27 k31_35
@[simp] theorem xk31_36 : GoC fns Q s k31_36 st ↔ GB fns Q s (peek st (.p 14)) k31_27 k31_35 st := goC_cond
def k31_37 : ACode :=
  .ops q31_10 k31_36
@[simp] theorem xk31_37 : GoC fns Q s k31_37 st ↔ GoO fns Q s q31_10 k31_36 st := goC_ops
def k31_38 : ACode :=
  .cond (.p 11) k31_16 k31_37
@[simp] theorem xk31_38 : GoC fns Q s k31_38 st ↔ GB fns Q s (peek st (.p 11)) k31_16 k31_37 st := goC_cond
def k31_39 : ACode :=
  .ops q31_11 k31_38
@[simp] theorem xk31_39 : GoC fns Q s k31_39 st ↔ GoO fns Q s q31_11 k31_38 st := goC_ops
def k31_40 : ACode :=
  .block 0 k31_39
@[simp] theorem xk31_40 : GoC fns Q s k31_40 st ↔ GoC fns Q (.bl 0 :: s) k31_39 st := goC_block
def k31_41 : ACode :=
  .seq k31_40 k31_14
@[simp] theorem xk31_41 : GoC fns Q s k31_41 st ↔ GoC fns Q (.sq k31_14 :: s) k31_40 st := goC_seq
def k31_42 : ACode :=
  .ops [⟨.move .head (.p 0), (some 9), none⟩] k31_41
@[simp] theorem xk31_42 : GoC fns Q s k31_42 st ↔ GoO fns Q s [⟨.move .head (.p 0), (some 9), none⟩] k31_41 st := goC_ops
def k31_43 : ACode :=
  .ops [⟨.assign (.c (.int .i64 0)), (some 2), none⟩] .ret
@[simp] theorem xk31_43 : GoC fns Q s k31_43 st ↔ GoO fns Q s [⟨.assign (.c (.int .i64 0)), (some 2), none⟩] .ret st := goC_ops
def k31_44 : ACode :=
  .cond (.p 8) k31_43 .skip
@[simp] theorem xk31_44 : GoC fns Q s k31_44 st ↔ GB fns Q s (peek st (.p 8)) k31_43 .skip st := goC_cond
def k31_45 : ACode :=
  .seq k31_44 k31_42
@[simp] theorem xk31_45 : GoC fns Q s k31_45 st ↔ GoC fns Q (.sq k31_42 :: s) k31_44 st := goC_seq
def k31_46 : ACode :=
  .ops q31_12 k31_45
@[simp] theorem xk31_46 : GoC fns Q s k31_46 st ↔ GoO fns Q s q31_12 k31_45 st := goC_ops
def k31_47 : ACode :=
  .ops [⟨.assign (.c (.int .i64 0)), (some 2), none⟩] k31_46
@[simp] theorem xk31_47 : GoC fns Q s k31_47 st ↔ GoO fns Q s [⟨.assign (.c (.int .i64 0)), (some 2), none⟩] k31_46 st := goC_ops
def af31 : AFunc := ⟨42, k31_47, [.tmp 2]⟩

theorem ok31 : ∃ hs, pFunc Tryd.prog sg hs Tryd.f31 = some af31 := ⟨fun i => 0, by kernel_rfl⟩
/-- No. 10 -/
def q10_0 : List AOper :=
  [⟨.load .look true 2 (.p 1), (some 3), none⟩,
    ⟨.call 32 [(.p 3, false)], (some 4), none⟩,
    ⟨.call 33 [(.p 4, false)], (some 5), none⟩,
    ⟨.call 31 [(.p 5, false)], (some 6), none⟩,
    ⟨.assign (.p 6), (some 2), none⟩]
@[simp] def eq10_0 := id q10_0.eq_1
def q10_1 : List AOper :=
  [⟨.box 1 (.p 0), (some 1), none⟩,
    ⟨.assign (.c (.int .i64 0)), (some 2), none⟩]
@[simp] def eq10_1 := id q10_1.eq_1
def k10_0 : ACode :=
  .ops q10_0 .ret
@[simp] theorem xk10_0 : GoC fns Q s k10_0 st ↔ GoO fns Q s q10_0 .ret st := goC_ops
def k10_1 : ACode :=
  .ops q10_1 k10_0
@[simp] theorem xk10_1 : GoC fns Q s k10_1 st ↔ GoO fns Q s q10_1 k10_0 st := goC_ops
def af10 : AFunc := ⟨7, k10_1, [.tmp 2]⟩

theorem ok10 : ∃ hs, pFunc Tryd.prog sg hs Tryd.f10 = some af10 := ⟨fun i => 0, by kernel_rfl⟩
/-- No. 3 -/
def q3_0 : List AOper :=
  [⟨.move .look (.p 1), (some 17), none⟩,
    ⟨.bin .lss 1 true (.p 17) (.c (.int .i64 0)), (some 18), none⟩,
    ⟨.move .look (.p 18), (some 19), none⟩,
    ⟨.move .look (.p 1), (some 20), (some (19, false))⟩,
    ⟨.fieldAddr 1 (.p 5), (some 21), (some (19, false))⟩,
    ⟨.load .head false 1 (.p 21), (some 22), (some (19, false))⟩,
    ⟨.len false (.p 22), (some 23), (some (19, false))⟩,
    ⟨.bin .geq 1 false (.p 20) (.p 23), (some 24), (some (19, false))⟩,
    ⟨.pick (.p 19) (.c (.bool true)) (.p 24), (some 25), none⟩,
    ⟨.move .look (.p 25), (some 26), none⟩,
    ⟨.fieldAddr 0 (.p 5), (some 27), (some (26, false))⟩,
    ⟨.load .look false 1 (.p 27), (some 28), (some (26, false))⟩,
    ⟨.fieldAddr 1 (.p 5), (some 29), (some (26, false))⟩,
    ⟨.load .look false 1 (.p 29), (some 30), (some (26, false))⟩,
    ⟨.move .head (.p 1), (some 31), (some (26, false))⟩,
    ⟨.sliceSl 1 (.t 30) none (some (.p 31)), (some 32), (some (26, false))⟩,
    ⟨.build [.int .i64 0, .slice .nil 0 1 []] [(0, 1, .p 28), (1, 1, .t 32)], (some 33), (some (26, false))⟩,
    ⟨.call 10 [(.p 33, false)], (some 34), (some (26, false))⟩,
    ⟨.bin .neq 1 true (.p 34) (.c (.int .i64 0)), (some 35), (some (26, false))⟩,
    ⟨.pick (.p 26) (.c (.bool true)) (.p 35), (some 36), none⟩,
    ⟨.assign (.p 36), (some 4), none⟩]
@[simp] def eq3_0 := id q3_0.eq_1
def q3_1 : List AOper :=
  [⟨.load .look true 2 (.p 5), (some 14), none⟩,
    ⟨.call 10 [(.p 14, false)], (some 15), none⟩,
    ⟨.bin .neq 1 true (.p 15) (.c (.int .i64 0)), (some 16), none⟩]
@[simp] def eq3_1 := id q3_1.eq_1
def q3_2 : List AOper :=
  [⟨.load .look true 8 (.p 2), (some 12), none⟩,
    ⟨.call 9 [(.p 12, false)], (some 13), none⟩,
    ⟨.newbox 5 [.int .i64 0, .slice .nil 0 1 []], (some 5), none⟩,
    ⟨.store 2 (.p 5) (.p 13), none, none⟩]
@[simp] def eq3_2 := id q3_2.eq_1
def q3_3 : List AOper :=
  [⟨.load .look true 8 (.p 2), (some 9), none⟩,
    ⟨.call 8 [(.p 9, false)], (some 10), none⟩,
    ⟨.un .not (.p 10), (some 11), none⟩]
@[simp] def eq3_3 := id q3_3.eq_1
def q3_4 : List AOper :=
  [⟨.load .look true 8 (.p 2), (some 6), none⟩,
    ⟨.call 7 [(.p 6, false)], (some 7), none⟩,
    ⟨.un .not (.p 7), (some 8), none⟩]
@[simp] def eq3_4 := id q3_4.eq_1
def q3_5 : List AOper :=
  [⟨.box 2 (.p 0), (some 2), none⟩,
    ⟨.assign (.c (.bool false)), (some 4), none⟩]
@[simp] def eq3_5 := id q3_5.eq_1
def k3_0 : ACode :=
  .ops q3_0 .ret
@[simp] theorem xk3_0 : GoC fns Q s k3_0 st ↔ GoO fns Q s q3_0 .ret st := goC_ops
def k3_1 : ACode :=
  .ops [⟨.assign (.c (.bool false)), (some 4), none⟩] .ret
@[simp] theorem xk3_1 : GoC fns Q s k3_1 st ↔ GoO fns Q s [⟨.assign (.c (.bool false)), (some 4), none⟩] .ret st := goC_ops
def k3_2 : ACode :=
  .cond (.p 16) k3_1 .skip
@[simp] theorem xk3_2 : GoC fns Q s k3_2 st ↔ GB fns Q s (peek st (.p 16)) k3_1 .skip st := goC_cond
def k3_3 : ACode :=
  .seq k3_2 k3_0
@[simp] theorem xk3_3 : GoC fns Q s k3_3 st ↔ GoC fns Q (.sq k3_0 :: s) k3_2 st := goC_seq
def k3_4 : ACode :=
  .ops q3_1 k3_3
@[simp] theorem xk3_4 : GoC fns Q s k3_4 st ↔ GoO fns Q s q3_1 k3_3 st := goC_ops
def k3_5 : ACode :=
  .ops q3_2 k3_4
@[simp] theorem xk3_5 : GoC fns Q s k3_5 st ↔ GoO fns Q s q3_2 k3_4 st := goC_ops
def k3_6 : ACode :=
  .ops [⟨.assign (.c (.bool true)), (some 4), none⟩] .ret
@[simp] theorem xk3_6 : GoC fns Q s k3_6 st ↔ GoO fns Q s [⟨.assign (.c (.bool true)), (some 4), none⟩] .ret st := goC_ops
def k3_7 : ACode :=
  .cond (.p 11) k3_6 .skip
@[simp] theorem xk3_7 : GoC fns Q s k3_7 st ↔ GB fns Q s (peek st (.p 11)) k3_6 .skip st := goC_cond
def k3_8 : ACode :=
  .seq k3_7 k3_5
@[simp] theorem xk3_8 : GoC fns Q s k3_8 st ↔ GoC fns Q (.sq k3_5 :: s) k3_7 st := goC_seq
def k3_9 : ACode :=
  .ops q3_3 k3_8
@[simp] theorem xk3_9 : GoC fns Q s k3_9 st ↔ GoO fns Q s q3_3 k3_8 st := goC_ops
def k3_10 : ACode :=
  .ops [⟨.assign (.c (.bool true)), (some 4), none⟩] .ret
@[simp] theorem xk3_10 : GoC fns Q s k3_10 st ↔ GoO fns Q s [⟨.assign (.c (.bool true)), (some 4), none⟩] .ret st := goC_ops
def k3_11 : ACode :=
  .cond (.p 8) k3_10 .skip
@[simp] theorem xk3_11 : GoC fns Q s k3_11 st ↔ GB fns Q s (peek st (.p 8)) k3_10 .skip st := goC_cond
def k3_12 : ACode :=
  .seq k3_11 k3_9
@[simp] theorem xk3_12 : GoC fns Q s k3_12 st ↔ GoC fns Q (.sq k3_9 :: s) k3_11 st := goC_seq
def k3_13 : ACode :=
  .ops q3_4 k3_12
@[simp] theorem xk3_13 : GoC fns Q s k3_13 st ↔ GoO fns Q s q3_4 k3_12 st := goC_ops
def k3_14 : ACode :=
  .ops q3_5 k3_13
@[simp] theorem xk3_14 : GoC fns Q s k3_14 st ↔ GoO fns Q s q3_5 k3_13 st := goC_ops
def af3 : AFunc := ⟨37, k3_14, [.tmp 4]⟩

theorem ok3 : ∃ hs, pFunc Tryd.prog sg hs Tryd.f3 = some af3 := ⟨fun i => 0, by kernel_rfl⟩
end
def fnsL : List (FuncId × AFunc) := [(7, af7), (27, af27), (64, af64), (65, af65), (13, af13), (66, af66), (48, af48), (28, af28), (29, af29), (8, af8), (49, af49), (51, af51), (50, af50), (26, af26), (20, af20), (35, af35), (30, af30), (9, af9), (32, af32), (53, af53), (85, af85), (71, af71), (82, af82), (84, af84), (69, af69), (70, af70), (54, af54), (33, af33), (68, af68), (52, af52), (31, af31), (10, af10), (3, af3)]
def fns : FuncId → Option AFunc := fun f => fnsL.lookup f
theorem run7 {vs : List AV} {h0 : H} (hl : vs.length ≤ 19) {r : AV × H} (h : GoC fns (fun e => xends [.tmp 2] e = some r) [] k7_17 ⟨fun j => (vs[j]?).getD .undef, fun _ => none, h0⟩) : callω fns 7 vs h0 = some r :=
  callω_run fns (af := af7) rfl rfl rfl hl h
theorem runs7 {vs : List AV} {h0 : H} (hl : vs.length ≤ 19) {p : AV × H → Prop} (h : GoC fns (fun e => Run (xends [.tmp 2] e) p) [] k7_17 ⟨fun j => (vs[j]?).getD .undef, fun _ => none, h0⟩) : CW fns 7 vs h0 p :=
  callω_runs fns (af := af7) rfl rfl rfl hl h
theorem run27 {vs : List AV} {h0 : H} (hl : vs.length ≤ 32) {r : AV × H} (h : GoC fns (fun e => xends [.tmp 4] e = some r) [] k27_14 ⟨fun j => (vs[j]?).getD .undef, fun _ => none, h0⟩) : callω fns 27 vs h0 = some r :=
  callω_run fns (af := af27) rfl rfl rfl hl h
theorem runs27 {vs : List AV} {h0 : H} (hl : vs.length ≤ 32) {p : AV × H → Prop} (h : GoC fns (fun e => Run (xends [.tmp 4] e) p) [] k27_14 ⟨fun j => (vs[j]?).getD .undef, fun _ => none, h0⟩) : CW fns 27 vs h0 p :=
  callω_runs fns (af := af27) rfl rfl rfl hl h
theorem run64 {vs : List AV} {h0 : H} (hl : vs.length ≤ 17) {r : AV × H} (h : GoC fns (fun e => xends [.tmp 2] e = some r) [] k64_1 ⟨fun j => (vs[j]?).getD .undef, fun _ => none, h0⟩) : callω fns 64 vs h0 = some r :=
  callω_run fns (af := af64) rfl rfl rfl hl h
theorem runs64 {vs : List AV} {h0 : H} (hl : vs.length ≤ 17) {p : AV × H → Prop} (h : GoC fns (fun e => Run (xends [.tmp 2] e) p) [] k64_1 ⟨fun j => (vs[j]?).getD .undef, fun _ => none, h0⟩) : CW fns 64 vs h0 p :=
  callω_runs fns (af := af64) rfl rfl rfl hl h
theorem run65 {vs : List AV} {h0 : H} (hl : vs.length ≤ 48) {r : AV × H} (h : GoC fns (fun e => xends [.cell 2 true 8] e = some r) [] k65_52 ⟨fun j => (vs[j]?).getD .undef, fun _ => none, h0⟩) : callω fns 65 vs h0 = some r :=
  callω_run fns (af := af65) rfl rfl rfl hl h
theorem runs65 {vs : List AV} {h0 : H} (hl : vs.length ≤ 48) {p : AV × H → Prop} (h : GoC fns (fun e => Run (xends [.cell 2 true 8] e) p) [] k65_52 ⟨fun j => (vs[j]?).getD .undef, fun _ => none, h0⟩) : CW fns 65 vs h0 p :=
  callω_runs fns (af := af65) rfl rfl rfl hl h
theorem run13 {vs : List AV} {h0 : H} (hl : vs.length ≤ 14) {r : AV × H} (h : GoC fns (fun e => xends [.tmp 2] e = some r) [] k13_15 ⟨fun j => (vs[j]?).getD .undef, fun _ => none, h0⟩) : callω fns 13 vs h0 = some r :=
  callω_run fns (af := af13) rfl rfl rfl hl h
theorem runs13 {vs : List AV} {h0 : H} (hl : vs.length ≤ 14) {p : AV × H → Prop} (h : GoC fns (fun e => Run (xends [.tmp 2] e) p) [] k13_15 ⟨fun j => (vs[j]?).getD .undef, fun _ => none, h0⟩) : CW fns 13 vs h0 p :=
  callω_runs fns (af := af13) rfl rfl rfl hl h
theorem run66 {vs : List AV} {h0 : H} (hl : vs.length ≤ 20) {r : AV × H} (h : GoC fns (fun e => xends [.tmp 2] e = some r) [] k66_5 ⟨fun j => (vs[j]?).getD .undef, fun _ => none, h0⟩) : callω fns 66 vs h0 = some r :=
  callω_run fns (af := af66) rfl rfl rfl hl h
theorem runs66 {vs : List AV} {h0 : H} (hl : vs.length ≤ 20) {p : AV × H → Prop} (h : GoC fns (fun e => Run (xends [.tmp 2] e) p) [] k66_5 ⟨fun j => (vs[j]?).getD .undef, fun _ => none, h0⟩) : CW fns 66 vs h0 p :=
  callω_runs fns (af := af66) rfl rfl rfl hl h
theorem run48 {vs : List AV} {h0 : H} (hl : vs.length ≤ 138) {r : AV × H} (h : GoC fns (fun e => xends [.tmp 4] e = some r) [] k48_46 ⟨fun j => (vs[j]?).getD .undef, fun _ => none, h0⟩) : callω fns 48 vs h0 = some r :=
  callω_run fns (af := af48) rfl rfl rfl hl h
theorem runs48 {vs : List AV} {h0 : H} (hl : vs.length ≤ 138) {p : AV × H → Prop} (h : GoC fns (fun e => Run (xends [.tmp 4] e) p) [] k48_46 ⟨fun j => (vs[j]?).getD .undef, fun _ => none, h0⟩) : CW fns 48 vs h0 p :=
  callω_runs fns (af := af48) rfl rfl rfl hl h
theorem run28 {vs : List AV} {h0 : H} (hl : vs.length ≤ 5) {r : AV × H} (h : GoC fns (fun e => xends [.tmp 2] e = some r) [] k28_1 ⟨fun j => (vs[j]?).getD .undef, fun _ => none, h0⟩) : callω fns 28 vs h0 = some r :=
  callω_run fns (af := af28) rfl rfl rfl hl h
theorem runs28 {vs : List AV} {h0 : H} (hl : vs.length ≤ 5) {p : AV × H → Prop} (h : GoC fns (fun e => Run (xends [.tmp 2] e) p) [] k28_1 ⟨fun j => (vs[j]?).getD .undef, fun _ => none, h0⟩) : CW fns 28 vs h0 p :=
  callω_runs fns (af := af28) rfl rfl rfl hl h
theorem run29 {vs : List AV} {h0 : H} (hl : vs.length ≤ 41) {r : AV × H} (h : GoC fns (fun e => xends [.tmp 2] e = some r) [] k29_14 ⟨fun j => (vs[j]?).getD .undef, fun _ => none, h0⟩) : callω fns 29 vs h0 = some r :=
  callω_run fns (af := af29) rfl rfl rfl hl h
theorem runs29 {vs : List AV} {h0 : H} (hl : vs.length ≤ 41) {p : AV × H → Prop} (h : GoC fns (fun e => Run (xends [.tmp 2] e) p) [] k29_14 ⟨fun j => (vs[j]?).getD .undef, fun _ => none, h0⟩) : CW fns 29 vs h0 p :=
  callω_runs fns (af := af29) rfl rfl rfl hl h
theorem run8 {vs : List AV} {h0 : H} (hl : vs.length ≤ 15) {r : AV × H} (h : GoC fns (fun e => xends [.tmp 2] e = some r) [] k8_1 ⟨fun j => (vs[j]?).getD .undef, fun _ => none, h0⟩) : callω fns 8 vs h0 = some r :=
  callω_run fns (af := af8) rfl rfl rfl hl h
theorem runs8 {vs : List AV} {h0 : H} (hl : vs.length ≤ 15) {p : AV × H → Prop} (h : GoC fns (fun e => Run (xends [.tmp 2] e) p) [] k8_1 ⟨fun j => (vs[j]?).getD .undef, fun _ => none, h0⟩) : CW fns 8 vs h0 p :=
  callω_runs fns (af := af8) rfl rfl rfl hl h
theorem run49 {vs : List AV} {h0 : H} (hl : vs.length ≤ 18) {r : AV × H} (h : GoC fns (fun e => xends [.tmp 4] e = some r) [] k49_13 ⟨fun j => (vs[j]?).getD .undef, fun _ => none, h0⟩) : callω fns 49 vs h0 = some r :=
  callω_run fns (af := af49) rfl rfl rfl hl h
theorem runs49 {vs : List AV} {h0 : H} (hl : vs.length ≤ 18) {p : AV × H → Prop} (h : GoC fns (fun e => Run (xends [.tmp 4] e) p) [] k49_13 ⟨fun j => (vs[j]?).getD .undef, fun _ => none, h0⟩) : CW fns 49 vs h0 p :=
  callω_runs fns (af := af49) rfl rfl rfl hl h
theorem run51 {vs : List AV} {h0 : H} (hl : vs.length ≤ 19) {r : AV × H} (h : GoC fns (fun e => xends [.tmp 4] e = some r) [] k51_1 ⟨fun j => (vs[j]?).getD .undef, fun _ => none, h0⟩) : callω fns 51 vs h0 = some r :=
  callω_run fns (af := af51) rfl rfl rfl hl h
theorem runs51 {vs : List AV} {h0 : H} (hl : vs.length ≤ 19) {p : AV × H → Prop} (h : GoC fns (fun e => Run (xends [.tmp 4] e) p) [] k51_1 ⟨fun j => (vs[j]?).getD .undef, fun _ => none, h0⟩) : CW fns 51 vs h0 p :=
  callω_runs fns (af := af51) rfl rfl rfl hl h
theorem run50 {vs : List AV} {h0 : H} (hl : vs.length ≤ 16) {r : AV × H} (h : GoC fns (fun e => xends [.tmp 4] e = some r) [] k50_3 ⟨fun j => (vs[j]?).getD .undef, fun _ => none, h0⟩) : callω fns 50 vs h0 = some r :=
  callω_run fns (af := af50) rfl rfl rfl hl h
theorem runs50 {vs : List AV} {h0 : H} (hl : vs.length ≤ 16) {p : AV × H → Prop} (h : GoC fns (fun e => Run (xends [.tmp 4] e) p) [] k50_3 ⟨fun j => (vs[j]?).getD .undef, fun _ => none, h0⟩) : CW fns 50 vs h0 p :=
  callω_runs fns (af := af50) rfl rfl rfl hl h
theorem run26 {vs : List AV} {h0 : H} (hl : vs.length ≤ 14) {r : AV × H} (h : GoC fns (fun e => xends [.tmp 4] e = some r) [] k26_2 ⟨fun j => (vs[j]?).getD .undef, fun _ => none, h0⟩) : callω fns 26 vs h0 = some r :=
  callω_run fns (af := af26) rfl rfl rfl hl h
theorem runs26 {vs : List AV} {h0 : H} (hl : vs.length ≤ 14) {p : AV × H → Prop} (h : GoC fns (fun e => Run (xends [.tmp 4] e) p) [] k26_2 ⟨fun j => (vs[j]?).getD .undef, fun _ => none, h0⟩) : CW fns 26 vs h0 p :=
  callω_runs fns (af := af26) rfl rfl rfl hl h
theorem run20 {vs : List AV} {h0 : H} (hl : vs.length ≤ 13) {r : AV × H} (h : GoC fns (fun e => xends [.tmp 2] e = some r) [] k20_1 ⟨fun j => (vs[j]?).getD .undef, fun _ => none, h0⟩) : callω fns 20 vs h0 = some r :=
  callω_run fns (af := af20) rfl rfl rfl hl h
theorem runs20 {vs : List AV} {h0 : H} (hl : vs.length ≤ 13) {p : AV × H → Prop} (h : GoC fns (fun e => Run (xends [.tmp 2] e) p) [] k20_1 ⟨fun j => (vs[j]?).getD .undef, fun _ => none, h0⟩) : CW fns 20 vs h0 p :=
  callω_runs fns (af := af20) rfl rfl rfl hl h
theorem run35 {vs : List AV} {h0 : H} (hl : vs.length ≤ 29) {r : AV × H} (h : GoC fns (fun e => xends [.tmp 2] e = some r) [] k35_16 ⟨fun j => (vs[j]?).getD .undef, fun _ => none, h0⟩) : callω fns 35 vs h0 = some r :=
  callω_run fns (af := af35) rfl rfl rfl hl h
theorem runs35 {vs : List AV} {h0 : H} (hl : vs.length ≤ 29) {p : AV × H → Prop} (h : GoC fns (fun e => Run (xends [.tmp 2] e) p) [] k35_16 ⟨fun j => (vs[j]?).getD .undef, fun _ => none, h0⟩) : CW fns 35 vs h0 p :=
  callω_runs fns (af := af35) rfl rfl rfl hl h
theorem run30 {vs : List AV} {h0 : H} (hl : vs.length ≤ 148) {r : AV × H} (h : GoC fns (fun e => xends [.tmp 2] e = some r) [] k30_73 ⟨fun j => (vs[j]?).getD .undef, fun _ => none, h0⟩) : callω fns 30 vs h0 = some r :=
  callω_run fns (af := af30) rfl rfl rfl hl h
theorem runs30 {vs : List AV} {h0 : H} (hl : vs.length ≤ 148) {p : AV × H → Prop} (h : GoC fns (fun e => Run (xends [.tmp 2] e) p) [] k30_73 ⟨fun j => (vs[j]?).getD .undef, fun _ => none, h0⟩) : CW fns 30 vs h0 p :=
  callω_runs fns (af := af30) rfl rfl rfl hl h
theorem run9 {vs : List AV} {h0 : H} (hl : vs.length ≤ 8) {r : AV × H} (h : GoC fns (fun e => xends [.cell 2 true 2] e = some r) [] k9_1 ⟨fun j => (vs[j]?).getD .undef, fun _ => none, h0⟩) : callω fns 9 vs h0 = some r :=
  callω_run fns (af := af9) rfl rfl rfl hl h
theorem runs9 {vs : List AV} {h0 : H} (hl : vs.length ≤ 8) {p : AV × H → Prop} (h : GoC fns (fun e => Run (xends [.cell 2 true 2] e) p) [] k9_1 ⟨fun j => (vs[j]?).getD .undef, fun _ => none, h0⟩) : CW fns 9 vs h0 p :=
  callω_runs fns (af := af9) rfl rfl rfl hl h
theorem run32 {vs : List AV} {h0 : H} (hl : vs.length ≤ 9) {r : AV × H} (h : GoC fns (fun e => xends [.cell 2 true 2] e = some r) [] k32_1 ⟨fun j => (vs[j]?).getD .undef, fun _ => none, h0⟩) : callω fns 32 vs h0 = some r :=
  callω_run fns (af := af32) rfl rfl rfl hl h
theorem runs32 {vs : List AV} {h0 : H} (hl : vs.length ≤ 9) {p : AV × H → Prop} (h : GoC fns (fun e => Run (xends [.cell 2 true 2] e) p) [] k32_1 ⟨fun j => (vs[j]?).getD .undef, fun _ => none, h0⟩) : CW fns 32 vs h0 p :=
  callω_runs fns (af := af32) rfl rfl rfl hl h
theorem run53 {vs : List AV} {h0 : H} (hl : vs.length ≤ 8) {r : AV × H} (h : GoC fns (fun e => xends [.cell 2 true 2] e = some r) [] k53_1 ⟨fun j => (vs[j]?).getD .undef, fun _ => none, h0⟩) : callω fns 53 vs h0 = some r :=
  callω_run fns (af := af53) rfl rfl rfl hl h
theorem runs53 {vs : List AV} {h0 : H} (hl : vs.length ≤ 8) {p : AV × H → Prop} (h : GoC fns (fun e => Run (xends [.cell 2 true 2] e) p) [] k53_1 ⟨fun j => (vs[j]?).getD .undef, fun _ => none, h0⟩) : CW fns 53 vs h0 p :=
  callω_runs fns (af := af53) rfl rfl rfl hl h
theorem run85 {vs : List AV} {h0 : H} (hl : vs.length ≤ 38) {r : AV × H} (h : GoC fns (fun e => xends [.tmp 2, .tmp 3, .tmp 4] e = some r) [] k85_7 ⟨fun j => (vs[j]?).getD .undef, fun _ => none, h0⟩) : callω fns 85 vs h0 = some r :=
  callω_run fns (af := af85) rfl rfl rfl hl h
theorem runs85 {vs : List AV} {h0 : H} (hl : vs.length ≤ 38) {p : AV × H → Prop} (h : GoC fns (fun e => Run (xends [.tmp 2, .tmp 3, .tmp 4] e) p) [] k85_7 ⟨fun j => (vs[j]?).getD .undef, fun _ => none, h0⟩) : CW fns 85 vs h0 p :=
  callω_runs fns (af := af85) rfl rfl rfl hl h
theorem run71 {vs : List AV} {h0 : H} (hl : vs.length ≤ 20) {r : AV × H} (h : GoC fns (fun e => xends [.tmp 2, .tmp 3, .tmp 4] e = some r) [] k71_6 ⟨fun j => (vs[j]?).getD .undef, fun _ => none, h0⟩) : callω fns 71 vs h0 = some r :=
  callω_run fns (af := af71) rfl rfl rfl hl h
theorem runs71 {vs : List AV} {h0 : H} (hl : vs.length ≤ 20) {p : AV × H → Prop} (h : GoC fns (fun e => Run (xends [.tmp 2, .tmp 3, .tmp 4] e) p) [] k71_6 ⟨fun j => (vs[j]?).getD .undef, fun _ => none, h0⟩) : CW fns 71 vs h0 p :=
  callω_runs fns (af := af71) rfl rfl rfl hl h
theorem run82 {vs : List AV} {h0 : H} (hl : vs.length ≤ 8) {r : AV × H} (h : GoC fns (fun e => xends [.tmp 4] e = some r) [] k82_1 ⟨fun j => (vs[j]?).getD .undef, fun _ => none, h0⟩) : callω fns 82 vs h0 = some r :=
  callω_run fns (af := af82) rfl rfl rfl hl h
theorem runs82 {vs : List AV} {h0 : H} (hl : vs.length ≤ 8) {p : AV × H → Prop} (h : GoC fns (fun e => Run (xends [.tmp 4] e) p) [] k82_1 ⟨fun j => (vs[j]?).getD .undef, fun _ => none, h0⟩) : CW fns 82 vs h0 p :=
  callω_runs fns (af := af82) rfl rfl rfl hl h
theorem run84 {vs : List AV} {h0 : H} (hl : vs.length ≤ 94) {r : AV × H} (h : GoC fns (fun e => xends [.tmp 4, .tmp 5] e = some r) [] k84_81 ⟨fun j => (vs[j]?).getD .undef, fun _ => none, h0⟩) : callω fns 84 vs h0 = some r :=
  callω_run fns (af := af84) rfl rfl rfl hl h
theorem runs84 {vs : List AV} {h0 : H} (hl : vs.length ≤ 94) {p : AV × H → Prop} (h : GoC fns (fun e => Run (xends [.tmp 4, .tmp 5] e) p) [] k84_81 ⟨fun j => (vs[j]?).getD .undef, fun _ => none, h0⟩) : CW fns 84 vs h0 p :=
  callω_runs fns (af := af84) rfl rfl rfl hl h
theorem run69 {vs : List AV} {h0 : H} (hl : vs.length ≤ 31) {r : AV × H} (h : GoC fns (fun e => xends [.tmp 4, .tmp 5, .tmp 6] e = some r) [] k69_6 ⟨fun j => (vs[j]?).getD .undef, fun _ => none, h0⟩) : callω fns 69 vs h0 = some r :=
  callω_run fns (af := af69) rfl rfl rfl hl h
theorem runs69 {vs : List AV} {h0 : H} (hl : vs.length ≤ 31) {p : AV × H → Prop} (h : GoC fns (fun e => Run (xends [.tmp 4, .tmp 5, .tmp 6] e) p) [] k69_6 ⟨fun j => (vs[j]?).getD .undef, fun _ => none, h0⟩) : CW fns 69 vs h0 p :=
  callω_runs fns (af := af69) rfl rfl rfl hl h
theorem run70 {vs : List AV} {h0 : H} (hl : vs.length ≤ 8) {r : AV × H} (h : GoC fns (fun e => xends [.cell 4 true 2] e = some r) [] k70_1 ⟨fun j => (vs[j]?).getD .undef, fun _ => none, h0⟩) : callω fns 70 vs h0 = some r :=
  callω_run fns (af := af70) rfl rfl rfl hl h
theorem runs70 {vs : List AV} {h0 : H} (hl : vs.length ≤ 8) {p : AV × H → Prop} (h : GoC fns (fun e => Run (xends [.cell 4 true 2] e) p) [] k70_1 ⟨fun j => (vs[j]?).getD .undef, fun _ => none, h0⟩) : CW fns 70 vs h0 p :=
  callω_runs fns (af := af70) rfl rfl rfl hl h
theorem run54 {vs : List AV} {h0 : H} (hl : vs.length ≤ 23) {r : AV × H} (h : GoC fns (fun e => xends [.tmp 2] e = some r) [] k54_6 ⟨fun j => (vs[j]?).getD .undef, fun _ => none, h0⟩) : callω fns 54 vs h0 = some r :=
  callω_run fns (af := af54) rfl rfl rfl hl h
theorem runs54 {vs : List AV} {h0 : H} (hl : vs.length ≤ 23) {p : AV × H → Prop} (h : GoC fns (fun e => Run (xends [.tmp 2] e) p) [] k54_6 ⟨fun j => (vs[j]?).getD .undef, fun _ => none, h0⟩) : CW fns 54 vs h0 p :=
  callω_runs fns (af := af54) rfl rfl rfl hl h
theorem run33 {vs : List AV} {h0 : H} (hl : vs.length ≤ 6) {r : AV × H} (h : GoC fns (fun e => xends [.tmp 2] e = some r) [] k33_1 ⟨fun j => (vs[j]?).getD .undef, fun _ => none, h0⟩) : callω fns 33 vs h0 = some r :=
  callω_run fns (af := af33) rfl rfl rfl hl h
theorem runs33 {vs : List AV} {h0 : H} (hl : vs.length ≤ 6) {p : AV × H → Prop} (h : GoC fns (fun e => Run (xends [.tmp 2] e) p) [] k33_1 ⟨fun j => (vs[j]?).getD .undef, fun _ => none, h0⟩) : CW fns 33 vs h0 p :=
  callω_runs fns (af := af33) rfl rfl rfl hl h
theorem run68 {vs : List AV} {h0 : H} (hl : vs.length ≤ 54) {r : AV × H} (h : GoC fns (fun e => xends [.tmp 6] e = some r) [] k68_44 ⟨fun j => (vs[j]?).getD .undef, fun _ => none, h0⟩) : callω fns 68 vs h0 = some r :=
  callω_run fns (af := af68) rfl rfl rfl hl h
theorem runs68 {vs : List AV} {h0 : H} (hl : vs.length ≤ 54) {p : AV × H → Prop} (h : GoC fns (fun e => Run (xends [.tmp 6] e) p) [] k68_44 ⟨fun j => (vs[j]?).getD .undef, fun _ => none, h0⟩) : CW fns 68 vs h0 p :=
  callω_runs fns (af := af68) rfl rfl rfl hl h
theorem run52 {vs : List AV} {h0 : H} (hl : vs.length ≤ 22) {r : AV × H} (h : GoC fns (fun e => xends [.tmp 4] e = some r) [] k52_6 ⟨fun j => (vs[j]?).getD .undef, fun _ => none, h0⟩) : callω fns 52 vs h0 = some r :=
  callω_run fns (af := af52) rfl rfl rfl hl h
theorem runs52 {vs : List AV} {h0 : H} (hl : vs.length ≤ 22) {p : AV × H → Prop} (h : GoC fns (fun e => Run (xends [.tmp 4] e) p) [] k52_6 ⟨fun j => (vs[j]?).getD .undef, fun _ => none, h0⟩) : CW fns 52 vs h0 p :=
  callω_runs fns (af := af52) rfl rfl rfl hl h
theorem run31 {vs : List AV} {h0 : H} (hl : vs.length ≤ 42) {r : AV × H} (h : GoC fns (fun e => xends [.tmp 2] e = some r) [] k31_47 ⟨fun j => (vs[j]?).getD .undef, fun _ => none, h0⟩) : callω fns 31 vs h0 = some r :=
  callω_run fns (af := af31) rfl rfl rfl hl h
theorem runs31 {vs : List AV} {h0 : H} (hl : vs.length ≤ 42) {p : AV × H → Prop} (h : GoC fns (fun e => Run (xends [.tmp 2] e) p) [] k31_47 ⟨fun j => (vs[j]?).getD .undef, fun _ => none, h0⟩) : CW fns 31 vs h0 p :=
  callω_runs fns (af := af31) rfl rfl rfl hl h
theorem run10 {vs : List AV} {h0 : H} (hl : vs.length ≤ 7) {r : AV × H} (h : GoC fns (fun e => xends [.tmp 2] e = some r) [] k10_1 ⟨fun j => (vs[j]?).getD .undef, fun _ => none, h0⟩) : callω fns 10 vs h0 = some r :=
  callω_run fns (af := af10) rfl rfl rfl hl h
theorem runs10 {vs : List AV} {h0 : H} (hl : vs.length ≤ 7) {p : AV × H → Prop} (h : GoC fns (fun e => Run (xends [.tmp 2] e) p) [] k10_1 ⟨fun j => (vs[j]?).getD .undef, fun _ => none, h0⟩) : CW fns 10 vs h0 p :=
  callω_runs fns (af := af10) rfl rfl rfl hl h
theorem run3 {vs : List AV} {h0 : H} (hl : vs.length ≤ 37) {r : AV × H} (h : GoC fns (fun e => xends [.tmp 4] e = some r) [] k3_14 ⟨fun j => (vs[j]?).getD .undef, fun _ => none, h0⟩) : callω fns 3 vs h0 = some r :=
  callω_run fns (af := af3) rfl rfl rfl hl h
theorem runs3 {vs : List AV} {h0 : H} (hl : vs.length ≤ 37) {p : AV × H → Prop} (h : GoC fns (fun e => Run (xends [.tmp 4] e) p) [] k3_14 ⟨fun j => (vs[j]?).getD .undef, fun _ => none, h0⟩) : CW fns 3 vs h0 p :=
  callω_runs fns (af := af3) rfl rfl rfl hl h

theorem runv7 {vs : List AV} {h0 : H} (hl : vs.length ≤ 19) {v : AV} (h : GoC fns (fun e => Run (xends [.tmp 2] e) fun q => noHeap h0.n q = some v) [] k7_17 ⟨fun j => (vs[j]?).getD .undef, fun _ => none, h0⟩) : callv fns 7 vs h0 = some v :=
  callω_runv fns (af := af7) rfl rfl rfl hl h
theorem runv27 {vs : List AV} {h0 : H} (hl : vs.length ≤ 32) {v : AV} (h : GoC fns (fun e => Run (xends [.tmp 4] e) fun q => noHeap h0.n q = some v) [] k27_14 ⟨fun j => (vs[j]?).getD .undef, fun _ => none, h0⟩) : callv fns 27 vs h0 = some v :=
  callω_runv fns (af := af27) rfl rfl rfl hl h
theorem runv64 {vs : List AV} {h0 : H} (hl : vs.length ≤ 17) {v : AV} (h : GoC fns (fun e => Run (xends [.tmp 2] e) fun q => noHeap h0.n q = some v) [] k64_1 ⟨fun j => (vs[j]?).getD .undef, fun _ => none, h0⟩) : callv fns 64 vs h0 = some v :=
  callω_runv fns (af := af64) rfl rfl rfl hl h
theorem runv65 {vs : List AV} {h0 : H} (hl : vs.length ≤ 48) {v : AV} (h : GoC fns (fun e => Run (xends [.cell 2 true 8] e) fun q => noHeap h0.n q = some v) [] k65_52 ⟨fun j => (vs[j]?).getD .undef, fun _ => none, h0⟩) : callv fns 65 vs h0 = some v :=
  callω_runv fns (af := af65) rfl rfl rfl hl h
theorem runv13 {vs : List AV} {h0 : H} (hl : vs.length ≤ 14) {v : AV} (h : GoC fns (fun e => Run (xends [.tmp 2] e) fun q => noHeap h0.n q = some v) [] k13_15 ⟨fun j => (vs[j]?).getD .undef, fun _ => none, h0⟩) : callv fns 13 vs h0 = some v :=
  callω_runv fns (af := af13) rfl rfl rfl hl h
theorem runv66 {vs : List AV} {h0 : H} (hl : vs.length ≤ 20) {v : AV} (h : GoC fns (fun e => Run (xends [.tmp 2] e) fun q => noHeap h0.n q = some v) [] k66_5 ⟨fun j => (vs[j]?).getD .undef, fun _ => none, h0⟩) : callv fns 66 vs h0 = some v :=
  callω_runv fns (af := af66) rfl rfl rfl hl h
theorem runv48 {vs : List AV} {h0 : H} (hl : vs.length ≤ 138) {v : AV} (h : GoC fns (fun e => Run (xends [.tmp 4] e) fun q => noHeap h0.n q = some v) [] k48_46 ⟨fun j => (vs[j]?).getD .undef, fun _ => none, h0⟩) : callv fns 48 vs h0 = some v :=
  callω_runv fns (af := af48) rfl rfl rfl hl h
theorem runv28 {vs : List AV} {h0 : H} (hl : vs.length ≤ 5) {v : AV} (h : GoC fns (fun e => Run (xends [.tmp 2] e) fun q => noHeap h0.n q = some v) [] k28_1 ⟨fun j => (vs[j]?).getD .undef, fun _ => none, h0⟩) : callv fns 28 vs h0 = some v :=
  callω_runv fns (af := af28) rfl rfl rfl hl h
theorem runv29 {vs : List AV} {h0 : H} (hl : vs.length ≤ 41) {v : AV} (h : GoC fns (fun e => Run (xends [.tmp 2] e) fun q => noHeap h0.n q = some v) [] k29_14 ⟨fun j => (vs[j]?).getD .undef, fun _ => none, h0⟩) : callv fns 29 vs h0 = some v :=
  callω_runv fns (af := af29) rfl rfl rfl hl h
theorem runv8 {vs : List AV} {h0 : H} (hl : vs.length ≤ 15) {v : AV} (h : GoC fns (fun e => Run (xends [.tmp 2] e) fun q => noHeap h0.n q = some v) [] k8_1 ⟨fun j => (vs[j]?).getD .undef, fun _ => none, h0⟩) : callv fns 8 vs h0 = some v :=
  callω_runv fns (af := af8) rfl rfl rfl hl h
theorem runv49 {vs : List AV} {h0 : H} (hl : vs.length ≤ 18) {v : AV} (h : GoC fns (fun e => Run (xends [.tmp 4] e) fun q => noHeap h0.n q = some v) [] k49_13 ⟨fun j => (vs[j]?).getD .undef, fun _ => none, h0⟩) : callv fns 49 vs h0 = some v :=
  callω_runv fns (af := af49) rfl rfl rfl hl h
theorem runv51 {vs : List AV} {h0 : H} (hl : vs.length ≤ 19) {v : AV} (h : GoC fns (fun e => Run (xends [.tmp 4] e) fun q => noHeap h0.n q = some v) [] k51_1 ⟨fun j => (vs[j]?).getD .undef, fun _ => none, h0⟩) : callv fns 51 vs h0 = some v :=
  callω_runv fns (af := af51) rfl rfl rfl hl h
theorem runv50 {vs : List AV} {h0 : H} (hl : vs.length ≤ 16) {v : AV} (h : GoC fns (fun e => Run (xends [.tmp 4] e) fun q => noHeap h0.n q = some v) [] k50_3 ⟨fun j => (vs[j]?).getD .undef, fun _ => none, h0⟩) : callv fns 50 vs h0 = some v :=
  callω_runv fns (af := af50) rfl rfl rfl hl h
theorem runv26 {vs : List AV} {h0 : H} (hl : vs.length ≤ 14) {v : AV} (h : GoC fns (fun e => Run (xends [.tmp 4] e) fun q => noHeap h0.n q = some v) [] k26_2 ⟨fun j => (vs[j]?).getD .undef, fun _ => none, h0⟩) : callv fns 26 vs h0 = some v :=
  callω_runv fns (af := af26) rfl rfl rfl hl h
theorem runv20 {vs : List AV} {h0 : H} (hl : vs.length ≤ 13) {v : AV} (h : GoC fns (fun e => Run (xends [.tmp 2] e) fun q => noHeap h0.n q = some v) [] k20_1 ⟨fun j => (vs[j]?).getD .undef, fun _ => none, h0⟩) : callv fns 20 vs h0 = some v :=
  callω_runv fns (af := af20) rfl rfl rfl hl h
theorem runv35 {vs : List AV} {h0 : H} (hl : vs.length ≤ 29) {v : AV} (h : GoC fns (fun e => Run (xends [.tmp 2] e) fun q => noHeap h0.n q = some v) [] k35_16 ⟨fun j => (vs[j]?).getD .undef, fun _ => none, h0⟩) : callv fns 35 vs h0 = some v :=
  callω_runv fns (af := af35) rfl rfl rfl hl h
theorem runv30 {vs : List AV} {h0 : H} (hl : vs.length ≤ 148) {v : AV} (h : GoC fns (fun e => Run (xends [.tmp 2] e) fun q => noHeap h0.n q = some v) [] k30_73 ⟨fun j => (vs[j]?).getD .undef, fun _ => none, h0⟩) : callv fns 30 vs h0 = some v :=
  callω_runv fns (af := af30) rfl rfl rfl hl h
theorem runv9 {vs : List AV} {h0 : H} (hl : vs.length ≤ 8) {v : AV} (h : GoC fns (fun e => Run (xends [.cell 2 true 2] e) fun q => noHeap h0.n q = some v) [] k9_1 ⟨fun j => (vs[j]?).getD .undef, fun _ => none, h0⟩) : callv fns 9 vs h0 = some v :=
  callω_runv fns (af := af9) rfl rfl rfl hl h
theorem runv32 {vs : List AV} {h0 : H} (hl : vs.length ≤ 9) {v : AV} (h : GoC fns (fun e => Run (xends [.cell 2 true 2] e) fun q => noHeap h0.n q = some v) [] k32_1 ⟨fun j => (vs[j]?).getD .undef, fun _ => none, h0⟩) : callv fns 32 vs h0 = some v :=
  callω_runv fns (af := af32) rfl rfl rfl hl h
theorem runv53 {vs : List AV} {h0 : H} (hl : vs.length ≤ 8) {v : AV} (h : GoC fns (fun e => Run (xends [.cell 2 true 2] e) fun q => noHeap h0.n q = some v) [] k53_1 ⟨fun j => (vs[j]?).getD .undef, fun _ => none, h0⟩) : callv fns 53 vs h0 = some v :=
  callω_runv fns (af := af53) rfl rfl rfl hl h
theorem runv85 {vs : List AV} {h0 : H} (hl : vs.length ≤ 38) {v : AV} (h : GoC fns (fun e => Run (xends [.tmp 2, .tmp 3, .tmp 4] e) fun q => noHeap h0.n q = some v) [] k85_7 ⟨fun j => (vs[j]?).getD .undef, fun _ => none, h0⟩) : callv fns 85 vs h0 = some v :=
  callω_runv fns (af := af85) rfl rfl rfl hl h
theorem runv71 {vs : List AV} {h0 : H} (hl : vs.length ≤ 20) {v : AV} (h : GoC fns (fun e => Run (xends [.tmp 2, .tmp 3, .tmp 4] e) fun q => noHeap h0.n q = some v) [] k71_6 ⟨fun j => (vs[j]?).getD .undef, fun _ => none, h0⟩) : callv fns 71 vs h0 = some v :=
  callω_runv fns (af := af71) rfl rfl rfl hl h
theorem runv82 {vs : List AV} {h0 : H} (hl : vs.length ≤ 8) {v : AV} (h : GoC fns (fun e => Run (xends [.tmp 4] e) fun q => noHeap h0.n q = some v) [] k82_1 ⟨fun j => (vs[j]?).getD .undef, fun _ => none, h0⟩) : callv fns 82 vs h0 = some v :=
  callω_runv fns (af := af82) rfl rfl rfl hl h
theorem runv84 {vs : List AV} {h0 : H} (hl : vs.length ≤ 94) {v : AV} (h : GoC fns (fun e => Run (xends [.tmp 4, .tmp 5] e) fun q => noHeap h0.n q = some v) [] k84_81 ⟨fun j => (vs[j]?).getD .undef, fun _ => none, h0⟩) : callv fns 84 vs h0 = some v :=
  callω_runv fns (af := af84) rfl rfl rfl hl h
theorem runv69 {vs : List AV} {h0 : H} (hl : vs.length ≤ 31) {v : AV} (h : GoC fns (fun e => Run (xends [.tmp 4, .tmp 5, .tmp 6] e) fun q => noHeap h0.n q = some v) [] k69_6 ⟨fun j => (vs[j]?).getD .undef, fun _ => none, h0⟩) : callv fns 69 vs h0 = some v :=
  callω_runv fns (af := af69) rfl rfl rfl hl h
theorem runv70 {vs : List AV} {h0 : H} (hl : vs.length ≤ 8) {v : AV} (h : GoC fns (fun e => Run (xends [.cell 4 true 2] e) fun q => noHeap h0.n q = some v) [] k70_1 ⟨fun j => (vs[j]?).getD .undef, fun _ => none, h0⟩) : callv fns 70 vs h0 = some v :=
  callω_runv fns (af := af70) rfl rfl rfl hl h
theorem runv54 {vs : List AV} {h0 : H} (hl : vs.length ≤ 23) {v : AV} (h : GoC fns (fun e => Run (xends [.tmp 2] e) fun q => noHeap h0.n q = some v) [] k54_6 ⟨fun j => (vs[j]?).getD .undef, fun _ => none, h0⟩) : callv fns 54 vs h0 = some v :=
  callω_runv fns (af := af54) rfl rfl rfl hl h
theorem runv33 {vs : List AV} {h0 : H} (hl : vs.length ≤ 6) {v : AV} (h : GoC fns (fun e => Run (xends [.tmp 2] e) fun q => noHeap h0.n q = some v) [] k33_1 ⟨fun j => (vs[j]?).getD .undef, fun _ => none, h0⟩) : callv fns 33 vs h0 = some v :=
  callω_runv fns (af := af33) rfl rfl rfl hl h
theorem runv68 {vs : List AV} {h0 : H} (hl : vs.length ≤ 54) {v : AV} (h : GoC fns (fun e => Run (xends [.tmp 6] e) fun q => noHeap h0.n q = some v) [] k68_44 ⟨fun j => (vs[j]?).getD .undef, fun _ => none, h0⟩) : callv fns 68 vs h0 = some v :=
  callω_runv fns (af := af68) rfl rfl rfl hl h
theorem runv52 {vs : List AV} {h0 : H} (hl : vs.length ≤ 22) {v : AV} (h : GoC fns (fun e => Run (xends [.tmp 4] e) fun q => noHeap h0.n q = some v) [] k52_6 ⟨fun j => (vs[j]?).getD .undef, fun _ => none, h0⟩) : callv fns 52 vs h0 = some v :=
  callω_runv fns (af := af52) rfl rfl rfl hl h
theorem runv31 {vs : List AV} {h0 : H} (hl : vs.length ≤ 42) {v : AV} (h : GoC fns (fun e => Run (xends [.tmp 2] e) fun q => noHeap h0.n q = some v) [] k31_47 ⟨fun j => (vs[j]?).getD .undef, fun _ => none, h0⟩) : callv fns 31 vs h0 = some v :=
  callω_runv fns (af := af31) rfl rfl rfl hl h
theorem runv10 {vs : List AV} {h0 : H} (hl : vs.length ≤ 7) {v : AV} (h : GoC fns (fun e => Run (xends [.tmp 2] e) fun q => noHeap h0.n q = some v) [] k10_1 ⟨fun j => (vs[j]?).getD .undef, fun _ => none, h0⟩) : callv fns 10 vs h0 = some v :=
  callω_runv fns (af := af10) rfl rfl rfl hl h
theorem runv3 {vs : List AV} {h0 : H} (hl : vs.length ≤ 37) {v : AV} (h : GoC fns (fun e => Run (xends [.tmp 4] e) fun q => noHeap h0.n q = some v) [] k3_14 ⟨fun j => (vs[j]?).getD .undef, fun _ => none, h0⟩) : callv fns 3 vs h0 = some v :=
  callω_runv fns (af := af3) rfl rfl rfl hl h
def OkF (f : FuncId) (af : AFunc) : Prop := ∃ fn, Tryd.prog.funcs[f]? = some fn ∧ (fn.name == "runtime.NumGoroutine") = false ∧ ∃ hs, pFunc Tryd.prog sg hs fn = some af
def OkL : List (FuncId × AFunc) → Prop
  | [] => True
  | (f, af) :: r => OkF f af ∧ OkL r
theorem okL_lookup : ∀ {l : List (FuncId × AFunc)} {f : FuncId} {af : AFunc}, OkL l → l.lookup f = some af → OkF f af
  | [], _, _, _, h => by cases h
  | (g, ag) :: r, f, af, hl, h => by
    rw [List.lookup_cons] at h
    split at h
    · rename_i hb; injection h with h; subst h; have := beq_iff_eq.1 hb; subst this; exact hl.1
    · exact okL_lookup hl.2 h
theorem fnsOk : FnsOk Tryd.prog sg fns := fun f af h => okL_lookup (l := fnsL) ⟨⟨Tryd.f7, Tryd.func7, by kernel_rfl, ok7⟩, ⟨Tryd.f27, Tryd.func27, by kernel_rfl, ok27⟩, ⟨Tryd.f64, Tryd.func64, by kernel_rfl, ok64⟩, ⟨Tryd.f65, Tryd.func65, by kernel_rfl, ok65⟩, ⟨Tryd.f13, Tryd.func13, by kernel_rfl, ok13⟩, ⟨Tryd.f66, Tryd.func66, by kernel_rfl, ok66⟩, ⟨Tryd.f48, Tryd.func48, by kernel_rfl, ok48⟩, ⟨Tryd.f28, Tryd.func28, by kernel_rfl, ok28⟩, ⟨Tryd.f29, Tryd.func29, by kernel_rfl, ok29⟩, ⟨Tryd.f8, Tryd.func8, by kernel_rfl, ok8⟩, ⟨Tryd.f49, Tryd.func49, by kernel_rfl, ok49⟩, ⟨Tryd.f51, Tryd.func51, by kernel_rfl, ok51⟩, ⟨Tryd.f50, Tryd.func50, by kernel_rfl, ok50⟩, ⟨Tryd.f26, Tryd.func26, by kernel_rfl, ok26⟩, ⟨Tryd.f20, Tryd.func20, by kernel_rfl, ok20⟩, ⟨Tryd.f35, Tryd.func35, by kernel_rfl, ok35⟩, ⟨Tryd.f30, Tryd.func30, by kernel_rfl, ok30⟩, ⟨Tryd.f9, Tryd.func9, by kernel_rfl, ok9⟩, ⟨Tryd.f32, Tryd.func32, by kernel_rfl, ok32⟩, ⟨Tryd.f53, Tryd.func53, by kernel_rfl, ok53⟩, ⟨Tryd.f85, Tryd.func85, by kernel_rfl, ok85⟩, ⟨Tryd.f71, Tryd.func71, by kernel_rfl, ok71⟩, ⟨Tryd.f82, Tryd.func82, by kernel_rfl, ok82⟩, ⟨Tryd.f84, Tryd.func84, by kernel_rfl, ok84⟩, ⟨Tryd.f69, Tryd.func69, by kernel_rfl, ok69⟩, ⟨Tryd.f70, Tryd.func70, by kernel_rfl, ok70⟩, ⟨Tryd.f54, Tryd.func54, by kernel_rfl, ok54⟩, ⟨Tryd.f33, Tryd.func33, by kernel_rfl, ok33⟩, ⟨Tryd.f68, Tryd.func68, by kernel_rfl, ok68⟩, ⟨Tryd.f52, Tryd.func52, by kernel_rfl, ok52⟩, ⟨Tryd.f31, Tryd.func31, by kernel_rfl, ok31⟩, ⟨Tryd.f10, Tryd.func10, by kernel_rfl, ok10⟩, ⟨Tryd.f3, Tryd.func3, by kernel_rfl, ok3⟩, trivial⟩ h
end Go.Proofs.YtdnfnobgeddbfaaDoor.Abs
