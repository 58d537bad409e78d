/- The functions that the law reaches, made ready for the interpreter (printed by a program of this session; the kernel compares each with the given program). -/
import Derived.Test.YtfamhjnjlgdglaaA28
import Derived.Test.YtfamhjnjlgdglaaProg
import Derived.KernelRfl
namespace Go.Proofs.Ytfamhjnjlgdglaa.Abs
set_option linter.all false
open Go.Proofs
def sg : FuncId → Nat → Nat := fun f i =>
  if f == 13 then (if i == 0 then 1 else 0) else
  if f == 28 then (if i == 0 then 1 else 0) else
  if f == 30 then (if i == 0 then 1 else 0) else
  if f == 36 then (if i == 0 then 1 else 0) else
  if f == 37 then (if i == 0 then 1 else 0) else
  if f == 39 then (if i == 1 then 2 else if i == 99 then 1 else 0) else
  if f == 45 then (if i == 0 then 1 else 0) else
  if f == 47 then (if i == 0 then 1 else 0) else
  if f == 48 then (if i == 0 then 1 else 0) else
  if f == 51 then (if i == 0 then 1 else 0) else
  0
section
variable {fns : FuncId → Option AFunc} {Q : Ex × St → Prop} {s : List Fr} {c : ACode} {st : St}
/-- No. 21 -/
def k21_0 : ACode :=
  .ops [⟨.assign (.c (.bool true)), (some 2), none⟩] .ret
@[simp] theorem xk21_0 : GoC fns Q s k21_0 st ↔ GoO fns Q s [⟨.assign (.c (.bool true)), (some 2), none⟩] .ret st := goC_ops
def k21_1 : ACode :=
  .ops [⟨.move .look (.p 3), (some 8), none⟩,
    ⟨.bin .add 1 true (.p 8) (.c (.int .i64 1)), (some 9), none⟩,
    ⟨.assign (.p 9), (some 3), none⟩] .skip
@[simp] theorem xk21_1 : GoC fns Q s k21_1 st ↔ GoO fns Q s [⟨.move .look (.p 3), (some 8), none⟩,
    ⟨.bin .add 1 true (.p 8) (.c (.int .i64 1)), (some 9), none⟩,
    ⟨.assign (.p 9), (some 3), none⟩] .skip st := goC_ops
def k21_2 : ACode :=
  .ops [⟨.assign (.c (.bool false)), (some 2), none⟩] .ret
@[simp] theorem xk21_2 : GoC fns Q s k21_2 st ↔ GoO fns Q s [⟨.assign (.c (.bool false)), (some 2), none⟩] .ret st := goC_ops
def k21_3 : ACode :=
  .cond (.p 13) k21_2 .skip
@[simp] theorem xk21_3 : GoC fns Q s k21_3 st ↔ GB fns Q s (peek st (.p 13)) k21_2 .skip st := goC_cond
def k21_4 : ACode :=
  .ops [⟨.move .look (.p 0), (some 10), none⟩,
    ⟨.move .look (.p 3), (some 11), none⟩,
    ⟨.indexStr (.p 10) (.p 11), (some 12), none⟩,
    ⟨.bin .eql 1 true (.p 12) (.c (.int .u8 0)), (some 13), none⟩] k21_3
@[simp] theorem xk21_4 : GoC fns Q s k21_4 st ↔ GoO fns Q s [⟨.move .look (.p 0), (some 10), none⟩,
    ⟨.move .look (.p 3), (some 11), none⟩,
    ⟨.indexStr (.p 10) (.p 11), (some 12), none⟩,
    ⟨.bin .eql 1 true (.p 12) (.c (.int .u8 0)), (some 13), none⟩] k21_3 st := goC_ops
def k21_5 : ACode :=
  .block 1 k21_4
@[simp] theorem xk21_5 : GoC fns Q s k21_5 st ↔ GoC fns Q (.bl 1 :: s) k21_4 st := goC_block
def k21_6 : ACode :=
  .seq k21_5 k21_1
@[simp] theorem xk21_6 : GoC fns Q s k21_6 st ↔ GoC fns Q (.sq k21_1 :: s) k21_5 st := goC_seq
def k21_7 : ACode :=
  .cond (.p 7) .skip (.exit 0)
@[simp] theorem xk21_7 : GoC fns Q s k21_7 st ↔ GB fns Q s (peek st (.p 7)) .skip (.exit 0) st := goC_cond
def k21_8 : ACode :=
  .seq k21_7 k21_6
@[simp] theorem xk21_8 : GoC fns Q s k21_8 st ↔ GoC fns Q (.sq k21_6 :: s) k21_7 st := goC_seq
def k21_9 : ACode :=
  .ops [⟨.move .look (.p 3), (some 4), none⟩,
    ⟨.move .head (.p 0), (some 5), none⟩,
    ⟨.len true (.p 5), (some 6), none⟩,
    ⟨.bin .lss 1 false (.p 4) (.p 6), (some 7), none⟩] k21_8
@[simp] theorem xk21_9 : GoC fns Q s k21_9 st ↔ GoO fns Q s [⟨.move .look (.p 3), (some 4), none⟩,
    ⟨.move .head (.p 0), (some 5), none⟩,
    ⟨.len true (.p 5), (some 6), none⟩,
    ⟨.bin .lss 1 false (.p 4) (.p 6), (some 7), none⟩] k21_8 st := goC_ops
def lc21_0 : ACode :=
  k21_9
@[simp] theorem xlc21_0 : GoC fns Q s lc21_0 st ↔ GoC fns Q s k21_9 st := Iff.rfl
def k21_11 : ACode :=
  .loop lc21_0
@[simp] theorem xk21_11 : GoC fns Q s k21_11 st ↔ (Run (loopω fns lc21_0 st) fun r => GoE fns Q s r.1 r.2) := goC_loop
def k21_12 : ACode :=
  .block 0 k21_11
@[simp] theorem xk21_12 : GoC fns Q s k21_12 st ↔ GoC fns Q (.bl 0 :: s) k21_11 st := goC_block
def k21_13 : ACode :=
  .seq k21_12 k21_0
@[simp] theorem xk21_13 : GoC fns Q s k21_13 st ↔ GoC fns Q (.sq k21_0 :: s) k21_12 st := goC_seq
def k21_14 : ACode :=
  .ops [⟨.assign (.c (.int .i64 0)), (some 3), none⟩] k21_13
@[simp] theorem xk21_14 : GoC fns Q s k21_14 st ↔ GoO fns Q s [⟨.assign (.c (.int .i64 0)), (some 3), none⟩] k21_13 st := goC_ops
def k21_15 : ACode :=
  .ops [⟨.assign (.c (.bool false)), (some 2), none⟩] k21_14
@[simp] theorem xk21_15 : GoC fns Q s k21_15 st ↔ GoO fns Q s [⟨.assign (.c (.bool false)), (some 2), none⟩] k21_14 st := goC_ops
def af21 : AFunc := ⟨14, k21_15, [.tmp 2]⟩

theorem ok21 : ∃ hs, pFunc Try.prog sg hs Try.f21 = some af21 := ⟨fun i => 0, by kernel_rfl⟩
/-- No. 40 -/
def k40_0 : ACode :=
  .ops [⟨.move .take (.p 5), (some 31), none⟩,
    ⟨.assign (.p 31), (some 4), none⟩] .ret
@[simp] theorem xk40_0 : GoC fns Q s k40_0 st ↔ GoO fns Q s [⟨.move .take (.p 5), (some 31), none⟩,
    ⟨.assign (.p 31), (some 4), none⟩] .ret st := goC_ops
def k40_1 : ACode :=
  .ops [⟨.move .look (.p 6), (some 17), none⟩,
    ⟨.bin .add 1 true (.p 17) (.c (.int .i64 1)), (some 18), none⟩,
    ⟨.assign (.p 18), (some 6), none⟩] .skip
@[simp] theorem xk40_1 : GoC fns Q s k40_1 st ↔ GoO fns Q s [⟨.move .look (.p 6), (some 17), none⟩,
    ⟨.bin .add 1 true (.p 17) (.c (.int .i64 1)), (some 18), none⟩,
    ⟨.assign (.p 18), (some 6), none⟩] .skip st := goC_ops
def k40_2 : ACode :=
  .ops [⟨.move .look (.p 5), (some 19), none⟩,
    ⟨.fieldAddr 7 (.p 2), (some 20), none⟩,
    ⟨.load .look false 1 (.p 20), (some 21), none⟩,
    ⟨.move .look (.p 6), (some 22), none⟩,
    ⟨.indexAddr 9 (.t 21) (.p 22), (some 23), none⟩,
    ⟨.fieldAddr 1 (.p 23), (some 24), none⟩,
    ⟨.load .look true 8 (.p 24), (some 25), none⟩,
    ⟨.move .look (.p 1), (some 26), none⟩,
    ⟨.move .look (.p 5), (some 27), none⟩,
    ⟨.bin .sub 1 false (.p 26) (.p 27), (some 28), none⟩,
    ⟨.call 40 [(.p 25, false), (.p 28, false)], (some 29), none⟩,
    ⟨.bin .add 1 false (.p 19) (.p 29), (some 30), none⟩,
    ⟨.assign (.p 30), (some 5), none⟩] .skip
@[simp] theorem xk40_2 : GoC fns Q s k40_2 st ↔ GoO fns Q s [⟨.move .look (.p 5), (some 19), none⟩,
    ⟨.fieldAddr 7 (.p 2), (some 20), none⟩,
    ⟨.load .look false 1 (.p 20), (some 21), none⟩,
    ⟨.move .look (.p 6), (some 22), none⟩,
    ⟨.indexAddr 9 (.t 21) (.p 22), (some 23), none⟩,
    ⟨.fieldAddr 1 (.p 23), (some 24), none⟩,
    ⟨.load .look true 8 (.p 24), (some 25), none⟩,
    ⟨.move .look (.p 1), (some 26), none⟩,
    ⟨.move .look (.p 5), (some 27), none⟩,
    ⟨.bin .sub 1 false (.p 26) (.p 27), (some 28), none⟩,
    ⟨.call 40 [(.p 25, false), (.p 28, false)], (some 29), none⟩,
    ⟨.bin .add 1 false (.p 19) (.p 29), (some 30), none⟩,
    ⟨.assign (.p 30), (some 5), none⟩] .skip st := goC_ops
def k40_3 : ACode :=
  .block 1 k40_2
@[simp] theorem xk40_3 : GoC fns Q s k40_3 st ↔ GoC fns Q (.bl 1 :: s) k40_2 st := goC_block
def k40_4 : ACode :=
  .seq k40_3 k40_1
@[simp] theorem xk40_4 : GoC fns Q s k40_4 st ↔ GoC fns Q (.sq k40_1 :: s) k40_3 st := goC_seq
def k40_5 : ACode :=
  .cond (.p 16) .skip (.exit 0)
@[simp] theorem xk40_5 : GoC fns Q s k40_5 st ↔ GB fns Q s (peek st (.p 16)) .skip (.exit 0) st := goC_cond
def k40_6 : ACode :=
  .seq k40_5 k40_4
@[simp] theorem xk40_6 : GoC fns Q s k40_6 st ↔ GoC fns Q (.sq k40_4 :: s) k40_5 st := goC_seq
def k40_7 : ACode :=
  .ops [⟨.move .look (.p 6), (some 7), none⟩,
    ⟨.fieldAddr 7 (.p 2), (some 8), none⟩,
    ⟨.load .head false 1 (.p 8), (some 9), none⟩,
    ⟨.len false (.p 9), (some 10), none⟩,
    ⟨.bin .lss 1 false (.p 7) (.p 10), (some 11), none⟩,
    ⟨.move .look (.p 11), (some 12), none⟩,
    ⟨.move .look (.p 5), (some 13), (some (12, true))⟩,
    ⟨.move .look (.p 1), (some 14), (some (12, true))⟩,
    ⟨.bin .leq 1 false (.p 13) (.p 14), (some 15), (some (12, true))⟩,
    ⟨.pick (.p 12) (.p 15) (.c (.bool false)), (some 16), none⟩] k40_6
@[simp] theorem xk40_7 : GoC fns Q s k40_7 st ↔ GoO fns Q s [⟨.move .look (.p 6), (some 7), none⟩,
    ⟨.fieldAddr 7 (.p 2), (some 8), none⟩,
    ⟨.load .head false 1 (.p 8), (some 9), none⟩,
    ⟨.len false (.p 9), (some 10), none⟩,
    ⟨.bin .lss 1 false (.p 7) (.p 10), (some 11), none⟩,
    ⟨.move .look (.p 11), (some 12), none⟩,
    ⟨.move .look (.p 5), (some 13), (some (12, true))⟩,
    ⟨.move .look (.p 1), (some 14), (some (12, true))⟩,
    ⟨.bin .leq 1 false (.p 13) (.p 14), (some 15), (some (12, true))⟩,
    ⟨.pick (.p 12) (.p 15) (.c (.bool false)), (some 16), none⟩] k40_6 st := goC_ops
def lc40_0 : ACode :=
  k40_7
@[simp] theorem xlc40_0 : GoC fns Q s lc40_0 st ↔ GoC fns Q s k40_7 st := Iff.rfl
def k40_9 : ACode :=
  .loop lc40_0
@[simp] theorem xk40_9 : GoC fns Q s k40_9 st ↔ (Run (loopω fns lc40_0 st) fun r => GoE fns Q s r.1 r.2) := goC_loop
def k40_10 : ACode :=
  .block 0 k40_9
@[simp] theorem xk40_10 : GoC fns Q s k40_10 st ↔ GoC fns Q (.bl 0 :: s) k40_9 st := goC_block
def k40_11 : ACode :=
  .seq k40_10 k40_0
@[simp] theorem xk40_11 : GoC fns Q s k40_11 st ↔ GoC fns Q (.sq k40_0 :: s) k40_10 st := goC_seq
def k40_12 : ACode :=
  .ops [⟨.assign (.c (.int .i64 0)), (some 6), none⟩] k40_11
@[simp] theorem xk40_12 : GoC fns Q s k40_12 st ↔ GoO fns Q s [⟨.assign (.c (.int .i64 0)), (some 6), none⟩] k40_11 st := goC_ops
def k40_13 : ACode :=
  .ops [⟨.assign (.c (.int .i64 1)), (some 5), none⟩] k40_12
@[simp] theorem xk40_13 : GoC fns Q s k40_13 st ↔ GoO fns Q s [⟨.assign (.c (.int .i64 1)), (some 5), none⟩] k40_12 st := goC_ops
def k40_14 : ACode :=
  .ops [⟨.box 2 (.p 0), (some 2), none⟩,
    ⟨.assign (.c (.int .i64 0)), (some 4), none⟩] k40_13
@[simp] theorem xk40_14 : GoC fns Q s k40_14 st ↔ GoO fns Q s [⟨.box 2 (.p 0), (some 2), none⟩,
    ⟨.assign (.c (.int .i64 0)), (some 4), none⟩] k40_13 st := goC_ops
def af40 : AFunc := ⟨32, k40_14, [.tmp 4]⟩

theorem ok40 : ∃ hs, pFunc Try.prog sg hs Try.f40 = some af40 := ⟨fun i => 0, by kernel_rfl⟩
/-- No. 20 -/
def k20_0 : ACode :=
  .ops [⟨.move .look (.p 0), (some 3), none⟩,
    ⟨.bin .geq 1 true (.p 3) (.c (.int .i64 1)), (some 4), none⟩,
    ⟨.move .look (.p 4), (some 5), none⟩,
    ⟨.move .look (.p 0), (some 6), (some (5, true))⟩,
    ⟨.bin .leq 1 true (.p 6) (.c (.int .i64 19)), (some 7), (some (5, true))⟩,
    ⟨.pick (.p 5) (.p 7) (.c (.bool false)), (some 8), none⟩,
    ⟨.move .look (.p 8), (some 9), none⟩,
    ⟨.move .head (.p 0), (some 10), (some (9, false))⟩,
    ⟨.bin .eql 1 true (.p 10) (.c (.int .i64 255)), (some 11), (some (9, false))⟩,
    ⟨.pick (.p 9) (.c (.bool true)) (.p 11), (some 12), none⟩,
    ⟨.move .look (.p 12), (some 13), none⟩,
    ⟨.move .head (.p 0), (some 14), (some (13, false))⟩,
    ⟨.bin .eql 1 true (.p 14) (.c (.int .i64 127)), (some 15), (some (13, false))⟩,
    ⟨.pick (.p 13) (.c (.bool true)) (.p 15), (some 16), none⟩,
    ⟨.assign (.p 16), (some 2), none⟩] .ret
@[simp] theorem xk20_0 : GoC fns Q s k20_0 st ↔ GoO fns Q s [⟨.move .look (.p 0), (some 3), none⟩,
    ⟨.bin .geq 1 true (.p 3) (.c (.int .i64 1)), (some 4), none⟩,
    ⟨.move .look (.p 4), (some 5), none⟩,
    ⟨.move .look (.p 0), (some 6), (some (5, true))⟩,
    ⟨.bin .leq 1 true (.p 6) (.c (.int .i64 19)), (some 7), (some (5, true))⟩,
    ⟨.pick (.p 5) (.p 7) (.c (.bool false)), (some 8), none⟩,
    ⟨.move .look (.p 8), (some 9), none⟩,
    ⟨.move .head (.p 0), (some 10), (some (9, false))⟩,
    ⟨.bin .eql 1 true (.p 10) (.c (.int .i64 255)), (some 11), (some (9, false))⟩,
    ⟨.pick (.p 9) (.c (.bool true)) (.p 11), (some 12), none⟩,
    ⟨.move .look (.p 12), (some 13), none⟩,
    ⟨.move .head (.p 0), (some 14), (some (13, false))⟩,
    ⟨.bin .eql 1 true (.p 14) (.c (.int .i64 127)), (some 15), (some (13, false))⟩,
    ⟨.pick (.p 13) (.c (.bool true)) (.p 15), (some 16), none⟩,
    ⟨.assign (.p 16), (some 2), none⟩] .ret st := goC_ops
def k20_1 : ACode :=
  .ops [⟨.assign (.c (.bool false)), (some 2), none⟩] k20_0
@[simp] theorem xk20_1 : GoC fns Q s k20_1 st ↔ GoO fns Q s [⟨.assign (.c (.bool false)), (some 2), none⟩] k20_0 st := goC_ops
def af20 : AFunc := ⟨17, k20_1, [.tmp 2]⟩

theorem ok20 : ∃ hs, pFunc Try.prog sg hs Try.f20 = some af20 := ⟨fun i => 0, by kernel_rfl⟩
/-- No. 52 -/
def k52_0 : ACode :=
  .ops [⟨.load .take true 8 (.p 1), (some 47), none⟩,
    ⟨.store 8 (.p 2) (.p 47), none, none⟩] .ret
@[simp] theorem xk52_0 : GoC fns Q s k52_0 st ↔ GoO fns Q s [⟨.load .take true 8 (.p 1), (some 47), none⟩,
    ⟨.store 8 (.p 2) (.p 47), none, none⟩] .ret st := goC_ops
def k52_1 : ACode :=
  .ops [⟨.fieldAddr 4 (.p 1), (some 8), none⟩,
    ⟨.store 1 (.p 8) (.c (.int .u64 0)), none, none⟩] .skip
@[simp] theorem xk52_1 : GoC fns Q s k52_1 st ↔ GoO fns Q s [⟨.fieldAddr 4 (.p 1), (some 8), none⟩,
    ⟨.store 1 (.p 8) (.c (.int .u64 0)), none, none⟩] .skip st := goC_ops
def k52_2 : ACode :=
  .ops [⟨.fieldAddr 1 (.p 1), (some 13), none⟩,
    ⟨.store 1 (.p 13) (.c (.str [])), none, none⟩] .skip
@[simp] theorem xk52_2 : GoC fns Q s k52_2 st ↔ GoO fns Q s [⟨.fieldAddr 1 (.p 1), (some 13), none⟩,
    ⟨.store 1 (.p 13) (.c (.str [])), none, none⟩] .skip st := goC_ops
def k52_3 : ACode :=
  .ops [⟨.fieldAddr 7 (.p 1), (some 17), none⟩,
    ⟨.store 1 (.p 17) (.c (.slice .nil 0 1 [])), none, none⟩] .skip
@[simp] theorem xk52_3 : GoC fns Q s k52_3 st ↔ GoO fns Q s [⟨.fieldAddr 7 (.p 1), (some 17), none⟩,
    ⟨.store 1 (.p 17) (.c (.slice .nil 0 1 [])), none, none⟩] .skip st := goC_ops
def k52_4 : ACode :=
  .ops [⟨.fieldAddr 3 (.p 1), (some 20), none⟩,
    ⟨.store 1 (.p 20) (.c (.int .i64 0)), none, none⟩,
    ⟨.fieldAddr 6 (.p 1), (some 21), none⟩,
    ⟨.store 1 (.p 21) (.c (.slice .nil 0 1 [])), none, none⟩] .skip
@[simp] theorem xk52_4 : GoC fns Q s k52_4 st ↔ GoO fns Q s [⟨.fieldAddr 3 (.p 1), (some 20), none⟩,
    ⟨.store 1 (.p 20) (.c (.int .i64 0)), none, none⟩,
    ⟨.fieldAddr 6 (.p 1), (some 21), none⟩,
    ⟨.store 1 (.p 21) (.c (.slice .nil 0 1 [])), none, none⟩] .skip st := goC_ops
def k52_5 : ACode :=
  .ops [⟨.fieldAddr 6 (.p 1), (some 24), none⟩,
    ⟨.store 1 (.p 24) (.c (.slice .nil 0 1 [])), none, none⟩] .skip
@[simp] theorem xk52_5 : GoC fns Q s k52_5 st ↔ GoO fns Q s [⟨.fieldAddr 6 (.p 1), (some 24), none⟩,
    ⟨.store 1 (.p 24) (.c (.slice .nil 0 1 [])), none, none⟩] .skip st := goC_ops
def k52_6 : ACode :=
  .ops [⟨.fieldAddr 3 (.p 1), (some 30), none⟩,
    ⟨.store 1 (.p 30) (.c (.int .i64 0)), none, none⟩] .skip
@[simp] theorem xk52_6 : GoC fns Q s k52_6 st ↔ GoO fns Q s [⟨.fieldAddr 3 (.p 1), (some 30), none⟩,
    ⟨.store 1 (.p 30) (.c (.int .i64 0)), none, none⟩] .skip st := goC_ops
def k52_7 : ACode :=
  .ops [⟨.fieldAddr 1 (.p 1), (some 33), none⟩,
    ⟨.store 1 (.p 33) (.c (.str [])), none, none⟩,
    ⟨.fieldAddr 2 (.p 1), (some 34), none⟩,
    ⟨.store 1 (.p 34) (.c (.str [])), none, none⟩] .skip
@[simp] theorem xk52_7 : GoC fns Q s k52_7 st ↔ GoO fns Q s [⟨.fieldAddr 1 (.p 1), (some 33), none⟩,
    ⟨.store 1 (.p 33) (.c (.str [])), none, none⟩,
    ⟨.fieldAddr 2 (.p 1), (some 34), none⟩,
    ⟨.store 1 (.p 34) (.c (.str [])), none, none⟩] .skip st := goC_ops
def k52_8 : ACode :=
  .ops [⟨.fieldAddr 1 (.p 1), (some 37), none⟩,
    ⟨.store 1 (.p 37) (.c (.str [])), none, none⟩,
    ⟨.fieldAddr 6 (.p 1), (some 38), none⟩,
    ⟨.store 1 (.p 38) (.c (.slice .nil 0 1 [])), none, none⟩] .skip
@[simp] theorem xk52_8 : GoC fns Q s k52_8 st ↔ GoO fns Q s [⟨.fieldAddr 1 (.p 1), (some 37), none⟩,
    ⟨.store 1 (.p 37) (.c (.str [])), none, none⟩,
    ⟨.fieldAddr 6 (.p 1), (some 38), none⟩,
    ⟨.store 1 (.p 38) (.c (.slice .nil 0 1 [])), none, none⟩] .skip st := goC_ops
def k52_9 : ACode :=
  .ops [⟨.fieldAddr 1 (.p 1), (some 41), none⟩,
    ⟨.store 1 (.p 41) (.c (.str [])), none, none⟩,
    ⟨.fieldAddr 7 (.p 1), (some 42), none⟩,
    ⟨.store 1 (.p 42) (.c (.slice .nil 0 1 [])), none, none⟩] .skip
@[simp] theorem xk52_9 : GoC fns Q s k52_9 st ↔ GoO fns Q s [⟨.fieldAddr 1 (.p 1), (some 41), none⟩,
    ⟨.store 1 (.p 41) (.c (.str [])), none, none⟩,
    ⟨.fieldAddr 7 (.p 1), (some 42), none⟩,
    ⟨.store 1 (.p 42) (.c (.slice .nil 0 1 [])), none, none⟩] .skip st := goC_ops
def k52_10 : ACode :=
  .ops [⟨.fieldAddr 4 (.p 1), (some 45), none⟩,
    ⟨.store 1 (.p 45) (.c (.int .u64 0)), none, none⟩,
    ⟨.fieldAddr 5 (.p 1), (some 46), none⟩,
    ⟨.store 1 (.p 46) (.c (.int .u64 0)), none, none⟩] .skip
@[simp] theorem xk52_10 : GoC fns Q s k52_10 st ↔ GoO fns Q s [⟨.fieldAddr 4 (.p 1), (some 45), none⟩,
    ⟨.store 1 (.p 45) (.c (.int .u64 0)), none, none⟩,
    ⟨.fieldAddr 5 (.p 1), (some 46), none⟩,
    ⟨.store 1 (.p 46) (.c (.int .u64 0)), none, none⟩] .skip st := goC_ops
def k52_11 : ACode :=
  .cond (.p 43) k52_10 .skip
@[simp] theorem xk52_11 : GoC fns Q s k52_11 st ↔ GB fns Q s (peek st (.p 43)) k52_10 .skip st := goC_cond
def k52_12 : ACode :=
  .ops [⟨.bin .eql 1 true (.p 4) (.c (.int .i64 19)), (some 44), none⟩,
    ⟨.assign (.p 44), (some 43), none⟩] k52_11
@[simp] theorem xk52_12 : GoC fns Q s k52_12 st ↔ GoO fns Q s [⟨.bin .eql 1 true (.p 4) (.c (.int .i64 19)), (some 44), none⟩,
    ⟨.assign (.p 44), (some 43), none⟩] k52_11 st := goC_ops
def k52_13 : ACode :=
  .cond (.p 39) k52_9 k52_12
@[simp] theorem xk52_13 : GoC fns Q s k52_13 st ↔ GB fns Q s (peek st (.p 39)) k52_9 k52_12 st := goC_cond
def k52_14 : ACode :=
  .ops [⟨.bin .eql 1 true (.p 4) (.c (.int .i64 15)), (some 40), none⟩,
    ⟨.assign (.p 40), (some 39), none⟩] k52_13
@[simp] theorem xk52_14 : GoC fns Q s k52_14 st ↔ GoO fns Q s [⟨.bin .eql 1 true (.p 4) (.c (.int .i64 15)), (some 40), none⟩,
    ⟨.assign (.p 40), (some 39), none⟩] k52_13 st := goC_ops
def k52_15 : ACode :=
  .cond (.p 35) k52_8 k52_14
@[simp] theorem xk52_15 : GoC fns Q s k52_15 st ↔ GB fns Q s (peek st (.p 35)) k52_8 k52_14 st := goC_cond
def k52_16 : ACode :=
  .ops [⟨.bin .eql 1 true (.p 4) (.c (.int .i64 12)), (some 36), none⟩,
    ⟨.assign (.p 36), (some 35), none⟩] k52_15
@[simp] theorem xk52_16 : GoC fns Q s k52_16 st ↔ GoO fns Q s [⟨.bin .eql 1 true (.p 4) (.c (.int .i64 12)), (some 36), none⟩,
    ⟨.assign (.p 36), (some 35), none⟩] k52_15 st := goC_ops
def k52_17 : ACode :=
  .cond (.p 31) k52_7 k52_16
@[simp] theorem xk52_17 : GoC fns Q s k52_17 st ↔ GB fns Q s (peek st (.p 31)) k52_7 k52_16 st := goC_cond
def k52_18 : ACode :=
  .ops [⟨.bin .eql 1 true (.p 4) (.c (.int .i64 11)), (some 32), none⟩,
    ⟨.assign (.p 32), (some 31), none⟩] k52_17
@[simp] theorem xk52_18 : GoC fns Q s k52_18 st ↔ GoO fns Q s [⟨.bin .eql 1 true (.p 4) (.c (.int .i64 11)), (some 32), none⟩,
    ⟨.assign (.p 32), (some 31), none⟩] k52_17 st := goC_ops
def k52_19 : ACode :=
  .cond (.p 25) k52_6 k52_18
@[simp] theorem xk52_19 : GoC fns Q s k52_19 st ↔ GB fns Q s (peek st (.p 25)) k52_6 k52_18 st := goC_cond
def k52_20 : ACode :=
  .ops [⟨.bin .eql 1 true (.p 4) (.c (.int .i64 18)), (some 29), none⟩,
    ⟨.assign (.p 29), (some 25), none⟩] .skip
@[simp] theorem xk52_20 : GoC fns Q s k52_20 st ↔ GoO fns Q s [⟨.bin .eql 1 true (.p 4) (.c (.int .i64 18)), (some 29), none⟩,
    ⟨.assign (.p 29), (some 25), none⟩] .skip st := goC_ops
def k52_21 : ACode :=
  .cond (.p 25) .skip k52_20
@[simp] theorem xk52_21 : GoC fns Q s k52_21 st ↔ GB fns Q s (peek st (.p 25)) .skip k52_20 st := goC_cond
def k52_22 : ACode :=
  .ops [⟨.bin .eql 1 true (.p 4) (.c (.int .i64 16)), (some 28), none⟩,
    ⟨.assign (.p 28), (some 25), none⟩] k52_21
@[simp] theorem xk52_22 : GoC fns Q s k52_22 st ↔ GoO fns Q s [⟨.bin .eql 1 true (.p 4) (.c (.int .i64 16)), (some 28), none⟩,
    ⟨.assign (.p 28), (some 25), none⟩] k52_21 st := goC_ops
def k52_23 : ACode :=
  .cond (.p 25) .skip k52_22
@[simp] theorem xk52_23 : GoC fns Q s k52_23 st ↔ GB fns Q s (peek st (.p 25)) .skip k52_22 st := goC_cond
def k52_24 : ACode :=
  .ops [⟨.bin .eql 1 true (.p 4) (.c (.int .i64 9)), (some 27), none⟩,
    ⟨.assign (.p 27), (some 25), none⟩] k52_23
@[simp] theorem xk52_24 : GoC fns Q s k52_24 st ↔ GoO fns Q s [⟨.bin .eql 1 true (.p 4) (.c (.int .i64 9)), (some 27), none⟩,
    ⟨.assign (.p 27), (some 25), none⟩] k52_23 st := goC_ops
def k52_25 : ACode :=
  .cond (.p 25) .skip k52_24
@[simp] theorem xk52_25 : GoC fns Q s k52_25 st ↔ GB fns Q s (peek st (.p 25)) .skip k52_24 st := goC_cond
def k52_26 : ACode :=
  .seq k52_25 k52_19
@[simp] theorem xk52_26 : GoC fns Q s k52_26 st ↔ GoC fns Q (.sq k52_19 :: s) k52_25 st := goC_seq
def k52_27 : ACode :=
  .ops [⟨.bin .eql 1 true (.p 4) (.c (.int .i64 8)), (some 26), none⟩,
    ⟨.assign (.p 26), (some 25), none⟩] k52_26
@[simp] theorem xk52_27 : GoC fns Q s k52_27 st ↔ GoO fns Q s [⟨.bin .eql 1 true (.p 4) (.c (.int .i64 8)), (some 26), none⟩,
    ⟨.assign (.p 26), (some 25), none⟩] k52_26 st := goC_ops
def k52_28 : ACode :=
  .cond (.p 22) k52_5 k52_27
@[simp] theorem xk52_28 : GoC fns Q s k52_28 st ↔ GB fns Q s (peek st (.p 22)) k52_5 k52_27 st := goC_cond
def k52_29 : ACode :=
  .ops [⟨.bin .eql 1 true (.p 4) (.c (.int .i64 7)), (some 23), none⟩,
    ⟨.assign (.p 23), (some 22), none⟩] k52_28
@[simp] theorem xk52_29 : GoC fns Q s k52_29 st ↔ GoO fns Q s [⟨.bin .eql 1 true (.p 4) (.c (.int .i64 7)), (some 23), none⟩,
    ⟨.assign (.p 23), (some 22), none⟩] k52_28 st := goC_ops
def k52_30 : ACode :=
  .cond (.p 18) k52_4 k52_29
@[simp] theorem xk52_30 : GoC fns Q s k52_30 st ↔ GB fns Q s (peek st (.p 18)) k52_4 k52_29 st := goC_cond
def k52_31 : ACode :=
  .ops [⟨.bin .eql 1 true (.p 4) (.c (.int .i64 5)), (some 19), none⟩,
    ⟨.assign (.p 19), (some 18), none⟩] k52_30
@[simp] theorem xk52_31 : GoC fns Q s k52_31 st ↔ GoO fns Q s [⟨.bin .eql 1 true (.p 4) (.c (.int .i64 5)), (some 19), none⟩,
    ⟨.assign (.p 19), (some 18), none⟩] k52_30 st := goC_ops
def k52_32 : ACode :=
  .cond (.p 14) k52_3 k52_31
@[simp] theorem xk52_32 : GoC fns Q s k52_32 st ↔ GB fns Q s (peek st (.p 14)) k52_3 k52_31 st := goC_cond
def k52_33 : ACode :=
  .ops [⟨.bin .eql 1 true (.p 4) (.c (.int .i64 4)), (some 16), none⟩,
    ⟨.assign (.p 16), (some 14), none⟩] .skip
@[simp] theorem xk52_33 : GoC fns Q s k52_33 st ↔ GoO fns Q s [⟨.bin .eql 1 true (.p 4) (.c (.int .i64 4)), (some 16), none⟩,
    ⟨.assign (.p 16), (some 14), none⟩] .skip st := goC_ops
def k52_34 : ACode :=
  .cond (.p 14) .skip k52_33
@[simp] theorem xk52_34 : GoC fns Q s k52_34 st ↔ GB fns Q s (peek st (.p 14)) .skip k52_33 st := goC_cond
def k52_35 : ACode :=
  .seq k52_34 k52_32
@[simp] theorem xk52_35 : GoC fns Q s k52_35 st ↔ GoC fns Q (.sq k52_32 :: s) k52_34 st := goC_seq
def k52_36 : ACode :=
  .ops [⟨.bin .eql 1 true (.p 4) (.c (.int .i64 3)), (some 15), none⟩,
    ⟨.assign (.p 15), (some 14), none⟩] k52_35
@[simp] theorem xk52_36 : GoC fns Q s k52_36 st ↔ GoO fns Q s [⟨.bin .eql 1 true (.p 4) (.c (.int .i64 3)), (some 15), none⟩,
    ⟨.assign (.p 15), (some 14), none⟩] k52_35 st := goC_ops
def k52_37 : ACode :=
  .cond (.p 9) k52_2 k52_36
@[simp] theorem xk52_37 : GoC fns Q s k52_37 st ↔ GB fns Q s (peek st (.p 9)) k52_2 k52_36 st := goC_cond
def k52_38 : ACode :=
  .ops [⟨.bin .eql 1 true (.p 4) (.c (.int .i64 14)), (some 12), none⟩,
    ⟨.assign (.p 12), (some 9), none⟩] .skip
@[simp] theorem xk52_38 : GoC fns Q s k52_38 st ↔ GoO fns Q s [⟨.bin .eql 1 true (.p 4) (.c (.int .i64 14)), (some 12), none⟩,
    ⟨.assign (.p 12), (some 9), none⟩] .skip st := goC_ops
def k52_39 : ACode :=
  .cond (.p 9) .skip k52_38
@[simp] theorem xk52_39 : GoC fns Q s k52_39 st ↔ GB fns Q s (peek st (.p 9)) .skip k52_38 st := goC_cond
def k52_40 : ACode :=
  .ops [⟨.bin .eql 1 true (.p 4) (.c (.int .i64 13)), (some 11), none⟩,
    ⟨.assign (.p 11), (some 9), none⟩] k52_39
@[simp] theorem xk52_40 : GoC fns Q s k52_40 st ↔ GoO fns Q s [⟨.bin .eql 1 true (.p 4) (.c (.int .i64 13)), (some 11), none⟩,
    ⟨.assign (.p 11), (some 9), none⟩] k52_39 st := goC_ops
def k52_41 : ACode :=
  .cond (.p 9) .skip k52_40
@[simp] theorem xk52_41 : GoC fns Q s k52_41 st ↔ GB fns Q s (peek st (.p 9)) .skip k52_40 st := goC_cond
def k52_42 : ACode :=
  .seq k52_41 k52_37
@[simp] theorem xk52_42 : GoC fns Q s k52_42 st ↔ GoC fns Q (.sq k52_37 :: s) k52_41 st := goC_seq
def k52_43 : ACode :=
  .ops [⟨.bin .eql 1 true (.p 4) (.c (.int .i64 2)), (some 10), none⟩,
    ⟨.assign (.p 10), (some 9), none⟩] k52_42
@[simp] theorem xk52_43 : GoC fns Q s k52_43 st ↔ GoO fns Q s [⟨.bin .eql 1 true (.p 4) (.c (.int .i64 2)), (some 10), none⟩,
    ⟨.assign (.p 10), (some 9), none⟩] k52_42 st := goC_ops
def k52_44 : ACode :=
  .cond (.p 5) k52_1 k52_43
@[simp] theorem xk52_44 : GoC fns Q s k52_44 st ↔ GB fns Q s (peek st (.p 5)) k52_1 k52_43 st := goC_cond
def k52_45 : ACode :=
  .ops [⟨.bin .eql 1 true (.p 4) (.c (.int .i64 17)), (some 7), none⟩,
    ⟨.assign (.p 7), (some 5), none⟩] .skip
@[simp] theorem xk52_45 : GoC fns Q s k52_45 st ↔ GoO fns Q s [⟨.bin .eql 1 true (.p 4) (.c (.int .i64 17)), (some 7), none⟩,
    ⟨.assign (.p 7), (some 5), none⟩] .skip st := goC_ops
def k52_46 : ACode :=
  .cond (.p 5) .skip k52_45
@[simp] theorem xk52_46 : GoC fns Q s k52_46 st ↔ GB fns Q s (peek st (.p 5)) .skip k52_45 st := goC_cond
def k52_47 : ACode :=
  .seq k52_46 k52_44
@[simp] theorem xk52_47 : GoC fns Q s k52_47 st ↔ GoC fns Q (.sq k52_44 :: s) k52_46 st := goC_seq
def k52_48 : ACode :=
  .ops [⟨.bin .eql 1 true (.p 4) (.c (.int .i64 1)), (some 6), none⟩,
    ⟨.assign (.p 6), (some 5), none⟩] k52_47
@[simp] theorem xk52_48 : GoC fns Q s k52_48 st ↔ GoO fns Q s [⟨.bin .eql 1 true (.p 4) (.c (.int .i64 1)), (some 6), none⟩,
    ⟨.assign (.p 6), (some 5), none⟩] k52_47 st := goC_ops
def k52_49 : ACode :=
  .block 0 k52_48
@[simp] theorem xk52_49 : GoC fns Q s k52_49 st ↔ GoC fns Q (.bl 0 :: s) k52_48 st := goC_block
def k52_50 : ACode :=
  .seq k52_49 k52_0
@[simp] theorem xk52_50 : GoC fns Q s k52_50 st ↔ GoC fns Q (.sq k52_0 :: s) k52_49 st := goC_seq
def k52_51 : ACode :=
  .ops [⟨.fieldAddr 0 (.p 1), (some 3), none⟩,
    ⟨.load .head false 1 (.p 3), (some 4), none⟩] k52_50
@[simp] theorem xk52_51 : GoC fns Q s k52_51 st ↔ GoO fns Q s [⟨.fieldAddr 0 (.p 1), (some 3), none⟩,
    ⟨.load .head false 1 (.p 3), (some 4), none⟩] k52_50 st := goC_ops
def k52_52 : ACode :=
  .ops [⟨.box 1 (.p 0), (some 1), none⟩,
    ⟨.newbox 2 [.int .i64 0, .str [], .str [], .int .i64 0, .int .u64 0, .int .u64 0, .slice .nil 0 1 [], .slice .nil 0 1 []], (some 2), none⟩] k52_51
@[simp] theorem xk52_52 : GoC fns Q s k52_52 st ↔ GoO fns Q s [⟨.box 1 (.p 0), (some 1), none⟩,
    ⟨.newbox 2 [.int .i64 0, .str [], .str [], .int .i64 0, .int .u64 0, .int .u64 0, .slice .nil 0 1 [], .slice .nil 0 1 []], (some 2), none⟩] k52_51 st := goC_ops
def af52 : AFunc := ⟨48, k52_52, [.cell 2 true 8]⟩

theorem ok52 : ∃ hs, pFunc Try.prog sg hs Try.f52 = some af52 := ⟨fun i => 0, by kernel_rfl⟩
/-- No. 53 -/
def k53_0 : ACode :=
  .ops [⟨.move .look (.p 0), (some 10), none⟩,
    ⟨.bin .quo 1 true (.p 10) (.c (.int .i64 10)), (some 11), none⟩,
    ⟨.move .look (.p 0), (some 13), none⟩,
    ⟨.bin .rem 1 true (.p 13) (.c (.int .i64 10)), (some 14), none⟩,
    ⟨.bin .add 1 true (.c (.int .i64 48)) (.p 14), (some 15), none⟩,
    ⟨.convInt .u8 (.p 15), (some 16), none⟩,
    ⟨.buildSl 5 1 [.int .u8 0] [(0, 1, .p 16)], (some 17), none⟩,
    ⟨.convBS (.t 17), (some 18), none⟩,
    ⟨.call 53 [(.p 11, false)], (some 12), none⟩,
    ⟨.bin .add 2 false (.p 12) (.p 18), (some 19), none⟩,
    ⟨.assign (.p 19), (some 2), none⟩] .ret
@[simp] theorem xk53_0 : GoC fns Q s k53_0 st ↔ GoO fns Q s [⟨.move .look (.p 0), (some 10), none⟩,
    ⟨.bin .quo 1 true (.p 10) (.c (.int .i64 10)), (some 11), none⟩,
    ⟨.move .look (.p 0), (some 13), none⟩,
    ⟨.bin .rem 1 true (.p 13) (.c (.int .i64 10)), (some 14), none⟩,
    ⟨.bin .add 1 true (.c (.int .i64 48)) (.p 14), (some 15), none⟩,
    ⟨.convInt .u8 (.p 15), (some 16), none⟩,
    ⟨.buildSl 5 1 [.int .u8 0] [(0, 1, .p 16)], (some 17), none⟩,
    ⟨.convBS (.t 17), (some 18), none⟩,
    ⟨.call 53 [(.p 11, false)], (some 12), none⟩,
    ⟨.bin .add 2 false (.p 12) (.p 18), (some 19), none⟩,
    ⟨.assign (.p 19), (some 2), none⟩] .ret st := goC_ops
def k53_1 : ACode :=
  .ops [⟨.move .look (.p 0), (some 5), none⟩,
    ⟨.bin .add 1 true (.c (.int .i64 48)) (.p 5), (some 6), none⟩,
    ⟨.convInt .u8 (.p 6), (some 7), none⟩,
    ⟨.buildSl 5 1 [.int .u8 0] [(0, 1, .p 7)], (some 8), none⟩,
    ⟨.convBS (.t 8), (some 9), none⟩,
    ⟨.assign (.p 9), (some 2), none⟩] .ret
@[simp] theorem xk53_1 : GoC fns Q s k53_1 st ↔ GoO fns Q s [⟨.move .look (.p 0), (some 5), none⟩,
    ⟨.bin .add 1 true (.c (.int .i64 48)) (.p 5), (some 6), none⟩,
    ⟨.convInt .u8 (.p 6), (some 7), none⟩,
    ⟨.buildSl 5 1 [.int .u8 0] [(0, 1, .p 7)], (some 8), none⟩,
    ⟨.convBS (.t 8), (some 9), none⟩,
    ⟨.assign (.p 9), (some 2), none⟩] .ret st := goC_ops
def k53_2 : ACode :=
  .cond (.p 4) k53_1 .skip
@[simp] theorem xk53_2 : GoC fns Q s k53_2 st ↔ GB fns Q s (peek st (.p 4)) k53_1 .skip st := goC_cond
def k53_3 : ACode :=
  .seq k53_2 k53_0
@[simp] theorem xk53_3 : GoC fns Q s k53_3 st ↔ GoC fns Q (.sq k53_0 :: s) k53_2 st := goC_seq
def k53_4 : ACode :=
  .ops [⟨.move .look (.p 0), (some 3), none⟩,
    ⟨.bin .lss 1 true (.p 3) (.c (.int .i64 10)), (some 4), none⟩] k53_3
@[simp] theorem xk53_4 : GoC fns Q s k53_4 st ↔ GoO fns Q s [⟨.move .look (.p 0), (some 3), none⟩,
    ⟨.bin .lss 1 true (.p 3) (.c (.int .i64 10)), (some 4), none⟩] k53_3 st := goC_ops
def k53_5 : ACode :=
  .ops [⟨.assign (.c (.str [])), (some 2), none⟩] k53_4
@[simp] theorem xk53_5 : GoC fns Q s k53_5 st ↔ GoO fns Q s [⟨.assign (.c (.str [])), (some 2), none⟩] k53_4 st := goC_ops
def af53 : AFunc := ⟨20, k53_5, [.tmp 2]⟩

theorem ok53 : ∃ hs, pFunc Try.prog sg hs Try.f53 = some af53 := ⟨fun i => 0, by kernel_rfl⟩
/-- No. 46 -/
def rg46_4 : List AOper :=
  [⟨.fieldAddr 1 (.p 5), (some 18), none⟩,
    ⟨.load .head false 1 (.p 18), (some 19), none⟩,
    ⟨.bin .neq 2 true (.p 19) (.c (.str [])), (some 20), none⟩,
    ⟨.move .look (.p 20), (some 21), none⟩,
    ⟨.fieldAddr 2 (.p 5), (some 22), (some (21, false))⟩,
    ⟨.load .head false 1 (.p 22), (some 23), (some (21, false))⟩,
    ⟨.bin .neq 2 true (.p 23) (.c (.str [])), (some 24), (some (21, false))⟩,
    ⟨.pick (.p 21) (.c (.bool true)) (.p 24), (some 25), none⟩,
    ⟨.move .look (.p 25), (some 26), none⟩,
    ⟨.fieldAddr 3 (.p 5), (some 27), (some (26, false))⟩,
    ⟨.load .head false 1 (.p 27), (some 28), (some (26, false))⟩,
    ⟨.bin .neq 1 true (.p 28) (.c (.int .i64 0)), (some 29), (some (26, false))⟩,
    ⟨.pick (.p 26) (.c (.bool true)) (.p 29), (some 30), none⟩,
    ⟨.move .look (.p 30), (some 31), none⟩,
    ⟨.fieldAddr 4 (.p 5), (some 32), (some (31, false))⟩,
    ⟨.load .head false 1 (.p 32), (some 33), (some (31, false))⟩,
    ⟨.bin .neq 1 true (.p 33) (.c (.int .u64 0)), (some 34), (some (31, false))⟩,
    ⟨.pick (.p 31) (.c (.bool true)) (.p 34), (some 35), none⟩,
    ⟨.move .look (.p 35), (some 36), none⟩,
    ⟨.fieldAddr 5 (.p 5), (some 37), (some (36, false))⟩,
    ⟨.load .head false 1 (.p 37), (some 38), (some (36, false))⟩,
    ⟨.bin .neq 1 true (.p 38) (.c (.int .u64 0)), (some 39), (some (36, false))⟩,
    ⟨.pick (.p 36) (.c (.bool true)) (.p 39), (some 40), none⟩,
    ⟨.move .look (.p 40), (some 41), none⟩,
    ⟨.fieldAddr 6 (.p 5), (some 42), (some (41, false))⟩,
    ⟨.load .head false 1 (.p 42), (some 43), (some (41, false))⟩,
    ⟨.len false (.p 43), (some 44), (some (41, false))⟩,
    ⟨.bin .neq 1 true (.p 44) (.c (.int .i64 0)), (some 45), (some (41, false))⟩,
    ⟨.pick (.p 41) (.c (.bool true)) (.p 45), (some 46), none⟩,
    ⟨.move .look (.p 46), (some 47), none⟩,
    ⟨.fieldAddr 7 (.p 5), (some 48), (some (47, false))⟩,
    ⟨.load .head false 1 (.p 48), (some 49), (some (47, false))⟩,
    ⟨.len false (.p 49), (some 50), (some (47, false))⟩,
    ⟨.bin .neq 1 true (.p 50) (.c (.int .i64 0)), (some 51), (some (47, false))⟩,
    ⟨.pick (.p 47) (.c (.bool true)) (.p 51), (some 52), none⟩]
theorem org46_4 : GoO fns Q s rg46_4 c st ↔ GoO fns Q s [⟨.fieldAddr 1 (.p 5), (some 18), none⟩,
    ⟨.load .head false 1 (.p 18), (some 19), none⟩,
    ⟨.bin .neq 2 true (.p 19) (.c (.str [])), (some 20), none⟩,
    ⟨.move .look (.p 20), (some 21), none⟩,
    ⟨.fieldAddr 2 (.p 5), (some 22), (some (21, false))⟩,
    ⟨.load .head false 1 (.p 22), (some 23), (some (21, false))⟩,
    ⟨.bin .neq 2 true (.p 23) (.c (.str [])), (some 24), (some (21, false))⟩,
    ⟨.pick (.p 21) (.c (.bool true)) (.p 24), (some 25), none⟩,
    ⟨.move .look (.p 25), (some 26), none⟩,
    ⟨.fieldAddr 3 (.p 5), (some 27), (some (26, false))⟩,
    ⟨.load .head false 1 (.p 27), (some 28), (some (26, false))⟩,
    ⟨.bin .neq 1 true (.p 28) (.c (.int .i64 0)), (some 29), (some (26, false))⟩,
    ⟨.pick (.p 26) (.c (.bool true)) (.p 29), (some 30), none⟩,
    ⟨.move .look (.p 30), (some 31), none⟩,
    ⟨.fieldAddr 4 (.p 5), (some 32), (some (31, false))⟩,
    ⟨.load .head false 1 (.p 32), (some 33), (some (31, false))⟩,
    ⟨.bin .neq 1 true (.p 33) (.c (.int .u64 0)), (some 34), (some (31, false))⟩,
    ⟨.pick (.p 31) (.c (.bool true)) (.p 34), (some 35), none⟩,
    ⟨.move .look (.p 35), (some 36), none⟩,
    ⟨.fieldAddr 5 (.p 5), (some 37), (some (36, false))⟩,
    ⟨.load .head false 1 (.p 37), (some 38), (some (36, false))⟩,
    ⟨.bin .neq 1 true (.p 38) (.c (.int .u64 0)), (some 39), (some (36, false))⟩,
    ⟨.pick (.p 36) (.c (.bool true)) (.p 39), (some 40), none⟩,
    ⟨.move .look (.p 40), (some 41), none⟩,
    ⟨.fieldAddr 6 (.p 5), (some 42), (some (41, false))⟩,
    ⟨.load .head false 1 (.p 42), (some 43), (some (41, false))⟩,
    ⟨.len false (.p 43), (some 44), (some (41, false))⟩,
    ⟨.bin .neq 1 true (.p 44) (.c (.int .i64 0)), (some 45), (some (41, false))⟩,
    ⟨.pick (.p 41) (.c (.bool true)) (.p 45), (some 46), none⟩,
    ⟨.move .look (.p 46), (some 47), none⟩,
    ⟨.fieldAddr 7 (.p 5), (some 48), (some (47, false))⟩,
    ⟨.load .head false 1 (.p 48), (some 49), (some (47, false))⟩,
    ⟨.len false (.p 49), (some 50), (some (47, false))⟩,
    ⟨.bin .neq 1 true (.p 50) (.c (.int .i64 0)), (some 51), (some (47, false))⟩,
    ⟨.pick (.p 47) (.c (.bool true)) (.p 51), (some 52), none⟩] c st := Iff.rfl
def k46_0 : ACode :=
  .ops [⟨.assign (.c (.bool true)), (some 4), none⟩] .ret
@[simp] theorem xk46_0 : GoC fns Q s k46_0 st ↔ GoO fns Q s [⟨.assign (.c (.bool true)), (some 4), none⟩] .ret st := goC_ops
def k46_1 : ACode :=
  .ops [⟨.move .look (.p 6), (some 107), none⟩,
    ⟨.bin .add 1 true (.p 107) (.c (.int .i64 1)), (some 108), none⟩,
    ⟨.assign (.p 108), (some 6), none⟩] .skip
@[simp] theorem xk46_1 : GoC fns Q s k46_1 st ↔ GoO fns Q s [⟨.move .look (.p 6), (some 107), none⟩,
    ⟨.bin .add 1 true (.p 107) (.c (.int .i64 1)), (some 108), none⟩,
    ⟨.assign (.p 108), (some 6), none⟩] .skip st := goC_ops
def k46_2 : ACode :=
  .ops [⟨.assign (.c (.bool false)), (some 4), none⟩] .ret
@[simp] theorem xk46_2 : GoC fns Q s k46_2 st ↔ GoO fns Q s [⟨.assign (.c (.bool false)), (some 4), none⟩] .ret st := goC_ops
def k46_3 : ACode :=
  .cond (.p 137) k46_2 .skip
@[simp] theorem xk46_3 : GoC fns Q s k46_3 st ↔ GB fns Q s (peek st (.p 137)) k46_2 .skip st := goC_cond
def k46_4 : ACode :=
  .ops [⟨.fieldAddr 0 (.p 7), (some 114), none⟩,
    ⟨.load .look false 1 (.p 114), (some 115), none⟩,
    ⟨.call 21 [(.p 115, false)], (some 116), none⟩,
    ⟨.un .not (.p 116), (some 117), none⟩,
    ⟨.move .look (.p 117), (some 118), none⟩,
    ⟨.fieldAddr 0 (.p 2), (some 119), (some (118, false))⟩,
    ⟨.load .head false 1 (.p 119), (some 120), (some (118, false))⟩,
    ⟨.bin .eql 1 true (.p 120) (.c (.int .i64 4)), (some 121), (some (118, false))⟩,
    ⟨.move .look (.p 121), (some 122), (some (118, false))⟩,
    ⟨.fieldAddr 0 (.p 7), (some 123), (some (122, true))⟩,
    ⟨.load .head false 1 (.p 123), (some 124), (some (122, true))⟩,
    ⟨.move .look (.p 6), (some 125), (some (122, true))⟩,
    ⟨.call 53 [(.p 125, false)], (some 126), (some (122, true))⟩,
    ⟨.bin .neq 2 false (.p 124) (.p 126), (some 127), (some (122, true))⟩,
    ⟨.pick (.p 122) (.p 127) (.c (.bool false)), (some 128), (some (118, false))⟩,
    ⟨.pick (.p 118) (.c (.bool true)) (.p 128), (some 129), none⟩,
    ⟨.move .look (.p 129), (some 130), none⟩,
    ⟨.fieldAddr 1 (.p 7), (some 131), (some (130, false))⟩,
    ⟨.load .look true 8 (.p 131), (some 132), (some (130, false))⟩,
    ⟨.move .look (.p 1), (some 133), (some (130, false))⟩,
    ⟨.bin .sub 1 true (.p 133) (.c (.int .i64 1)), (some 134), (some (130, false))⟩,
    ⟨.call 46 [(.p 132, false), (.p 134, false)], (some 135), (some (130, false))⟩,
    ⟨.un .not (.p 135), (some 136), (some (130, false))⟩,
    ⟨.pick (.p 130) (.c (.bool true)) (.p 136), (some 137), none⟩] k46_3
@[simp] theorem xk46_4 : GoC fns Q s k46_4 st ↔ GoO fns Q s [⟨.fieldAddr 0 (.p 7), (some 114), none⟩,
    ⟨.load .look false 1 (.p 114), (some 115), none⟩,
    ⟨.call 21 [(.p 115, false)], (some 116), none⟩,
    ⟨.un .not (.p 116), (some 117), none⟩,
    ⟨.move .look (.p 117), (some 118), none⟩,
    ⟨.fieldAddr 0 (.p 2), (some 119), (some (118, false))⟩,
    ⟨.load .head false 1 (.p 119), (some 120), (some (118, false))⟩,
    ⟨.bin .eql 1 true (.p 120) (.c (.int .i64 4)), (some 121), (some (118, false))⟩,
    ⟨.move .look (.p 121), (some 122), (some (118, false))⟩,
    ⟨.fieldAddr 0 (.p 7), (some 123), (some (122, true))⟩,
    ⟨.load .head false 1 (.p 123), (some 124), (some (122, true))⟩,
    ⟨.move .look (.p 6), (some 125), (some (122, true))⟩,
    ⟨.call 53 [(.p 125, false)], (some 126), (some (122, true))⟩,
    ⟨.bin .neq 2 false (.p 124) (.p 126), (some 127), (some (122, true))⟩,
    ⟨.pick (.p 122) (.p 127) (.c (.bool false)), (some 128), (some (118, false))⟩,
    ⟨.pick (.p 118) (.c (.bool true)) (.p 128), (some 129), none⟩,
    ⟨.move .look (.p 129), (some 130), none⟩,
    ⟨.fieldAddr 1 (.p 7), (some 131), (some (130, false))⟩,
    ⟨.load .look true 8 (.p 131), (some 132), (some (130, false))⟩,
    ⟨.move .look (.p 1), (some 133), (some (130, false))⟩,
    ⟨.bin .sub 1 true (.p 133) (.c (.int .i64 1)), (some 134), (some (130, false))⟩,
    ⟨.call 46 [(.p 132, false), (.p 134, false)], (some 135), (some (130, false))⟩,
    ⟨.un .not (.p 135), (some 136), (some (130, false))⟩,
    ⟨.pick (.p 130) (.c (.bool true)) (.p 136), (some 137), none⟩] k46_3 st := goC_ops
def k46_5 : ACode :=
  .ops [⟨.fieldAddr 7 (.p 2), (some 109), none⟩,
    ⟨.load .look false 1 (.p 109), (some 110), none⟩,
    ⟨.move .look (.p 6), (some 111), none⟩,
    ⟨.indexAddr 9 (.t 110) (.p 111), (some 112), none⟩,
    ⟨.load .take true 9 (.p 112), (some 113), none⟩,
    ⟨.newbox 7 [.str [], .int .i64 0, .str [], .str [], .int .i64 0, .int .u64 0, .int .u64 0, .slice .nil 0 1 [], .slice .nil 0 1 []], (some 7), none⟩,
    ⟨.store 9 (.p 7) (.p 113), none, none⟩] k46_4
@[simp] theorem xk46_5 : GoC fns Q s k46_5 st ↔ GoO fns Q s [⟨.fieldAddr 7 (.p 2), (some 109), none⟩,
    ⟨.load .look false 1 (.p 109), (some 110), none⟩,
    ⟨.move .look (.p 6), (some 111), none⟩,
    ⟨.indexAddr 9 (.t 110) (.p 111), (some 112), none⟩,
    ⟨.load .take true 9 (.p 112), (some 113), none⟩,
    ⟨.newbox 7 [.str [], .int .i64 0, .str [], .str [], .int .i64 0, .int .u64 0, .int .u64 0, .slice .nil 0 1 [], .slice .nil 0 1 []], (some 7), none⟩,
    ⟨.store 9 (.p 7) (.p 113), none, none⟩] k46_4 st := goC_ops
def k46_6 : ACode :=
  .block 2 k46_5
@[simp] theorem xk46_6 : GoC fns Q s k46_6 st ↔ GoC fns Q (.bl 2 :: s) k46_5 st := goC_block
def k46_7 : ACode :=
  .seq k46_6 k46_1
@[simp] theorem xk46_7 : GoC fns Q s k46_7 st ↔ GoC fns Q (.sq k46_1 :: s) k46_6 st := goC_seq
def k46_8 : ACode :=
  .cond (.p 106) .skip (.exit 1)
@[simp] theorem xk46_8 : GoC fns Q s k46_8 st ↔ GB fns Q s (peek st (.p 106)) .skip (.exit 1) st := goC_cond
def k46_9 : ACode :=
  .seq k46_8 k46_7
@[simp] theorem xk46_9 : GoC fns Q s k46_9 st ↔ GoC fns Q (.sq k46_7 :: s) k46_8 st := goC_seq
def k46_10 : ACode :=
  .ops [⟨.move .look (.p 6), (some 102), none⟩,
    ⟨.fieldAddr 7 (.p 2), (some 103), none⟩,
    ⟨.load .head false 1 (.p 103), (some 104), none⟩,
    ⟨.len false (.p 104), (some 105), none⟩,
    ⟨.bin .lss 1 false (.p 102) (.p 105), (some 106), none⟩] k46_9
@[simp] theorem xk46_10 : GoC fns Q s k46_10 st ↔ GoO fns Q s [⟨.move .look (.p 6), (some 102), none⟩,
    ⟨.fieldAddr 7 (.p 2), (some 103), none⟩,
    ⟨.load .head false 1 (.p 103), (some 104), none⟩,
    ⟨.len false (.p 104), (some 105), none⟩,
    ⟨.bin .lss 1 false (.p 102) (.p 105), (some 106), none⟩] k46_9 st := goC_ops
def lc46_0 : ACode :=
  k46_10
@[simp] theorem xlc46_0 : GoC fns Q s lc46_0 st ↔ GoC fns Q s k46_10 st := Iff.rfl
def k46_12 : ACode :=
  .loop lc46_0
@[simp] theorem xk46_12 : GoC fns Q s k46_12 st ↔ (Run (loopω fns lc46_0 st) fun r => GoE fns Q s r.1 r.2) := goC_loop
def k46_13 : ACode :=
  .block 1 k46_12
@[simp] theorem xk46_13 : GoC fns Q s k46_13 st ↔ GoC fns Q (.bl 1 :: s) k46_12 st := goC_block
def k46_14 : ACode :=
  .seq k46_13 k46_0
@[simp] theorem xk46_14 : GoC fns Q s k46_14 st ↔ GoC fns Q (.sq k46_0 :: s) k46_13 st := goC_seq
def k46_15 : ACode :=
  .ops [⟨.assign (.c (.int .i64 0)), (some 6), none⟩] k46_14
@[simp] theorem xk46_15 : GoC fns Q s k46_15 st ↔ GoO fns Q s [⟨.assign (.c (.int .i64 0)), (some 6), none⟩] k46_14 st := goC_ops
def k46_16 : ACode :=
  .ops [⟨.fieldAddr 3 (.p 2), (some 57), none⟩,
    ⟨.load .look false 1 (.p 57), (some 58), none⟩,
    ⟨.bin .geq 1 true (.p 58) (.c (.int .i64 0)), (some 59), none⟩,
    ⟨.move .look (.p 59), (some 60), none⟩,
    ⟨.fieldAddr 3 (.p 2), (some 61), (some (60, true))⟩,
    ⟨.load .look false 1 (.p 61), (some 62), (some (60, true))⟩,
    ⟨.bin .leq 1 true (.p 62) (.c (.int .i64 255)), (some 63), (some (60, true))⟩,
    ⟨.pick (.p 60) (.p 63) (.c (.bool false)), (some 64), none⟩,
    ⟨.assign (.p 64), (some 4), none⟩] .ret
@[simp] theorem xk46_16 : GoC fns Q s k46_16 st ↔ GoO fns Q s [⟨.fieldAddr 3 (.p 2), (some 57), none⟩,
    ⟨.load .look false 1 (.p 57), (some 58), none⟩,
    ⟨.bin .geq 1 true (.p 58) (.c (.int .i64 0)), (some 59), none⟩,
    ⟨.move .look (.p 59), (some 60), none⟩,
    ⟨.fieldAddr 3 (.p 2), (some 61), (some (60, true))⟩,
    ⟨.load .look false 1 (.p 61), (some 62), (some (60, true))⟩,
    ⟨.bin .leq 1 true (.p 62) (.c (.int .i64 255)), (some 63), (some (60, true))⟩,
    ⟨.pick (.p 60) (.p 63) (.c (.bool false)), (some 64), none⟩,
    ⟨.assign (.p 64), (some 4), none⟩] .ret st := goC_ops
def k46_17 : ACode :=
  .ops [⟨.fieldAddr 6 (.p 2), (some 68), none⟩,
    ⟨.load .head false 1 (.p 68), (some 69), none⟩,
    ⟨.len false (.p 69), (some 70), none⟩,
    ⟨.bin .eql 1 true (.p 70) (.c (.int .i64 12)), (some 71), none⟩,
    ⟨.assign (.p 71), (some 4), none⟩] .ret
@[simp] theorem xk46_17 : GoC fns Q s k46_17 st ↔ GoO fns Q s [⟨.fieldAddr 6 (.p 2), (some 68), none⟩,
    ⟨.load .head false 1 (.p 68), (some 69), none⟩,
    ⟨.len false (.p 69), (some 70), none⟩,
    ⟨.bin .eql 1 true (.p 70) (.c (.int .i64 12)), (some 71), none⟩,
    ⟨.assign (.p 71), (some 4), none⟩] .ret st := goC_ops
def k46_18 : ACode :=
  .ops [⟨.fieldAddr 3 (.p 2), (some 74), none⟩,
    ⟨.load .head false 1 (.p 74), (some 75), none⟩,
    ⟨.bin .eql 1 true (.p 75) (.c (.int .i64 0)), (some 76), none⟩,
    ⟨.move .look (.p 76), (some 77), none⟩,
    ⟨.fieldAddr 3 (.p 2), (some 78), (some (77, false))⟩,
    ⟨.load .head false 1 (.p 78), (some 79), (some (77, false))⟩,
    ⟨.bin .eql 1 true (.p 79) (.c (.int .i64 1)), (some 80), (some (77, false))⟩,
    ⟨.pick (.p 77) (.c (.bool true)) (.p 80), (some 81), none⟩,
    ⟨.assign (.p 81), (some 4), none⟩] .ret
@[simp] theorem xk46_18 : GoC fns Q s k46_18 st ↔ GoO fns Q s [⟨.fieldAddr 3 (.p 2), (some 74), none⟩,
    ⟨.load .head false 1 (.p 74), (some 75), none⟩,
    ⟨.bin .eql 1 true (.p 75) (.c (.int .i64 0)), (some 76), none⟩,
    ⟨.move .look (.p 76), (some 77), none⟩,
    ⟨.fieldAddr 3 (.p 2), (some 78), (some (77, false))⟩,
    ⟨.load .head false 1 (.p 78), (some 79), (some (77, false))⟩,
    ⟨.bin .eql 1 true (.p 79) (.c (.int .i64 1)), (some 80), (some (77, false))⟩,
    ⟨.pick (.p 77) (.c (.bool true)) (.p 80), (some 81), none⟩,
    ⟨.assign (.p 81), (some 4), none⟩] .ret st := goC_ops
def k46_19 : ACode :=
  .ops [⟨.fieldAddr 3 (.p 2), (some 84), none⟩,
    ⟨.load .look false 1 (.p 84), (some 85), none⟩,
    ⟨.bin .geq 1 true (.p 85) (.c (.int .i64 (-2147483648))), (some 86), none⟩,
    ⟨.move .look (.p 86), (some 87), none⟩,
    ⟨.fieldAddr 3 (.p 2), (some 88), (some (87, true))⟩,
    ⟨.load .look false 1 (.p 88), (some 89), (some (87, true))⟩,
    ⟨.bin .lss 1 true (.p 89) (.c (.int .i64 2147483648)), (some 90), (some (87, true))⟩,
    ⟨.pick (.p 87) (.p 90) (.c (.bool false)), (some 91), none⟩,
    ⟨.assign (.p 91), (some 4), none⟩] .ret
@[simp] theorem xk46_19 : GoC fns Q s k46_19 st ↔ GoO fns Q s [⟨.fieldAddr 3 (.p 2), (some 84), none⟩,
    ⟨.load .look false 1 (.p 84), (some 85), none⟩,
    ⟨.bin .geq 1 true (.p 85) (.c (.int .i64 (-2147483648))), (some 86), none⟩,
    ⟨.move .look (.p 86), (some 87), none⟩,
    ⟨.fieldAddr 3 (.p 2), (some 88), (some (87, true))⟩,
    ⟨.load .look false 1 (.p 88), (some 89), (some (87, true))⟩,
    ⟨.bin .lss 1 true (.p 89) (.c (.int .i64 2147483648)), (some 90), (some (87, true))⟩,
    ⟨.pick (.p 87) (.p 90) (.c (.bool false)), (some 91), none⟩,
    ⟨.assign (.p 91), (some 4), none⟩] .ret st := goC_ops
def k46_20 : ACode :=
  .ops [⟨.fieldAddr 1 (.p 2), (some 94), none⟩,
    ⟨.load .look false 1 (.p 94), (some 95), none⟩,
    ⟨.call 21 [(.p 95, false)], (some 96), none⟩,
    ⟨.move .look (.p 96), (some 97), none⟩,
    ⟨.fieldAddr 2 (.p 2), (some 98), (some (97, true))⟩,
    ⟨.load .look false 1 (.p 98), (some 99), (some (97, true))⟩,
    ⟨.call 21 [(.p 99, false)], (some 100), (some (97, true))⟩,
    ⟨.pick (.p 97) (.p 100) (.c (.bool false)), (some 101), none⟩,
    ⟨.assign (.p 101), (some 4), none⟩] .ret
@[simp] theorem xk46_20 : GoC fns Q s k46_20 st ↔ GoO fns Q s [⟨.fieldAddr 1 (.p 2), (some 94), none⟩,
    ⟨.load .look false 1 (.p 94), (some 95), none⟩,
    ⟨.call 21 [(.p 95, false)], (some 96), none⟩,
    ⟨.move .look (.p 96), (some 97), none⟩,
    ⟨.fieldAddr 2 (.p 2), (some 98), (some (97, true))⟩,
    ⟨.load .look false 1 (.p 98), (some 99), (some (97, true))⟩,
    ⟨.call 21 [(.p 99, false)], (some 100), (some (97, true))⟩,
    ⟨.pick (.p 97) (.p 100) (.c (.bool false)), (some 101), none⟩,
    ⟨.assign (.p 101), (some 4), none⟩] .ret st := goC_ops
def k46_21 : ACode :=
  .cond (.p 92) k46_20 .skip
@[simp] theorem xk46_21 : GoC fns Q s k46_21 st ↔ GB fns Q s (peek st (.p 92)) k46_20 .skip st := goC_cond
def k46_22 : ACode :=
  .ops [⟨.bin .eql 1 true (.p 54) (.c (.int .i64 11)), (some 93), none⟩,
    ⟨.assign (.p 93), (some 92), none⟩] k46_21
@[simp] theorem xk46_22 : GoC fns Q s k46_22 st ↔ GoO fns Q s [⟨.bin .eql 1 true (.p 54) (.c (.int .i64 11)), (some 93), none⟩,
    ⟨.assign (.p 93), (some 92), none⟩] k46_21 st := goC_ops
def k46_23 : ACode :=
  .cond (.p 82) k46_19 k46_22
@[simp] theorem xk46_23 : GoC fns Q s k46_23 st ↔ GB fns Q s (peek st (.p 82)) k46_19 k46_22 st := goC_cond
def k46_24 : ACode :=
  .ops [⟨.bin .eql 1 true (.p 54) (.c (.int .i64 16)), (some 83), none⟩,
    ⟨.assign (.p 83), (some 82), none⟩] k46_23
@[simp] theorem xk46_24 : GoC fns Q s k46_24 st ↔ GoO fns Q s [⟨.bin .eql 1 true (.p 54) (.c (.int .i64 16)), (some 83), none⟩,
    ⟨.assign (.p 83), (some 82), none⟩] k46_23 st := goC_ops
def k46_25 : ACode :=
  .cond (.p 72) k46_18 k46_24
@[simp] theorem xk46_25 : GoC fns Q s k46_25 st ↔ GB fns Q s (peek st (.p 72)) k46_18 k46_24 st := goC_cond
def k46_26 : ACode :=
  .ops [⟨.bin .eql 1 true (.p 54) (.c (.int .i64 8)), (some 73), none⟩,
    ⟨.assign (.p 73), (some 72), none⟩] k46_25
@[simp] theorem xk46_26 : GoC fns Q s k46_26 st ↔ GoO fns Q s [⟨.bin .eql 1 true (.p 54) (.c (.int .i64 8)), (some 73), none⟩,
    ⟨.assign (.p 73), (some 72), none⟩] k46_25 st := goC_ops
def k46_27 : ACode :=
  .cond (.p 65) k46_17 k46_26
@[simp] theorem xk46_27 : GoC fns Q s k46_27 st ↔ GB fns Q s (peek st (.p 65)) k46_17 k46_26 st := goC_cond
def k46_28 : ACode :=
  .ops [⟨.bin .eql 1 true (.p 54) (.c (.int .i64 12)), (some 67), none⟩,
    ⟨.assign (.p 67), (some 65), none⟩] .skip
@[simp] theorem xk46_28 : GoC fns Q s k46_28 st ↔ GoO fns Q s [⟨.bin .eql 1 true (.p 54) (.c (.int .i64 12)), (some 67), none⟩,
    ⟨.assign (.p 67), (some 65), none⟩] .skip st := goC_ops
def k46_29 : ACode :=
  .cond (.p 65) .skip k46_28
@[simp] theorem xk46_29 : GoC fns Q s k46_29 st ↔ GB fns Q s (peek st (.p 65)) .skip k46_28 st := goC_cond
def k46_30 : ACode :=
  .seq k46_29 k46_27
@[simp] theorem xk46_30 : GoC fns Q s k46_30 st ↔ GoC fns Q (.sq k46_27 :: s) k46_29 st := goC_seq
def k46_31 : ACode :=
  .ops [⟨.bin .eql 1 true (.p 54) (.c (.int .i64 7)), (some 66), none⟩,
    ⟨.assign (.p 66), (some 65), none⟩] k46_30
@[simp] theorem xk46_31 : GoC fns Q s k46_31 st ↔ GoO fns Q s [⟨.bin .eql 1 true (.p 54) (.c (.int .i64 7)), (some 66), none⟩,
    ⟨.assign (.p 66), (some 65), none⟩] k46_30 st := goC_ops
def k46_32 : ACode :=
  .cond (.p 55) k46_16 k46_31
@[simp] theorem xk46_32 : GoC fns Q s k46_32 st ↔ GB fns Q s (peek st (.p 55)) k46_16 k46_31 st := goC_cond
def k46_33 : ACode :=
  .ops [⟨.bin .eql 1 true (.p 54) (.c (.int .i64 5)), (some 56), none⟩,
    ⟨.assign (.p 56), (some 55), none⟩] k46_32
@[simp] theorem xk46_33 : GoC fns Q s k46_33 st ↔ GoO fns Q s [⟨.bin .eql 1 true (.p 54) (.c (.int .i64 5)), (some 56), none⟩,
    ⟨.assign (.p 56), (some 55), none⟩] k46_32 st := goC_ops
def k46_34 : ACode :=
  .block 0 k46_33
@[simp] theorem xk46_34 : GoC fns Q s k46_34 st ↔ GoC fns Q (.bl 0 :: s) k46_33 st := goC_block
def k46_35 : ACode :=
  .seq k46_34 k46_15
@[simp] theorem xk46_35 : GoC fns Q s k46_35 st ↔ GoC fns Q (.sq k46_15 :: s) k46_34 st := goC_seq
def k46_36 : ACode :=
  .ops [⟨.fieldAddr 0 (.p 2), (some 53), none⟩,
    ⟨.load .head false 1 (.p 53), (some 54), none⟩] k46_35
@[simp] theorem xk46_36 : GoC fns Q s k46_36 st ↔ GoO fns Q s [⟨.fieldAddr 0 (.p 2), (some 53), none⟩,
    ⟨.load .head false 1 (.p 53), (some 54), none⟩] k46_35 st := goC_ops
def k46_37 : ACode :=
  .ops [⟨.assign (.c (.bool false)), (some 4), none⟩] .ret
@[simp] theorem xk46_37 : GoC fns Q s k46_37 st ↔ GoO fns Q s [⟨.assign (.c (.bool false)), (some 4), none⟩] .ret st := goC_ops
def k46_38 : ACode :=
  .cond (.p 52) k46_37 .skip
@[simp] theorem xk46_38 : GoC fns Q s k46_38 st ↔ GB fns Q s (peek st (.p 52)) k46_37 .skip st := goC_cond
def k46_39 : ACode :=
  .seq k46_38 k46_36
@[simp] theorem xk46_39 : GoC fns Q s k46_39 st ↔ GoC fns Q (.sq k46_36 :: s) k46_38 st := goC_seq
def k46_40 : ACode :=
  .ops rg46_4 k46_39
@[simp] theorem xk46_40 : GoC fns Q s k46_40 st ↔ GoO fns Q s rg46_4 k46_39 st := goC_ops
def k46_41 : ACode :=
  .ops [⟨.load .look true 8 (.p 2), (some 16), none⟩,
    ⟨.call 52 [(.p 16, false)], (some 17), none⟩,
    ⟨.newbox 5 [.int .i64 0, .str [], .str [], .int .i64 0, .int .u64 0, .int .u64 0, .slice .nil 0 1 [], .slice .nil 0 1 []], (some 5), none⟩,
    ⟨.store 8 (.p 5) (.p 17), none, none⟩] k46_40
@[simp] theorem xk46_41 : GoC fns Q s k46_41 st ↔ GoO fns Q s [⟨.load .look true 8 (.p 2), (some 16), none⟩,
    ⟨.call 52 [(.p 16, false)], (some 17), none⟩,
    ⟨.newbox 5 [.int .i64 0, .str [], .str [], .int .i64 0, .int .u64 0, .int .u64 0, .slice .nil 0 1 [], .slice .nil 0 1 []], (some 5), none⟩,
    ⟨.store 8 (.p 5) (.p 17), none, none⟩] k46_40 st := goC_ops
def k46_42 : ACode :=
  .ops [⟨.assign (.c (.bool false)), (some 4), none⟩] .ret
@[simp] theorem xk46_42 : GoC fns Q s k46_42 st ↔ GoO fns Q s [⟨.assign (.c (.bool false)), (some 4), none⟩] .ret st := goC_ops
def k46_43 : ACode :=
  .cond (.p 15) k46_42 .skip
@[simp] theorem xk46_43 : GoC fns Q s k46_43 st ↔ GB fns Q s (peek st (.p 15)) k46_42 .skip st := goC_cond
def k46_44 : ACode :=
  .seq k46_43 k46_41
@[simp] theorem xk46_44 : GoC fns Q s k46_44 st ↔ GoC fns Q (.sq k46_41 :: s) k46_43 st := goC_seq
def k46_45 : ACode :=
  .ops [⟨.fieldAddr 0 (.p 2), (some 8), none⟩,
    ⟨.load .look false 1 (.p 8), (some 9), none⟩,
    ⟨.call 20 [(.p 9, false)], (some 10), none⟩,
    ⟨.un .not (.p 10), (some 11), none⟩,
    ⟨.move .look (.p 11), (some 12), none⟩,
    ⟨.move .head (.p 1), (some 13), (some (12, false))⟩,
    ⟨.bin .eql 1 true (.p 13) (.c (.int .i64 0)), (some 14), (some (12, false))⟩,
    ⟨.pick (.p 12) (.c (.bool true)) (.p 14), (some 15), none⟩] k46_44
@[simp] theorem xk46_45 : GoC fns Q s k46_45 st ↔ GoO fns Q s [⟨.fieldAddr 0 (.p 2), (some 8), none⟩,
    ⟨.load .look false 1 (.p 8), (some 9), none⟩,
    ⟨.call 20 [(.p 9, false)], (some 10), none⟩,
    ⟨.un .not (.p 10), (some 11), none⟩,
    ⟨.move .look (.p 11), (some 12), none⟩,
    ⟨.move .head (.p 1), (some 13), (some (12, false))⟩,
    ⟨.bin .eql 1 true (.p 13) (.c (.int .i64 0)), (some 14), (some (12, false))⟩,
    ⟨.pick (.p 12) (.c (.bool true)) (.p 14), (some 15), none⟩] k46_44 st := goC_ops
def k46_46 : ACode :=
  .ops [⟨.box 2 (.p 0), (some 2), none⟩,
    ⟨.assign (.c (.bool false)), (some 4), none⟩] k46_45
@[simp] theorem xk46_46 : GoC fns Q s k46_46 st ↔ GoO fns Q s [⟨.box 2 (.p 0), (some 2), none⟩,
    ⟨.assign (.c (.bool false)), (some 4), none⟩] k46_45 st := goC_ops
def af46 : AFunc := ⟨138, k46_46, [.tmp 4]⟩

theorem ok46 : ∃ hs, pFunc Try.prog sg hs Try.f46 = some af46 := ⟨fun i => 0, by kernel_rfl⟩
/-- No. 41 -/
def k41_0 : ACode :=
  .ops [⟨.load .look true 8 (.p 1), (some 3), none⟩,
    ⟨.call 46 [(.p 3, false), (.c (.int .i64 200), false)], (some 4), none⟩,
    ⟨.assign (.p 4), (some 2), none⟩] .ret
@[simp] theorem xk41_0 : GoC fns Q s k41_0 st ↔ GoO fns Q s [⟨.load .look true 8 (.p 1), (some 3), none⟩,
    ⟨.call 46 [(.p 3, false), (.c (.int .i64 200), false)], (some 4), none⟩,
    ⟨.assign (.p 4), (some 2), none⟩] .ret st := goC_ops
def k41_1 : ACode :=
  .ops [⟨.box 1 (.p 0), (some 1), none⟩,
    ⟨.assign (.c (.bool false)), (some 2), none⟩] k41_0
@[simp] theorem xk41_1 : GoC fns Q s k41_1 st ↔ GoO fns Q s [⟨.box 1 (.p 0), (some 1), none⟩,
    ⟨.assign (.c (.bool false)), (some 2), none⟩] k41_0 st := goC_ops
def af41 : AFunc := ⟨5, k41_1, [.tmp 2]⟩

theorem ok41 : ∃ hs, pFunc Try.prog sg hs Try.f41 = some af41 := ⟨fun i => 0, by kernel_rfl⟩
/-- No. 42 -/
def k42_0 : ACode :=
  .ops [⟨.move .take (.p 3), (some 40), none⟩,
    ⟨.assign (.p 40), (some 2), none⟩] .ret
@[simp] theorem xk42_0 : GoC fns Q s k42_0 st ↔ GoO fns Q s [⟨.move .take (.p 3), (some 40), none⟩,
    ⟨.assign (.p 40), (some 2), none⟩] .ret st := goC_ops
def k42_1 : ACode :=
  .ops [⟨.move .look (.p 4), (some 21), none⟩,
    ⟨.bin .add 1 true (.p 21) (.c (.int .i64 1)), (some 22), none⟩,
    ⟨.assign (.p 22), (some 4), none⟩] .skip
@[simp] theorem xk42_1 : GoC fns Q s k42_1 st ↔ GoO fns Q s [⟨.move .look (.p 4), (some 21), none⟩,
    ⟨.bin .add 1 true (.p 21) (.c (.int .i64 1)), (some 22), none⟩,
    ⟨.assign (.p 22), (some 4), none⟩] .skip st := goC_ops
def k42_2 : ACode :=
  .ops [⟨.move .look (.p 3), (some 23), none⟩,
    ⟨.fieldAddr 7 (.p 1), (some 24), none⟩,
    ⟨.load .look false 1 (.p 24), (some 25), none⟩,
    ⟨.move .look (.p 4), (some 26), none⟩,
    ⟨.indexAddr 9 (.t 25) (.p 26), (some 27), none⟩,
    ⟨.fieldAddr 0 (.p 27), (some 28), none⟩,
    ⟨.load .head false 1 (.p 28), (some 29), none⟩,
    ⟨.len true (.p 29), (some 30), none⟩,
    ⟨.bin .add 1 false (.p 23) (.p 30), (some 31), none⟩,
    ⟨.fieldAddr 7 (.p 1), (some 32), none⟩,
    ⟨.load .look false 1 (.p 32), (some 33), none⟩,
    ⟨.move .look (.p 4), (some 34), none⟩,
    ⟨.indexAddr 9 (.t 33) (.p 34), (some 35), none⟩,
    ⟨.fieldAddr 1 (.p 35), (some 36), none⟩,
    ⟨.load .look true 8 (.p 36), (some 37), none⟩,
    ⟨.call 42 [(.p 37, false)], (some 38), none⟩,
    ⟨.bin .add 1 false (.p 31) (.p 38), (some 39), none⟩,
    ⟨.assign (.p 39), (some 3), none⟩] .skip
@[simp] theorem xk42_2 : GoC fns Q s k42_2 st ↔ GoO fns Q s [⟨.move .look (.p 3), (some 23), none⟩,
    ⟨.fieldAddr 7 (.p 1), (some 24), none⟩,
    ⟨.load .look false 1 (.p 24), (some 25), none⟩,
    ⟨.move .look (.p 4), (some 26), none⟩,
    ⟨.indexAddr 9 (.t 25) (.p 26), (some 27), none⟩,
    ⟨.fieldAddr 0 (.p 27), (some 28), none⟩,
    ⟨.load .head false 1 (.p 28), (some 29), none⟩,
    ⟨.len true (.p 29), (some 30), none⟩,
    ⟨.bin .add 1 false (.p 23) (.p 30), (some 31), none⟩,
    ⟨.fieldAddr 7 (.p 1), (some 32), none⟩,
    ⟨.load .look false 1 (.p 32), (some 33), none⟩,
    ⟨.move .look (.p 4), (some 34), none⟩,
    ⟨.indexAddr 9 (.t 33) (.p 34), (some 35), none⟩,
    ⟨.fieldAddr 1 (.p 35), (some 36), none⟩,
    ⟨.load .look true 8 (.p 36), (some 37), none⟩,
    ⟨.call 42 [(.p 37, false)], (some 38), none⟩,
    ⟨.bin .add 1 false (.p 31) (.p 38), (some 39), none⟩,
    ⟨.assign (.p 39), (some 3), none⟩] .skip st := goC_ops
def k42_3 : ACode :=
  .block 1 k42_2
@[simp] theorem xk42_3 : GoC fns Q s k42_3 st ↔ GoC fns Q (.bl 1 :: s) k42_2 st := goC_block
def k42_4 : ACode :=
  .seq k42_3 k42_1
@[simp] theorem xk42_4 : GoC fns Q s k42_4 st ↔ GoC fns Q (.sq k42_1 :: s) k42_3 st := goC_seq
def k42_5 : ACode :=
  .cond (.p 20) .skip (.exit 0)
@[simp] theorem xk42_5 : GoC fns Q s k42_5 st ↔ GB fns Q s (peek st (.p 20)) .skip (.exit 0) st := goC_cond
def k42_6 : ACode :=
  .seq k42_5 k42_4
@[simp] theorem xk42_6 : GoC fns Q s k42_6 st ↔ GoC fns Q (.sq k42_4 :: s) k42_5 st := goC_seq
def k42_7 : ACode :=
  .ops [⟨.move .look (.p 4), (some 16), none⟩,
    ⟨.fieldAddr 7 (.p 1), (some 17), none⟩,
    ⟨.load .head false 1 (.p 17), (some 18), none⟩,
    ⟨.len false (.p 18), (some 19), none⟩,
    ⟨.bin .lss 1 false (.p 16) (.p 19), (some 20), none⟩] k42_6
@[simp] theorem xk42_7 : GoC fns Q s k42_7 st ↔ GoO fns Q s [⟨.move .look (.p 4), (some 16), none⟩,
    ⟨.fieldAddr 7 (.p 1), (some 17), none⟩,
    ⟨.load .head false 1 (.p 17), (some 18), none⟩,
    ⟨.len false (.p 18), (some 19), none⟩,
    ⟨.bin .lss 1 false (.p 16) (.p 19), (some 20), none⟩] k42_6 st := goC_ops
def lc42_0 : ACode :=
  k42_7
@[simp] theorem xlc42_0 : GoC fns Q s lc42_0 st ↔ GoC fns Q s k42_7 st := Iff.rfl
def k42_9 : ACode :=
  .loop lc42_0
@[simp] theorem xk42_9 : GoC fns Q s k42_9 st ↔ (Run (loopω fns lc42_0 st) fun r => GoE fns Q s r.1 r.2) := goC_loop
def k42_10 : ACode :=
  .block 0 k42_9
@[simp] theorem xk42_10 : GoC fns Q s k42_10 st ↔ GoC fns Q (.bl 0 :: s) k42_9 st := goC_block
def k42_11 : ACode :=
  .seq k42_10 k42_0
@[simp] theorem xk42_11 : GoC fns Q s k42_11 st ↔ GoC fns Q (.sq k42_0 :: s) k42_10 st := goC_seq
def k42_12 : ACode :=
  .ops [⟨.assign (.c (.int .i64 0)), (some 4), none⟩] k42_11
@[simp] theorem xk42_12 : GoC fns Q s k42_12 st ↔ GoO fns Q s [⟨.assign (.c (.int .i64 0)), (some 4), none⟩] k42_11 st := goC_ops
def k42_13 : ACode :=
  .ops [⟨.fieldAddr 1 (.p 1), (some 5), none⟩,
    ⟨.load .head false 1 (.p 5), (some 6), none⟩,
    ⟨.len true (.p 6), (some 7), none⟩,
    ⟨.fieldAddr 2 (.p 1), (some 8), none⟩,
    ⟨.load .head false 1 (.p 8), (some 9), none⟩,
    ⟨.len true (.p 9), (some 10), none⟩,
    ⟨.bin .add 1 false (.p 7) (.p 10), (some 11), none⟩,
    ⟨.fieldAddr 6 (.p 1), (some 12), none⟩,
    ⟨.load .head false 1 (.p 12), (some 13), none⟩,
    ⟨.len false (.p 13), (some 14), none⟩,
    ⟨.bin .add 1 false (.p 11) (.p 14), (some 15), none⟩,
    ⟨.assign (.p 15), (some 3), none⟩] k42_12
@[simp] theorem xk42_13 : GoC fns Q s k42_13 st ↔ GoO fns Q s [⟨.fieldAddr 1 (.p 1), (some 5), none⟩,
    ⟨.load .head false 1 (.p 5), (some 6), none⟩,
    ⟨.len true (.p 6), (some 7), none⟩,
    ⟨.fieldAddr 2 (.p 1), (some 8), none⟩,
    ⟨.load .head false 1 (.p 8), (some 9), none⟩,
    ⟨.len true (.p 9), (some 10), none⟩,
    ⟨.bin .add 1 false (.p 7) (.p 10), (some 11), none⟩,
    ⟨.fieldAddr 6 (.p 1), (some 12), none⟩,
    ⟨.load .head false 1 (.p 12), (some 13), none⟩,
    ⟨.len false (.p 13), (some 14), none⟩,
    ⟨.bin .add 1 false (.p 11) (.p 14), (some 15), none⟩,
    ⟨.assign (.p 15), (some 3), none⟩] k42_12 st := goC_ops
def k42_14 : ACode :=
  .ops [⟨.box 1 (.p 0), (some 1), none⟩,
    ⟨.assign (.c (.int .i64 0)), (some 2), none⟩] k42_13
@[simp] theorem xk42_14 : GoC fns Q s k42_14 st ↔ GoO fns Q s [⟨.box 1 (.p 0), (some 1), none⟩,
    ⟨.assign (.c (.int .i64 0)), (some 2), none⟩] k42_13 st := goC_ops
def af42 : AFunc := ⟨41, k42_14, [.tmp 2]⟩

theorem ok42 : ∃ hs, pFunc Try.prog sg hs Try.f42 = some af42 := ⟨fun i => 0, by kernel_rfl⟩
/-- No. 31 -/
def k31_0 : ACode :=
  .ops [⟨.load .look true 8 (.p 1), (some 3), none⟩,
    ⟨.call 40 [(.p 3, false), (.c (.int .i64 300), false)], (some 4), none⟩,
    ⟨.bin .leq 1 true (.p 4) (.c (.int .i64 300)), (some 5), none⟩,
    ⟨.move .look (.p 5), (some 6), none⟩,
    ⟨.load .look true 8 (.p 1), (some 7), (some (6, true))⟩,
    ⟨.call 41 [(.p 7, false)], (some 8), (some (6, true))⟩,
    ⟨.pick (.p 6) (.p 8) (.c (.bool false)), (some 9), none⟩,
    ⟨.move .look (.p 9), (some 10), none⟩,
    ⟨.load .look true 8 (.p 1), (some 11), (some (10, true))⟩,
    ⟨.call 42 [(.p 11, false)], (some 12), (some (10, true))⟩,
    ⟨.bin .leq 1 true (.p 12) (.c (.int .i64 5000)), (some 13), (some (10, true))⟩,
    ⟨.pick (.p 10) (.p 13) (.c (.bool false)), (some 14), none⟩,
    ⟨.assign (.p 14), (some 2), none⟩] .ret
@[simp] theorem xk31_0 : GoC fns Q s k31_0 st ↔ GoO fns Q s [⟨.load .look true 8 (.p 1), (some 3), none⟩,
    ⟨.call 40 [(.p 3, false), (.c (.int .i64 300), false)], (some 4), none⟩,
    ⟨.bin .leq 1 true (.p 4) (.c (.int .i64 300)), (some 5), none⟩,
    ⟨.move .look (.p 5), (some 6), none⟩,
    ⟨.load .look true 8 (.p 1), (some 7), (some (6, true))⟩,
    ⟨.call 41 [(.p 7, false)], (some 8), (some (6, true))⟩,
    ⟨.pick (.p 6) (.p 8) (.c (.bool false)), (some 9), none⟩,
    ⟨.move .look (.p 9), (some 10), none⟩,
    ⟨.load .look true 8 (.p 1), (some 11), (some (10, true))⟩,
    ⟨.call 42 [(.p 11, false)], (some 12), (some (10, true))⟩,
    ⟨.bin .leq 1 true (.p 12) (.c (.int .i64 5000)), (some 13), (some (10, true))⟩,
    ⟨.pick (.p 10) (.p 13) (.c (.bool false)), (some 14), none⟩,
    ⟨.assign (.p 14), (some 2), none⟩] .ret st := goC_ops
def k31_1 : ACode :=
  .ops [⟨.box 1 (.p 0), (some 1), none⟩,
    ⟨.assign (.c (.bool false)), (some 2), none⟩] k31_0
@[simp] theorem xk31_1 : GoC fns Q s k31_1 st ↔ GoO fns Q s [⟨.box 1 (.p 0), (some 1), none⟩,
    ⟨.assign (.c (.bool false)), (some 2), none⟩] k31_0 st := goC_ops
def af31 : AFunc := ⟨15, k31_1, [.tmp 2]⟩

theorem ok31 : ∃ hs, pFunc Try.prog sg hs Try.f31 = some af31 := ⟨fun i => 0, by kernel_rfl⟩
/-- No. 15 -/
def k15_0 : ACode :=
  .ops [⟨.move .look (.t 0), (some 3), none⟩,
    ⟨.build [.int .i64 0, .str [], .str [], .int .i64 0, .int .u64 0, .int .u64 0, .slice .nil 0 1 [], .slice .nil 0 1 []] [(0, 1, .c (.int .i64 3)), (7, 1, .t 3)], (some 4), none⟩,
    ⟨.call 31 [(.p 4, false)], (some 5), none⟩,
    ⟨.assign (.p 5), (some 2), none⟩] .ret
@[simp] theorem xk15_0 : GoC fns Q s k15_0 st ↔ GoO fns Q s [⟨.move .look (.t 0), (some 3), none⟩,
    ⟨.build [.int .i64 0, .str [], .str [], .int .i64 0, .int .u64 0, .int .u64 0, .slice .nil 0 1 [], .slice .nil 0 1 []] [(0, 1, .c (.int .i64 3)), (7, 1, .t 3)], (some 4), none⟩,
    ⟨.call 31 [(.p 4, false)], (some 5), none⟩,
    ⟨.assign (.p 5), (some 2), none⟩] .ret st := goC_ops
def k15_1 : ACode :=
  .ops [⟨.assign (.c (.bool false)), (some 2), none⟩] k15_0
@[simp] theorem xk15_1 : GoC fns Q s k15_1 st ↔ GoO fns Q s [⟨.assign (.c (.bool false)), (some 2), none⟩] k15_0 st := goC_ops
def af15 : AFunc := ⟨6, k15_1, [.tmp 2]⟩

theorem ok15 : ∃ hs, pFunc Try.prog sg hs Try.f15 = some af15 := ⟨fun i => 0, by kernel_rfl⟩
/-- No. 23 -/
def k23_0 : ACode :=
  .ops [⟨.move .take (.t 5), (some 11), none⟩,
    ⟨.buildSl 5 1 [.int .u8 0] [(0, 1, .c (.int .u8 0))], (some 12), none⟩,
    ⟨.append 5 1 1 false (.t 11) (.p 12), (some 13), none⟩,
    ⟨.assign (.t 13), (some 4), none⟩] .ret
@[simp] theorem xk23_0 : GoC fns Q s k23_0 st ↔ GoO fns Q s [⟨.move .take (.t 5), (some 11), none⟩,
    ⟨.buildSl 5 1 [.int .u8 0] [(0, 1, .c (.int .u8 0))], (some 12), none⟩,
    ⟨.append 5 1 1 false (.t 11) (.p 12), (some 13), none⟩,
    ⟨.assign (.t 13), (some 4), none⟩] .ret st := goC_ops
def k23_1 : ACode :=
  .ops [⟨.move .look (.p 0), (some 6), none⟩,
    ⟨.convInt .u8 (.p 6), (some 7), none⟩,
    ⟨.buildSl 5 1 [.int .u8 0] [(0, 1, .p 7)], (some 8), none⟩,
    ⟨.move .look (.p 1), (some 9), none⟩,
    ⟨.append 5 1 1 true (.t 8) (.p 9), (some 10), none⟩,
    ⟨.assign (.t 10), (some 5), none⟩] k23_0
@[simp] theorem xk23_1 : GoC fns Q s k23_1 st ↔ GoO fns Q s [⟨.move .look (.p 0), (some 6), none⟩,
    ⟨.convInt .u8 (.p 6), (some 7), none⟩,
    ⟨.buildSl 5 1 [.int .u8 0] [(0, 1, .p 7)], (some 8), none⟩,
    ⟨.move .look (.p 1), (some 9), none⟩,
    ⟨.append 5 1 1 true (.t 8) (.p 9), (some 10), none⟩,
    ⟨.assign (.t 10), (some 5), none⟩] k23_0 st := goC_ops
def k23_2 : ACode :=
  .ops [⟨.assign (.c (.slice .nil 0 1 [])), (some 4), none⟩] k23_1
@[simp] theorem xk23_2 : GoC fns Q s k23_2 st ↔ GoO fns Q s [⟨.assign (.c (.slice .nil 0 1 [])), (some 4), none⟩] k23_1 st := goC_ops
def af23 : AFunc := ⟨14, k23_2, [.tmp 4]⟩

theorem ok23 : ∃ hs, pFunc Try.prog sg hs Try.f23 = some af23 := ⟨fun i => 0, by kernel_rfl⟩
/-- No. 47 -/
def k47_0 : ACode :=
  .ops [⟨.move .take (.t 0), (some 17), none⟩,
    ⟨.assign (.t 17), (some 4), none⟩] .ret
@[simp] theorem xk47_0 : GoC fns Q s k47_0 st ↔ GoO fns Q s [⟨.move .take (.t 0), (some 17), none⟩,
    ⟨.assign (.t 17), (some 4), none⟩] .ret st := goC_ops
def k47_1 : ACode :=
  .ops [⟨.move .look (.p 5), (some 8), none⟩,
    ⟨.bin .add 1 true (.p 8) (.c (.int .i64 8)), (some 9), none⟩,
    ⟨.assign (.p 9), (some 5), none⟩] .skip
@[simp] theorem xk47_1 : GoC fns Q s k47_1 st ↔ GoO fns Q s [⟨.move .look (.p 5), (some 8), none⟩,
    ⟨.bin .add 1 true (.p 8) (.c (.int .i64 8)), (some 9), none⟩,
    ⟨.assign (.p 9), (some 5), none⟩] .skip st := goC_ops
def k47_2 : ACode :=
  .ops [⟨.move .take (.t 0), (some 10), none⟩,
    ⟨.move .look (.p 1), (some 11), none⟩,
    ⟨.move .look (.p 5), (some 12), none⟩,
    ⟨.bin .shr 1 false (.p 11) (.p 12), (some 13), none⟩,
    ⟨.convInt .u8 (.p 13), (some 14), none⟩,
    ⟨.buildSl 5 1 [.int .u8 0] [(0, 1, .p 14)], (some 15), none⟩,
    ⟨.append 5 1 1 false (.t 10) (.p 15), (some 16), none⟩,
    ⟨.assign (.t 16), (some 0), none⟩] .skip
@[simp] theorem xk47_2 : GoC fns Q s k47_2 st ↔ GoO fns Q s [⟨.move .take (.t 0), (some 10), none⟩,
    ⟨.move .look (.p 1), (some 11), none⟩,
    ⟨.move .look (.p 5), (some 12), none⟩,
    ⟨.bin .shr 1 false (.p 11) (.p 12), (some 13), none⟩,
    ⟨.convInt .u8 (.p 13), (some 14), none⟩,
    ⟨.buildSl 5 1 [.int .u8 0] [(0, 1, .p 14)], (some 15), none⟩,
    ⟨.append 5 1 1 false (.t 10) (.p 15), (some 16), none⟩,
    ⟨.assign (.t 16), (some 0), none⟩] .skip st := goC_ops
def k47_3 : ACode :=
  .block 1 k47_2
@[simp] theorem xk47_3 : GoC fns Q s k47_3 st ↔ GoC fns Q (.bl 1 :: s) k47_2 st := goC_block
def k47_4 : ACode :=
  .seq k47_3 k47_1
@[simp] theorem xk47_4 : GoC fns Q s k47_4 st ↔ GoC fns Q (.sq k47_1 :: s) k47_3 st := goC_seq
def k47_5 : ACode :=
  .cond (.p 7) .skip (.exit 0)
@[simp] theorem xk47_5 : GoC fns Q s k47_5 st ↔ GB fns Q s (peek st (.p 7)) .skip (.exit 0) st := goC_cond
def k47_6 : ACode :=
  .seq k47_5 k47_4
@[simp] theorem xk47_6 : GoC fns Q s k47_6 st ↔ GoC fns Q (.sq k47_4 :: s) k47_5 st := goC_seq
def k47_7 : ACode :=
  .ops [⟨.move .look (.p 5), (some 6), none⟩,
    ⟨.bin .lss 1 true (.p 6) (.c (.int .i64 64)), (some 7), none⟩] k47_6
@[simp] theorem xk47_7 : GoC fns Q s k47_7 st ↔ GoO fns Q s [⟨.move .look (.p 5), (some 6), none⟩,
    ⟨.bin .lss 1 true (.p 6) (.c (.int .i64 64)), (some 7), none⟩] k47_6 st := goC_ops
def lc47_0 : ACode :=
  k47_7
@[simp] theorem xlc47_0 : GoC fns Q s lc47_0 st ↔ GoC fns Q s k47_7 st := Iff.rfl
def k47_9 : ACode :=
  .loop lc47_0
@[simp] theorem xk47_9 : GoC fns Q s k47_9 st ↔ (Run (loopω fns lc47_0 st) fun r => GoE fns Q s r.1 r.2) := goC_loop
def k47_10 : ACode :=
  .block 0 k47_9
@[simp] theorem xk47_10 : GoC fns Q s k47_10 st ↔ GoC fns Q (.bl 0 :: s) k47_9 st := goC_block
def k47_11 : ACode :=
  .seq k47_10 k47_0
@[simp] theorem xk47_11 : GoC fns Q s k47_11 st ↔ GoC fns Q (.sq k47_0 :: s) k47_10 st := goC_seq
def k47_12 : ACode :=
  .ops [⟨.assign (.c (.int .i64 0)), (some 5), none⟩] k47_11
@[simp] theorem xk47_12 : GoC fns Q s k47_12 st ↔ GoO fns Q s [⟨.assign (.c (.int .i64 0)), (some 5), none⟩] k47_11 st := goC_ops
def k47_13 : ACode :=
  .ops [⟨.assign (.c (.slice .nil 0 1 [])), (some 4), none⟩] k47_12
@[simp] theorem xk47_13 : GoC fns Q s k47_13 st ↔ GoO fns Q s [⟨.assign (.c (.slice .nil 0 1 [])), (some 4), none⟩] k47_12 st := goC_ops
def af47 : AFunc := ⟨18, k47_13, [.tmp 4]⟩

theorem ok47 : ∃ hs, pFunc Try.prog sg hs Try.f47 = some af47 := ⟨fun i => 0, by kernel_rfl⟩
/-- No. 13 -/
def k13_0 : ACode :=
  .ops [⟨.move .take (.t 0), (some 5), none⟩,
    ⟨.move .look (.p 1), (some 6), none⟩,
    ⟨.convInt .u8 (.p 6), (some 7), none⟩,
    ⟨.move .look (.p 1), (some 8), none⟩,
    ⟨.bin .shr 1 true (.p 8) (.c (.int .u64 8)), (some 9), none⟩,
    ⟨.convInt .u8 (.p 9), (some 10), none⟩,
    ⟨.move .look (.p 1), (some 11), none⟩,
    ⟨.bin .shr 1 true (.p 11) (.c (.int .u64 16)), (some 12), none⟩,
    ⟨.convInt .u8 (.p 12), (some 13), none⟩,
    ⟨.move .look (.p 1), (some 14), none⟩,
    ⟨.bin .shr 1 true (.p 14) (.c (.int .u64 24)), (some 15), none⟩,
    ⟨.convInt .u8 (.p 15), (some 16), none⟩,
    ⟨.buildSl 5 1 [.int .u8 0, .int .u8 0, .int .u8 0, .int .u8 0] [(0, 1, .p 7), (1, 1, .p 10), (2, 1, .p 13), (3, 1, .p 16)], (some 17), none⟩,
    ⟨.append 5 1 1 false (.t 5) (.p 17), (some 18), none⟩,
    ⟨.assign (.t 18), (some 4), none⟩] .ret
@[simp] theorem xk13_0 : GoC fns Q s k13_0 st ↔ GoO fns Q s [⟨.move .take (.t 0), (some 5), none⟩,
    ⟨.move .look (.p 1), (some 6), none⟩,
    ⟨.convInt .u8 (.p 6), (some 7), none⟩,
    ⟨.move .look (.p 1), (some 8), none⟩,
    ⟨.bin .shr 1 true (.p 8) (.c (.int .u64 8)), (some 9), none⟩,
    ⟨.convInt .u8 (.p 9), (some 10), none⟩,
    ⟨.move .look (.p 1), (some 11), none⟩,
    ⟨.bin .shr 1 true (.p 11) (.c (.int .u64 16)), (some 12), none⟩,
    ⟨.convInt .u8 (.p 12), (some 13), none⟩,
    ⟨.move .look (.p 1), (some 14), none⟩,
    ⟨.bin .shr 1 true (.p 14) (.c (.int .u64 24)), (some 15), none⟩,
    ⟨.convInt .u8 (.p 15), (some 16), none⟩,
    ⟨.buildSl 5 1 [.int .u8 0, .int .u8 0, .int .u8 0, .int .u8 0] [(0, 1, .p 7), (1, 1, .p 10), (2, 1, .p 13), (3, 1, .p 16)], (some 17), none⟩,
    ⟨.append 5 1 1 false (.t 5) (.p 17), (some 18), none⟩,
    ⟨.assign (.t 18), (some 4), none⟩] .ret st := goC_ops
def k13_1 : ACode :=
  .ops [⟨.assign (.c (.slice .nil 0 1 [])), (some 4), none⟩] k13_0
@[simp] theorem xk13_1 : GoC fns Q s k13_1 st ↔ GoO fns Q s [⟨.assign (.c (.slice .nil 0 1 [])), (some 4), none⟩] k13_0 st := goC_ops
def af13 : AFunc := ⟨19, k13_1, [.tmp 4]⟩

theorem ok13 : ∃ hs, pFunc Try.prog sg hs Try.f13 = some af13 := ⟨fun i => 0, by kernel_rfl⟩
/-- No. 48 -/
def k48_0 : ACode :=
  .ops [⟨.move .take (.t 0), (some 13), none⟩,
    ⟨.buildSl 5 1 [.int .u8 0] [(0, 1, .c (.int .u8 0))], (some 14), none⟩,
    ⟨.append 5 1 1 false (.t 13) (.p 14), (some 15), none⟩,
    ⟨.assign (.t 15), (some 4), none⟩] .ret
@[simp] theorem xk48_0 : GoC fns Q s k48_0 st ↔ GoO fns Q s [⟨.move .take (.t 0), (some 13), none⟩,
    ⟨.buildSl 5 1 [.int .u8 0] [(0, 1, .c (.int .u8 0))], (some 14), none⟩,
    ⟨.append 5 1 1 false (.t 13) (.p 14), (some 15), none⟩,
    ⟨.assign (.t 15), (some 4), none⟩] .ret st := goC_ops
def k48_1 : ACode :=
  .ops [⟨.move .take (.t 0), (some 10), none⟩,
    ⟨.move .look (.p 1), (some 11), none⟩,
    ⟨.append 5 1 1 true (.t 10) (.p 11), (some 12), none⟩,
    ⟨.assign (.t 12), (some 0), none⟩] k48_0
@[simp] theorem xk48_1 : GoC fns Q s k48_1 st ↔ GoO fns Q s [⟨.move .take (.t 0), (some 10), none⟩,
    ⟨.move .look (.p 1), (some 11), none⟩,
    ⟨.append 5 1 1 true (.t 10) (.p 11), (some 12), none⟩,
    ⟨.assign (.t 12), (some 0), none⟩] k48_0 st := goC_ops
def k48_2 : ACode :=
  .ops [⟨.move .take (.t 0), (some 5), none⟩,
    ⟨.move .head (.p 1), (some 6), none⟩,
    ⟨.len true (.p 6), (some 7), none⟩,
    ⟨.bin .add 1 true (.p 7) (.c (.int .i64 1)), (some 8), none⟩,
    ⟨.call 13 [(.t 5, true), (.p 8, false)], (some 9), none⟩,
    ⟨.assign (.t 9), (some 0), none⟩] k48_1
@[simp] theorem xk48_2 : GoC fns Q s k48_2 st ↔ GoO fns Q s [⟨.move .take (.t 0), (some 5), none⟩,
    ⟨.move .head (.p 1), (some 6), none⟩,
    ⟨.len true (.p 6), (some 7), none⟩,
    ⟨.bin .add 1 true (.p 7) (.c (.int .i64 1)), (some 8), none⟩,
    ⟨.call 13 [(.t 5, true), (.p 8, false)], (some 9), none⟩,
    ⟨.assign (.t 9), (some 0), none⟩] k48_1 st := goC_ops
def k48_3 : ACode :=
  .ops [⟨.assign (.c (.slice .nil 0 1 [])), (some 4), none⟩] k48_2
@[simp] theorem xk48_3 : GoC fns Q s k48_3 st ↔ GoO fns Q s [⟨.assign (.c (.slice .nil 0 1 [])), (some 4), none⟩] k48_2 st := goC_ops
def af48 : AFunc := ⟨16, k48_3, [.tmp 4]⟩

theorem ok48 : ∃ hs, pFunc Try.prog sg hs Try.f48 = some af48 := ⟨fun i => 0, by kernel_rfl⟩
/-- No. 16 -/
def k16_0 : ACode :=
  .ops [⟨.move .take (.t 5), (some 26), none⟩,
    ⟨.buildSl 5 1 [.int .u8 0] [(0, 1, .c (.int .u8 0))], (some 27), none⟩,
    ⟨.append 5 1 1 false (.t 26) (.p 27), (some 28), none⟩,
    ⟨.assign (.t 28), (some 2), none⟩] .ret
@[simp] theorem xk16_0 : GoC fns Q s k16_0 st ↔ GoO fns Q s [⟨.move .take (.t 5), (some 26), none⟩,
    ⟨.buildSl 5 1 [.int .u8 0] [(0, 1, .c (.int .u8 0))], (some 27), none⟩,
    ⟨.append 5 1 1 false (.t 26) (.p 27), (some 28), none⟩,
    ⟨.assign (.t 28), (some 2), none⟩] .ret st := goC_ops
def k16_1 : ACode :=
  .ops [⟨.move .take (.t 5), (some 23), none⟩,
    ⟨.move .look (.t 3), (some 24), none⟩,
    ⟨.append 5 1 1 false (.t 23) (.p 24), (some 25), none⟩,
    ⟨.assign (.t 25), (some 5), none⟩] k16_0
@[simp] theorem xk16_1 : GoC fns Q s k16_1 st ↔ GoO fns Q s [⟨.move .take (.t 5), (some 23), none⟩,
    ⟨.move .look (.t 3), (some 24), none⟩,
    ⟨.append 5 1 1 false (.t 23) (.p 24), (some 25), none⟩,
    ⟨.assign (.t 25), (some 5), none⟩] k16_0 st := goC_ops
def k16_2 : ACode :=
  .ops [⟨.move .head (.t 3), (some 19), none⟩,
    ⟨.len false (.p 19), (some 20), none⟩,
    ⟨.bin .add 1 true (.p 20) (.c (.int .i64 5)), (some 21), none⟩,
    ⟨.call 13 [(.c (.slice .nil 0 1 []), true), (.p 21, false)], (some 22), none⟩,
    ⟨.assign (.t 22), (some 5), none⟩] k16_1
@[simp] theorem xk16_2 : GoC fns Q s k16_2 st ↔ GoO fns Q s [⟨.move .head (.t 3), (some 19), none⟩,
    ⟨.len false (.p 19), (some 20), none⟩,
    ⟨.bin .add 1 true (.p 20) (.c (.int .i64 5)), (some 21), none⟩,
    ⟨.call 13 [(.c (.slice .nil 0 1 []), true), (.p 21, false)], (some 22), none⟩,
    ⟨.assign (.t 22), (some 5), none⟩] k16_1 st := goC_ops
def k16_3 : ACode :=
  .ops [⟨.move .look (.p 4), (some 10), none⟩,
    ⟨.bin .add 1 true (.p 10) (.c (.int .i64 1)), (some 11), none⟩,
    ⟨.assign (.p 11), (some 4), none⟩] .skip
@[simp] theorem xk16_3 : GoC fns Q s k16_3 st ↔ GoO fns Q s [⟨.move .look (.p 4), (some 10), none⟩,
    ⟨.bin .add 1 true (.p 10) (.c (.int .i64 1)), (some 11), none⟩,
    ⟨.assign (.p 11), (some 4), none⟩] .skip st := goC_ops
def k16_4 : ACode :=
  .ops [⟨.move .take (.t 3), (some 12), none⟩,
    ⟨.move .look (.t 0), (some 13), none⟩,
    ⟨.move .look (.p 4), (some 14), none⟩,
    ⟨.indexAddr 9 (.t 13) (.p 14), (some 15), none⟩,
    ⟨.load .look true 9 (.p 15), (some 16), none⟩,
    ⟨.call 32 [(.p 16, false)], (some 17), none⟩,
    ⟨.append 5 1 1 false (.t 12) (.p 17), (some 18), none⟩,
    ⟨.assign (.t 18), (some 3), none⟩] .skip
@[simp] theorem xk16_4 : GoC fns Q s k16_4 st ↔ GoO fns Q s [⟨.move .take (.t 3), (some 12), none⟩,
    ⟨.move .look (.t 0), (some 13), none⟩,
    ⟨.move .look (.p 4), (some 14), none⟩,
    ⟨.indexAddr 9 (.t 13) (.p 14), (some 15), none⟩,
    ⟨.load .look true 9 (.p 15), (some 16), none⟩,
    ⟨.call 32 [(.p 16, false)], (some 17), none⟩,
    ⟨.append 5 1 1 false (.t 12) (.p 17), (some 18), none⟩,
    ⟨.assign (.t 18), (some 3), none⟩] .skip st := goC_ops
def k16_5 : ACode :=
  .block 1 k16_4
@[simp] theorem xk16_5 : GoC fns Q s k16_5 st ↔ GoC fns Q (.bl 1 :: s) k16_4 st := goC_block
def k16_6 : ACode :=
  .seq k16_5 k16_3
@[simp] theorem xk16_6 : GoC fns Q s k16_6 st ↔ GoC fns Q (.sq k16_3 :: s) k16_5 st := goC_seq
def k16_7 : ACode :=
  .cond (.p 9) .skip (.exit 0)
@[simp] theorem xk16_7 : GoC fns Q s k16_7 st ↔ GB fns Q s (peek st (.p 9)) .skip (.exit 0) st := goC_cond
def k16_8 : ACode :=
  .seq k16_7 k16_6
@[simp] theorem xk16_8 : GoC fns Q s k16_8 st ↔ GoC fns Q (.sq k16_6 :: s) k16_7 st := goC_seq
def k16_9 : ACode :=
  .ops [⟨.move .look (.p 4), (some 6), none⟩,
    ⟨.move .head (.t 0), (some 7), none⟩,
    ⟨.len false (.p 7), (some 8), none⟩,
    ⟨.bin .lss 1 false (.p 6) (.p 8), (some 9), none⟩] k16_8
@[simp] theorem xk16_9 : GoC fns Q s k16_9 st ↔ GoO fns Q s [⟨.move .look (.p 4), (some 6), none⟩,
    ⟨.move .head (.t 0), (some 7), none⟩,
    ⟨.len false (.p 7), (some 8), none⟩,
    ⟨.bin .lss 1 false (.p 6) (.p 8), (some 9), none⟩] k16_8 st := goC_ops
def lc16_0 : ACode :=
  k16_9
@[simp] theorem xlc16_0 : GoC fns Q s lc16_0 st ↔ GoC fns Q s k16_9 st := Iff.rfl
def k16_11 : ACode :=
  .loop lc16_0
@[simp] theorem xk16_11 : GoC fns Q s k16_11 st ↔ (Run (loopω fns lc16_0 st) fun r => GoE fns Q s r.1 r.2) := goC_loop
def k16_12 : ACode :=
  .block 0 k16_11
@[simp] theorem xk16_12 : GoC fns Q s k16_12 st ↔ GoC fns Q (.bl 0 :: s) k16_11 st := goC_block
def k16_13 : ACode :=
  .seq k16_12 k16_2
@[simp] theorem xk16_13 : GoC fns Q s k16_13 st ↔ GoC fns Q (.sq k16_2 :: s) k16_12 st := goC_seq
def k16_14 : ACode :=
  .ops [⟨.assign (.c (.int .i64 0)), (some 4), none⟩] k16_13
@[simp] theorem xk16_14 : GoC fns Q s k16_14 st ↔ GoO fns Q s [⟨.assign (.c (.int .i64 0)), (some 4), none⟩] k16_13 st := goC_ops
def k16_15 : ACode :=
  .ops [⟨.assign (.c (.slice .nil 0 1 [])), (some 3), none⟩] k16_14
@[simp] theorem xk16_15 : GoC fns Q s k16_15 st ↔ GoO fns Q s [⟨.assign (.c (.slice .nil 0 1 [])), (some 3), none⟩] k16_14 st := goC_ops
def k16_16 : ACode :=
  .ops [⟨.assign (.c (.slice .nil 0 1 [])), (some 2), none⟩] k16_15
@[simp] theorem xk16_16 : GoC fns Q s k16_16 st ↔ GoO fns Q s [⟨.assign (.c (.slice .nil 0 1 [])), (some 2), none⟩] k16_15 st := goC_ops
def af16 : AFunc := ⟨29, k16_16, [.tmp 2]⟩

theorem ok16 : ∃ hs, pFunc Try.prog sg hs Try.f16 = some af16 := ⟨fun i => 0, by kernel_rfl⟩
/-- No. 43 -/
def k43_0 : ACode :=
  .ops [⟨.move .take (.t 3), (some 147), none⟩,
    ⟨.assign (.t 147), (some 2), none⟩] .ret
@[simp] theorem xk43_0 : GoC fns Q s k43_0 st ↔ GoO fns Q s [⟨.move .take (.t 3), (some 147), none⟩,
    ⟨.assign (.t 147), (some 2), none⟩] .ret st := goC_ops
def k43_1 : ACode :=
  .ops [⟨.move .take (.t 3), (some 12), none⟩,
    ⟨.fieldAddr 4 (.p 1), (some 13), none⟩,
    ⟨.load .look false 1 (.p 13), (some 14), none⟩,
    ⟨.call 47 [(.t 12, true), (.p 14, false)], (some 15), none⟩,
    ⟨.assign (.t 15), (some 3), none⟩] .skip
@[simp] theorem xk43_1 : GoC fns Q s k43_1 st ↔ GoO fns Q s [⟨.move .take (.t 3), (some 12), none⟩,
    ⟨.fieldAddr 4 (.p 1), (some 13), none⟩,
    ⟨.load .look false 1 (.p 13), (some 14), none⟩,
    ⟨.call 47 [(.t 12, true), (.p 14, false)], (some 15), none⟩,
    ⟨.assign (.t 15), (some 3), none⟩] .skip st := goC_ops
def k43_2 : ACode :=
  .ops [⟨.move .take (.t 3), (some 20), none⟩,
    ⟨.fieldAddr 1 (.p 1), (some 21), none⟩,
    ⟨.load .look false 1 (.p 21), (some 22), none⟩,
    ⟨.call 48 [(.t 20, true), (.p 22, false)], (some 23), none⟩,
    ⟨.assign (.t 23), (some 3), none⟩] .skip
@[simp] theorem xk43_2 : GoC fns Q s k43_2 st ↔ GoO fns Q s [⟨.move .take (.t 3), (some 20), none⟩,
    ⟨.fieldAddr 1 (.p 1), (some 21), none⟩,
    ⟨.load .look false 1 (.p 21), (some 22), none⟩,
    ⟨.call 48 [(.t 20, true), (.p 22, false)], (some 23), none⟩,
    ⟨.assign (.t 23), (some 3), none⟩] .skip st := goC_ops
def k43_3 : ACode :=
  .ops [⟨.fieldAddr 7 (.p 1), (some 27), none⟩,
    ⟨.load .look false 1 (.p 27), (some 28), none⟩,
    ⟨.call 16 [(.t 28, false)], (some 29), none⟩,
    ⟨.assign (.t 29), (some 3), none⟩] .skip
@[simp] theorem xk43_3 : GoC fns Q s k43_3 st ↔ GoO fns Q s [⟨.fieldAddr 7 (.p 1), (some 27), none⟩,
    ⟨.load .look false 1 (.p 27), (some 28), none⟩,
    ⟨.call 16 [(.t 28, false)], (some 29), none⟩,
    ⟨.assign (.t 29), (some 3), none⟩] .skip st := goC_ops
def k43_4 : ACode :=
  .ops [⟨.move .take (.t 3), (some 57), none⟩,
    ⟨.fieldAddr 6 (.p 1), (some 58), none⟩,
    ⟨.load .look false 1 (.p 58), (some 59), none⟩,
    ⟨.append 5 1 1 false (.t 57) (.p 59), (some 60), none⟩,
    ⟨.assign (.t 60), (some 3), none⟩] .skip
@[simp] theorem xk43_4 : GoC fns Q s k43_4 st ↔ GoO fns Q s [⟨.move .take (.t 3), (some 57), none⟩,
    ⟨.fieldAddr 6 (.p 1), (some 58), none⟩,
    ⟨.load .look false 1 (.p 58), (some 59), none⟩,
    ⟨.append 5 1 1 false (.t 57) (.p 59), (some 60), none⟩,
    ⟨.assign (.t 60), (some 3), none⟩] .skip st := goC_ops
def k43_5 : ACode :=
  .ops [⟨.move .take (.t 3), (some 45), none⟩,
    ⟨.move .look (.p 4), (some 46), none⟩,
    ⟨.call 13 [(.t 45, true), (.p 46, false)], (some 47), none⟩,
    ⟨.assign (.t 47), (some 3), none⟩] .skip
@[simp] theorem xk43_5 : GoC fns Q s k43_5 st ↔ GoO fns Q s [⟨.move .take (.t 3), (some 45), none⟩,
    ⟨.move .look (.p 4), (some 46), none⟩,
    ⟨.call 13 [(.t 45, true), (.p 46, false)], (some 47), none⟩,
    ⟨.assign (.t 47), (some 3), none⟩] .skip st := goC_ops
def k43_6 : ACode :=
  .ops [⟨.move .take (.t 3), (some 42), none⟩,
    ⟨.buildSl 5 1 [.int .u8 0] [(0, 1, .c (.int .u8 2))], (some 43), none⟩,
    ⟨.append 5 1 1 false (.t 42) (.p 43), (some 44), none⟩,
    ⟨.assign (.t 44), (some 3), none⟩] k43_5
@[simp] theorem xk43_6 : GoC fns Q s k43_6 st ↔ GoO fns Q s [⟨.move .take (.t 3), (some 42), none⟩,
    ⟨.buildSl 5 1 [.int .u8 0] [(0, 1, .c (.int .u8 2))], (some 43), none⟩,
    ⟨.append 5 1 1 false (.t 42) (.p 43), (some 44), none⟩,
    ⟨.assign (.t 44), (some 3), none⟩] k43_5 st := goC_ops
def k43_7 : ACode :=
  .ops [⟨.move .take (.t 3), (some 38), none⟩,
    ⟨.move .look (.p 4), (some 39), none⟩,
    ⟨.bin .add 1 true (.p 39) (.c (.int .i64 4)), (some 40), none⟩,
    ⟨.call 13 [(.t 38, true), (.p 40, false)], (some 41), none⟩,
    ⟨.assign (.t 41), (some 3), none⟩] k43_6
@[simp] theorem xk43_7 : GoC fns Q s k43_7 st ↔ GoO fns Q s [⟨.move .take (.t 3), (some 38), none⟩,
    ⟨.move .look (.p 4), (some 39), none⟩,
    ⟨.bin .add 1 true (.p 39) (.c (.int .i64 4)), (some 40), none⟩,
    ⟨.call 13 [(.t 38, true), (.p 40, false)], (some 41), none⟩,
    ⟨.assign (.t 41), (some 3), none⟩] k43_6 st := goC_ops
def k43_8 : ACode :=
  .ops [⟨.move .take (.t 3), (some 51), none⟩,
    ⟨.fieldAddr 3 (.p 1), (some 52), none⟩,
    ⟨.load .look false 1 (.p 52), (some 53), none⟩,
    ⟨.convInt .u8 (.p 53), (some 54), none⟩,
    ⟨.buildSl 5 1 [.int .u8 0] [(0, 1, .p 54)], (some 55), none⟩,
    ⟨.append 5 1 1 false (.t 51) (.p 55), (some 56), none⟩,
    ⟨.assign (.t 56), (some 3), none⟩] .skip
@[simp] theorem xk43_8 : GoC fns Q s k43_8 st ↔ GoO fns Q s [⟨.move .take (.t 3), (some 51), none⟩,
    ⟨.fieldAddr 3 (.p 1), (some 52), none⟩,
    ⟨.load .look false 1 (.p 52), (some 53), none⟩,
    ⟨.convInt .u8 (.p 53), (some 54), none⟩,
    ⟨.buildSl 5 1 [.int .u8 0] [(0, 1, .p 54)], (some 55), none⟩,
    ⟨.append 5 1 1 false (.t 51) (.p 55), (some 56), none⟩,
    ⟨.assign (.t 56), (some 3), none⟩] .skip st := goC_ops
def k43_9 : ACode :=
  .ops [⟨.move .take (.t 3), (some 48), none⟩,
    ⟨.move .look (.p 4), (some 49), none⟩,
    ⟨.call 13 [(.t 48, true), (.p 49, false)], (some 50), none⟩,
    ⟨.assign (.t 50), (some 3), none⟩] k43_8
@[simp] theorem xk43_9 : GoC fns Q s k43_9 st ↔ GoO fns Q s [⟨.move .take (.t 3), (some 48), none⟩,
    ⟨.move .look (.p 4), (some 49), none⟩,
    ⟨.call 13 [(.t 48, true), (.p 49, false)], (some 50), none⟩,
    ⟨.assign (.t 50), (some 3), none⟩] k43_8 st := goC_ops
def k43_10 : ACode :=
  .cond (.p 37) k43_7 k43_9
@[simp] theorem xk43_10 : GoC fns Q s k43_10 st ↔ GB fns Q s (peek st (.p 37)) k43_7 k43_9 st := goC_cond
def k43_11 : ACode :=
  .seq k43_10 k43_4
@[simp] theorem xk43_11 : GoC fns Q s k43_11 st ↔ GoC fns Q (.sq k43_4 :: s) k43_10 st := goC_seq
def k43_12 : ACode :=
  .ops [⟨.fieldAddr 3 (.p 1), (some 35), none⟩,
    ⟨.load .head false 1 (.p 35), (some 36), none⟩,
    ⟨.bin .eql 1 true (.p 36) (.c (.int .i64 2)), (some 37), none⟩] k43_11
@[simp] theorem xk43_12 : GoC fns Q s k43_12 st ↔ GoO fns Q s [⟨.fieldAddr 3 (.p 1), (some 35), none⟩,
    ⟨.load .head false 1 (.p 35), (some 36), none⟩,
    ⟨.bin .eql 1 true (.p 36) (.c (.int .i64 2)), (some 37), none⟩] k43_11 st := goC_ops
def k43_13 : ACode :=
  .ops [⟨.fieldAddr 6 (.p 1), (some 32), none⟩,
    ⟨.load .head false 1 (.p 32), (some 33), none⟩,
    ⟨.len false (.p 33), (some 34), none⟩,
    ⟨.assign (.p 34), (some 4), none⟩] k43_12
@[simp] theorem xk43_13 : GoC fns Q s k43_13 st ↔ GoO fns Q s [⟨.fieldAddr 6 (.p 1), (some 32), none⟩,
    ⟨.load .head false 1 (.p 32), (some 33), none⟩,
    ⟨.len false (.p 33), (some 34), none⟩,
    ⟨.assign (.p 34), (some 4), none⟩] k43_12 st := goC_ops
def k43_14 : ACode :=
  .ops [⟨.move .take (.t 3), (some 63), none⟩,
    ⟨.fieldAddr 6 (.p 1), (some 64), none⟩,
    ⟨.load .look false 1 (.p 64), (some 65), none⟩,
    ⟨.append 5 1 1 false (.t 63) (.p 65), (some 66), none⟩,
    ⟨.assign (.t 66), (some 3), none⟩] .skip
@[simp] theorem xk43_14 : GoC fns Q s k43_14 st ↔ GoO fns Q s [⟨.move .take (.t 3), (some 63), none⟩,
    ⟨.fieldAddr 6 (.p 1), (some 64), none⟩,
    ⟨.load .look false 1 (.p 64), (some 65), none⟩,
    ⟨.append 5 1 1 false (.t 63) (.p 65), (some 66), none⟩,
    ⟨.assign (.t 66), (some 3), none⟩] .skip st := goC_ops
def k43_15 : ACode :=
  .ops [⟨.move .take (.t 3), (some 69), none⟩,
    ⟨.fieldAddr 3 (.p 1), (some 70), none⟩,
    ⟨.load .look false 1 (.p 70), (some 71), none⟩,
    ⟨.convInt .u8 (.p 71), (some 72), none⟩,
    ⟨.buildSl 5 1 [.int .u8 0] [(0, 1, .p 72)], (some 73), none⟩,
    ⟨.append 5 1 1 false (.t 69) (.p 73), (some 74), none⟩,
    ⟨.assign (.t 74), (some 3), none⟩] .skip
@[simp] theorem xk43_15 : GoC fns Q s k43_15 st ↔ GoO fns Q s [⟨.move .take (.t 3), (some 69), none⟩,
    ⟨.fieldAddr 3 (.p 1), (some 70), none⟩,
    ⟨.load .look false 1 (.p 70), (some 71), none⟩,
    ⟨.convInt .u8 (.p 71), (some 72), none⟩,
    ⟨.buildSl 5 1 [.int .u8 0] [(0, 1, .p 72)], (some 73), none⟩,
    ⟨.append 5 1 1 false (.t 69) (.p 73), (some 74), none⟩,
    ⟨.assign (.t 74), (some 3), none⟩] .skip st := goC_ops
def k43_16 : ACode :=
  .ops [⟨.move .take (.t 3), (some 78), none⟩,
    ⟨.fieldAddr 3 (.p 1), (some 79), none⟩,
    ⟨.load .look false 1 (.p 79), (some 80), none⟩,
    ⟨.convInt .u64 (.p 80), (some 81), none⟩,
    ⟨.call 47 [(.t 78, true), (.p 81, false)], (some 82), none⟩,
    ⟨.assign (.t 82), (some 3), none⟩] .skip
@[simp] theorem xk43_16 : GoC fns Q s k43_16 st ↔ GoO fns Q s [⟨.move .take (.t 3), (some 78), none⟩,
    ⟨.fieldAddr 3 (.p 1), (some 79), none⟩,
    ⟨.load .look false 1 (.p 79), (some 80), none⟩,
    ⟨.convInt .u64 (.p 80), (some 81), none⟩,
    ⟨.call 47 [(.t 78, true), (.p 81, false)], (some 82), none⟩,
    ⟨.assign (.t 82), (some 3), none⟩] .skip st := goC_ops
def k43_17 : ACode :=
  .ops [⟨.move .take (.t 3), (some 85), none⟩,
    ⟨.fieldAddr 3 (.p 1), (some 86), none⟩,
    ⟨.load .look false 1 (.p 86), (some 87), none⟩,
    ⟨.call 13 [(.t 85, true), (.p 87, false)], (some 88), none⟩,
    ⟨.assign (.t 88), (some 3), none⟩] .skip
@[simp] theorem xk43_17 : GoC fns Q s k43_17 st ↔ GoO fns Q s [⟨.move .take (.t 3), (some 85), none⟩,
    ⟨.fieldAddr 3 (.p 1), (some 86), none⟩,
    ⟨.load .look false 1 (.p 86), (some 87), none⟩,
    ⟨.call 13 [(.t 85, true), (.p 87, false)], (some 88), none⟩,
    ⟨.assign (.t 88), (some 3), none⟩] .skip st := goC_ops
def k43_18 : ACode :=
  .ops [⟨.move .take (.t 3), (some 102), none⟩,
    ⟨.buildSl 5 1 [.int .u8 0] [(0, 1, .c (.int .u8 0))], (some 103), none⟩,
    ⟨.append 5 1 1 false (.t 102) (.p 103), (some 104), none⟩,
    ⟨.assign (.t 104), (some 3), none⟩] .skip
@[simp] theorem xk43_18 : GoC fns Q s k43_18 st ↔ GoO fns Q s [⟨.move .take (.t 3), (some 102), none⟩,
    ⟨.buildSl 5 1 [.int .u8 0] [(0, 1, .c (.int .u8 0))], (some 103), none⟩,
    ⟨.append 5 1 1 false (.t 102) (.p 103), (some 104), none⟩,
    ⟨.assign (.t 104), (some 3), none⟩] .skip st := goC_ops
def k43_19 : ACode :=
  .ops [⟨.move .take (.t 3), (some 98), none⟩,
    ⟨.fieldAddr 2 (.p 1), (some 99), none⟩,
    ⟨.load .look false 1 (.p 99), (some 100), none⟩,
    ⟨.append 5 1 1 true (.t 98) (.p 100), (some 101), none⟩,
    ⟨.assign (.t 101), (some 3), none⟩] k43_18
@[simp] theorem xk43_19 : GoC fns Q s k43_19 st ↔ GoO fns Q s [⟨.move .take (.t 3), (some 98), none⟩,
    ⟨.fieldAddr 2 (.p 1), (some 99), none⟩,
    ⟨.load .look false 1 (.p 99), (some 100), none⟩,
    ⟨.append 5 1 1 true (.t 98) (.p 100), (some 101), none⟩,
    ⟨.assign (.t 101), (some 3), none⟩] k43_18 st := goC_ops
def k43_20 : ACode :=
  .ops [⟨.move .take (.t 3), (some 95), none⟩,
    ⟨.buildSl 5 1 [.int .u8 0] [(0, 1, .c (.int .u8 0))], (some 96), none⟩,
    ⟨.append 5 1 1 false (.t 95) (.p 96), (some 97), none⟩,
    ⟨.assign (.t 97), (some 3), none⟩] k43_19
@[simp] theorem xk43_20 : GoC fns Q s k43_20 st ↔ GoO fns Q s [⟨.move .take (.t 3), (some 95), none⟩,
    ⟨.buildSl 5 1 [.int .u8 0] [(0, 1, .c (.int .u8 0))], (some 96), none⟩,
    ⟨.append 5 1 1 false (.t 95) (.p 96), (some 97), none⟩,
    ⟨.assign (.t 97), (some 3), none⟩] k43_19 st := goC_ops
def k43_21 : ACode :=
  .ops [⟨.move .take (.t 3), (some 91), none⟩,
    ⟨.fieldAddr 1 (.p 1), (some 92), none⟩,
    ⟨.load .look false 1 (.p 92), (some 93), none⟩,
    ⟨.append 5 1 1 true (.t 91) (.p 93), (some 94), none⟩,
    ⟨.assign (.t 94), (some 3), none⟩] k43_20
@[simp] theorem xk43_21 : GoC fns Q s k43_21 st ↔ GoO fns Q s [⟨.move .take (.t 3), (some 91), none⟩,
    ⟨.fieldAddr 1 (.p 1), (some 92), none⟩,
    ⟨.load .look false 1 (.p 92), (some 93), none⟩,
    ⟨.append 5 1 1 true (.t 91) (.p 93), (some 94), none⟩,
    ⟨.assign (.t 94), (some 3), none⟩] k43_20 st := goC_ops
def k43_22 : ACode :=
  .ops [⟨.move .take (.t 3), (some 111), none⟩,
    ⟨.fieldAddr 6 (.p 1), (some 112), none⟩,
    ⟨.load .look false 1 (.p 112), (some 113), none⟩,
    ⟨.append 5 1 1 false (.t 111) (.p 113), (some 114), none⟩,
    ⟨.assign (.t 114), (some 3), none⟩] .skip
@[simp] theorem xk43_22 : GoC fns Q s k43_22 st ↔ GoO fns Q s [⟨.move .take (.t 3), (some 111), none⟩,
    ⟨.fieldAddr 6 (.p 1), (some 112), none⟩,
    ⟨.load .look false 1 (.p 112), (some 113), none⟩,
    ⟨.append 5 1 1 false (.t 111) (.p 113), (some 114), none⟩,
    ⟨.assign (.t 114), (some 3), none⟩] .skip st := goC_ops
def k43_23 : ACode :=
  .ops [⟨.move .take (.t 3), (some 107), none⟩,
    ⟨.fieldAddr 1 (.p 1), (some 108), none⟩,
    ⟨.load .look false 1 (.p 108), (some 109), none⟩,
    ⟨.call 48 [(.t 107, true), (.p 109, false)], (some 110), none⟩,
    ⟨.assign (.t 110), (some 3), none⟩] k43_22
@[simp] theorem xk43_23 : GoC fns Q s k43_23 st ↔ GoO fns Q s [⟨.move .take (.t 3), (some 107), none⟩,
    ⟨.fieldAddr 1 (.p 1), (some 108), none⟩,
    ⟨.load .look false 1 (.p 108), (some 109), none⟩,
    ⟨.call 48 [(.t 107, true), (.p 109, false)], (some 110), none⟩,
    ⟨.assign (.t 110), (some 3), none⟩] k43_22 st := goC_ops
def k43_24 : ACode :=
  .ops [⟨.move .take (.t 3), (some 134), none⟩,
    ⟨.move .look (.t 6), (some 135), none⟩,
    ⟨.append 5 1 1 false (.t 134) (.p 135), (some 136), none⟩,
    ⟨.assign (.t 136), (some 3), none⟩] .skip
@[simp] theorem xk43_24 : GoC fns Q s k43_24 st ↔ GoO fns Q s [⟨.move .take (.t 3), (some 134), none⟩,
    ⟨.move .look (.t 6), (some 135), none⟩,
    ⟨.append 5 1 1 false (.t 134) (.p 135), (some 136), none⟩,
    ⟨.assign (.t 136), (some 3), none⟩] .skip st := goC_ops
def k43_25 : ACode :=
  .ops [⟨.move .take (.t 3), (some 131), none⟩,
    ⟨.move .look (.t 5), (some 132), none⟩,
    ⟨.append 5 1 1 false (.t 131) (.p 132), (some 133), none⟩,
    ⟨.assign (.t 133), (some 3), none⟩] k43_24
@[simp] theorem xk43_25 : GoC fns Q s k43_25 st ↔ GoO fns Q s [⟨.move .take (.t 3), (some 131), none⟩,
    ⟨.move .look (.t 5), (some 132), none⟩,
    ⟨.append 5 1 1 false (.t 131) (.p 132), (some 133), none⟩,
    ⟨.assign (.t 133), (some 3), none⟩] k43_24 st := goC_ops
def k43_26 : ACode :=
  .ops [⟨.move .take (.t 3), (some 123), none⟩,
    ⟨.move .head (.t 5), (some 124), none⟩,
    ⟨.len false (.p 124), (some 125), none⟩,
    ⟨.bin .add 1 true (.c (.int .i64 4)) (.p 125), (some 126), none⟩,
    ⟨.move .head (.t 6), (some 127), none⟩,
    ⟨.len false (.p 127), (some 128), none⟩,
    ⟨.bin .add 1 false (.p 126) (.p 128), (some 129), none⟩,
    ⟨.call 13 [(.t 123, true), (.p 129, false)], (some 130), none⟩,
    ⟨.assign (.t 130), (some 3), none⟩] k43_25
@[simp] theorem xk43_26 : GoC fns Q s k43_26 st ↔ GoO fns Q s [⟨.move .take (.t 3), (some 123), none⟩,
    ⟨.move .head (.t 5), (some 124), none⟩,
    ⟨.len false (.p 124), (some 125), none⟩,
    ⟨.bin .add 1 true (.c (.int .i64 4)) (.p 125), (some 126), none⟩,
    ⟨.move .head (.t 6), (some 127), none⟩,
    ⟨.len false (.p 127), (some 128), none⟩,
    ⟨.bin .add 1 false (.p 126) (.p 128), (some 129), none⟩,
    ⟨.call 13 [(.t 123, true), (.p 129, false)], (some 130), none⟩,
    ⟨.assign (.t 130), (some 3), none⟩] k43_25 st := goC_ops
def k43_27 : ACode :=
  .ops [⟨.fieldAddr 7 (.p 1), (some 120), none⟩,
    ⟨.load .look false 1 (.p 120), (some 121), none⟩,
    ⟨.call 16 [(.t 121, false)], (some 122), none⟩,
    ⟨.assign (.t 122), (some 6), none⟩] k43_26
@[simp] theorem xk43_27 : GoC fns Q s k43_27 st ↔ GoO fns Q s [⟨.fieldAddr 7 (.p 1), (some 120), none⟩,
    ⟨.load .look false 1 (.p 120), (some 121), none⟩,
    ⟨.call 16 [(.t 121, false)], (some 122), none⟩,
    ⟨.assign (.t 122), (some 6), none⟩] k43_26 st := goC_ops
def k43_28 : ACode :=
  .ops [⟨.fieldAddr 1 (.p 1), (some 117), none⟩,
    ⟨.load .look false 1 (.p 117), (some 118), none⟩,
    ⟨.call 48 [(.c (.slice .nil 0 1 []), true), (.p 118, false)], (some 119), none⟩,
    ⟨.assign (.t 119), (some 5), none⟩] k43_27
@[simp] theorem xk43_28 : GoC fns Q s k43_28 st ↔ GoO fns Q s [⟨.fieldAddr 1 (.p 1), (some 117), none⟩,
    ⟨.load .look false 1 (.p 117), (some 118), none⟩,
    ⟨.call 48 [(.c (.slice .nil 0 1 []), true), (.p 118, false)], (some 119), none⟩,
    ⟨.assign (.t 119), (some 5), none⟩] k43_27 st := goC_ops
def k43_29 : ACode :=
  .ops [⟨.move .take (.t 3), (some 143), none⟩,
    ⟨.fieldAddr 5 (.p 1), (some 144), none⟩,
    ⟨.load .look false 1 (.p 144), (some 145), none⟩,
    ⟨.call 47 [(.t 143, true), (.p 145, false)], (some 146), none⟩,
    ⟨.assign (.t 146), (some 3), none⟩] .skip
@[simp] theorem xk43_29 : GoC fns Q s k43_29 st ↔ GoO fns Q s [⟨.move .take (.t 3), (some 143), none⟩,
    ⟨.fieldAddr 5 (.p 1), (some 144), none⟩,
    ⟨.load .look false 1 (.p 144), (some 145), none⟩,
    ⟨.call 47 [(.t 143, true), (.p 145, false)], (some 146), none⟩,
    ⟨.assign (.t 146), (some 3), none⟩] .skip st := goC_ops
def k43_30 : ACode :=
  .ops [⟨.move .take (.t 3), (some 139), none⟩,
    ⟨.fieldAddr 4 (.p 1), (some 140), none⟩,
    ⟨.load .look false 1 (.p 140), (some 141), none⟩,
    ⟨.call 47 [(.t 139, true), (.p 141, false)], (some 142), none⟩,
    ⟨.assign (.t 142), (some 3), none⟩] k43_29
@[simp] theorem xk43_30 : GoC fns Q s k43_30 st ↔ GoO fns Q s [⟨.move .take (.t 3), (some 139), none⟩,
    ⟨.fieldAddr 4 (.p 1), (some 140), none⟩,
    ⟨.load .look false 1 (.p 140), (some 141), none⟩,
    ⟨.call 47 [(.t 139, true), (.p 141, false)], (some 142), none⟩,
    ⟨.assign (.t 142), (some 3), none⟩] k43_29 st := goC_ops
def k43_31 : ACode :=
  .cond (.p 137) k43_30 .skip
@[simp] theorem xk43_31 : GoC fns Q s k43_31 st ↔ GB fns Q s (peek st (.p 137)) k43_30 .skip st := goC_cond
def k43_32 : ACode :=
  .ops [⟨.bin .eql 1 true (.p 8) (.c (.int .i64 19)), (some 138), none⟩,
    ⟨.assign (.p 138), (some 137), none⟩] k43_31
@[simp] theorem xk43_32 : GoC fns Q s k43_32 st ↔ GoO fns Q s [⟨.bin .eql 1 true (.p 8) (.c (.int .i64 19)), (some 138), none⟩,
    ⟨.assign (.p 138), (some 137), none⟩] k43_31 st := goC_ops
def k43_33 : ACode :=
  .cond (.p 115) k43_28 k43_32
@[simp] theorem xk43_33 : GoC fns Q s k43_33 st ↔ GB fns Q s (peek st (.p 115)) k43_28 k43_32 st := goC_cond
def k43_34 : ACode :=
  .ops [⟨.bin .eql 1 true (.p 8) (.c (.int .i64 15)), (some 116), none⟩,
    ⟨.assign (.p 116), (some 115), none⟩] k43_33
@[simp] theorem xk43_34 : GoC fns Q s k43_34 st ↔ GoO fns Q s [⟨.bin .eql 1 true (.p 8) (.c (.int .i64 15)), (some 116), none⟩,
    ⟨.assign (.p 116), (some 115), none⟩] k43_33 st := goC_ops
def k43_35 : ACode :=
  .cond (.p 105) k43_23 k43_34
@[simp] theorem xk43_35 : GoC fns Q s k43_35 st ↔ GB fns Q s (peek st (.p 105)) k43_23 k43_34 st := goC_cond
def k43_36 : ACode :=
  .ops [⟨.bin .eql 1 true (.p 8) (.c (.int .i64 12)), (some 106), none⟩,
    ⟨.assign (.p 106), (some 105), none⟩] k43_35
@[simp] theorem xk43_36 : GoC fns Q s k43_36 st ↔ GoO fns Q s [⟨.bin .eql 1 true (.p 8) (.c (.int .i64 12)), (some 106), none⟩,
    ⟨.assign (.p 106), (some 105), none⟩] k43_35 st := goC_ops
def k43_37 : ACode :=
  .cond (.p 89) k43_21 k43_36
@[simp] theorem xk43_37 : GoC fns Q s k43_37 st ↔ GB fns Q s (peek st (.p 89)) k43_21 k43_36 st := goC_cond
def k43_38 : ACode :=
  .ops [⟨.bin .eql 1 true (.p 8) (.c (.int .i64 11)), (some 90), none⟩,
    ⟨.assign (.p 90), (some 89), none⟩] k43_37
@[simp] theorem xk43_38 : GoC fns Q s k43_38 st ↔ GoO fns Q s [⟨.bin .eql 1 true (.p 8) (.c (.int .i64 11)), (some 90), none⟩,
    ⟨.assign (.p 90), (some 89), none⟩] k43_37 st := goC_ops
def k43_39 : ACode :=
  .cond (.p 83) k43_17 k43_38
@[simp] theorem xk43_39 : GoC fns Q s k43_39 st ↔ GB fns Q s (peek st (.p 83)) k43_17 k43_38 st := goC_cond
def k43_40 : ACode :=
  .ops [⟨.bin .eql 1 true (.p 8) (.c (.int .i64 16)), (some 84), none⟩,
    ⟨.assign (.p 84), (some 83), none⟩] k43_39
@[simp] theorem xk43_40 : GoC fns Q s k43_40 st ↔ GoO fns Q s [⟨.bin .eql 1 true (.p 8) (.c (.int .i64 16)), (some 84), none⟩,
    ⟨.assign (.p 84), (some 83), none⟩] k43_39 st := goC_ops
def k43_41 : ACode :=
  .cond (.p 75) k43_16 k43_40
@[simp] theorem xk43_41 : GoC fns Q s k43_41 st ↔ GB fns Q s (peek st (.p 75)) k43_16 k43_40 st := goC_cond
def k43_42 : ACode :=
  .ops [⟨.bin .eql 1 true (.p 8) (.c (.int .i64 18)), (some 77), none⟩,
    ⟨.assign (.p 77), (some 75), none⟩] .skip
@[simp] theorem xk43_42 : GoC fns Q s k43_42 st ↔ GoO fns Q s [⟨.bin .eql 1 true (.p 8) (.c (.int .i64 18)), (some 77), none⟩,
    ⟨.assign (.p 77), (some 75), none⟩] .skip st := goC_ops
def k43_43 : ACode :=
  .cond (.p 75) .skip k43_42
@[simp] theorem xk43_43 : GoC fns Q s k43_43 st ↔ GB fns Q s (peek st (.p 75)) .skip k43_42 st := goC_cond
def k43_44 : ACode :=
  .seq k43_43 k43_41
@[simp] theorem xk43_44 : GoC fns Q s k43_44 st ↔ GoC fns Q (.sq k43_41 :: s) k43_43 st := goC_seq
def k43_45 : ACode :=
  .ops [⟨.bin .eql 1 true (.p 8) (.c (.int .i64 9)), (some 76), none⟩,
    ⟨.assign (.p 76), (some 75), none⟩] k43_44
@[simp] theorem xk43_45 : GoC fns Q s k43_45 st ↔ GoO fns Q s [⟨.bin .eql 1 true (.p 8) (.c (.int .i64 9)), (some 76), none⟩,
    ⟨.assign (.p 76), (some 75), none⟩] k43_44 st := goC_ops
def k43_46 : ACode :=
  .cond (.p 67) k43_15 k43_45
@[simp] theorem xk43_46 : GoC fns Q s k43_46 st ↔ GB fns Q s (peek st (.p 67)) k43_15 k43_45 st := goC_cond
def k43_47 : ACode :=
  .ops [⟨.bin .eql 1 true (.p 8) (.c (.int .i64 8)), (some 68), none⟩,
    ⟨.assign (.p 68), (some 67), none⟩] k43_46
@[simp] theorem xk43_47 : GoC fns Q s k43_47 st ↔ GoO fns Q s [⟨.bin .eql 1 true (.p 8) (.c (.int .i64 8)), (some 68), none⟩,
    ⟨.assign (.p 68), (some 67), none⟩] k43_46 st := goC_ops
def k43_48 : ACode :=
  .cond (.p 61) k43_14 k43_47
@[simp] theorem xk43_48 : GoC fns Q s k43_48 st ↔ GB fns Q s (peek st (.p 61)) k43_14 k43_47 st := goC_cond
def k43_49 : ACode :=
  .ops [⟨.bin .eql 1 true (.p 8) (.c (.int .i64 7)), (some 62), none⟩,
    ⟨.assign (.p 62), (some 61), none⟩] k43_48
@[simp] theorem xk43_49 : GoC fns Q s k43_49 st ↔ GoO fns Q s [⟨.bin .eql 1 true (.p 8) (.c (.int .i64 7)), (some 62), none⟩,
    ⟨.assign (.p 62), (some 61), none⟩] k43_48 st := goC_ops
def k43_50 : ACode :=
  .cond (.p 30) k43_13 k43_49
@[simp] theorem xk43_50 : GoC fns Q s k43_50 st ↔ GB fns Q s (peek st (.p 30)) k43_13 k43_49 st := goC_cond
def k43_51 : ACode :=
  .ops [⟨.bin .eql 1 true (.p 8) (.c (.int .i64 5)), (some 31), none⟩,
    ⟨.assign (.p 31), (some 30), none⟩] k43_50
@[simp] theorem xk43_51 : GoC fns Q s k43_51 st ↔ GoO fns Q s [⟨.bin .eql 1 true (.p 8) (.c (.int .i64 5)), (some 31), none⟩,
    ⟨.assign (.p 31), (some 30), none⟩] k43_50 st := goC_ops
def k43_52 : ACode :=
  .cond (.p 24) k43_3 k43_51
@[simp] theorem xk43_52 : GoC fns Q s k43_52 st ↔ GB fns Q s (peek st (.p 24)) k43_3 k43_51 st := goC_cond
def k43_53 : ACode :=
  .ops [⟨.bin .eql 1 true (.p 8) (.c (.int .i64 4)), (some 26), none⟩,
    ⟨.assign (.p 26), (some 24), none⟩] .skip
@[simp] theorem xk43_53 : GoC fns Q s k43_53 st ↔ GoO fns Q s [⟨.bin .eql 1 true (.p 8) (.c (.int .i64 4)), (some 26), none⟩,
    ⟨.assign (.p 26), (some 24), none⟩] .skip st := goC_ops
def k43_54 : ACode :=
  .cond (.p 24) .skip k43_53
@[simp] theorem xk43_54 : GoC fns Q s k43_54 st ↔ GB fns Q s (peek st (.p 24)) .skip k43_53 st := goC_cond
def k43_55 : ACode :=
  .seq k43_54 k43_52
@[simp] theorem xk43_55 : GoC fns Q s k43_55 st ↔ GoC fns Q (.sq k43_52 :: s) k43_54 st := goC_seq
def k43_56 : ACode :=
  .ops [⟨.bin .eql 1 true (.p 8) (.c (.int .i64 3)), (some 25), none⟩,
    ⟨.assign (.p 25), (some 24), none⟩] k43_55
@[simp] theorem xk43_56 : GoC fns Q s k43_56 st ↔ GoO fns Q s [⟨.bin .eql 1 true (.p 8) (.c (.int .i64 3)), (some 25), none⟩,
    ⟨.assign (.p 25), (some 24), none⟩] k43_55 st := goC_ops
def k43_57 : ACode :=
  .cond (.p 16) k43_2 k43_56
@[simp] theorem xk43_57 : GoC fns Q s k43_57 st ↔ GB fns Q s (peek st (.p 16)) k43_2 k43_56 st := goC_cond
def k43_58 : ACode :=
  .ops [⟨.bin .eql 1 true (.p 8) (.c (.int .i64 14)), (some 19), none⟩,
    ⟨.assign (.p 19), (some 16), none⟩] .skip
@[simp] theorem xk43_58 : GoC fns Q s k43_58 st ↔ GoO fns Q s [⟨.bin .eql 1 true (.p 8) (.c (.int .i64 14)), (some 19), none⟩,
    ⟨.assign (.p 19), (some 16), none⟩] .skip st := goC_ops
def k43_59 : ACode :=
  .cond (.p 16) .skip k43_58
@[simp] theorem xk43_59 : GoC fns Q s k43_59 st ↔ GB fns Q s (peek st (.p 16)) .skip k43_58 st := goC_cond
def k43_60 : ACode :=
  .ops [⟨.bin .eql 1 true (.p 8) (.c (.int .i64 13)), (some 18), none⟩,
    ⟨.assign (.p 18), (some 16), none⟩] k43_59
@[simp] theorem xk43_60 : GoC fns Q s k43_60 st ↔ GoO fns Q s [⟨.bin .eql 1 true (.p 8) (.c (.int .i64 13)), (some 18), none⟩,
    ⟨.assign (.p 18), (some 16), none⟩] k43_59 st := goC_ops
def k43_61 : ACode :=
  .cond (.p 16) .skip k43_60
@[simp] theorem xk43_61 : GoC fns Q s k43_61 st ↔ GB fns Q s (peek st (.p 16)) .skip k43_60 st := goC_cond
def k43_62 : ACode :=
  .seq k43_61 k43_57
@[simp] theorem xk43_62 : GoC fns Q s k43_62 st ↔ GoC fns Q (.sq k43_57 :: s) k43_61 st := goC_seq
def k43_63 : ACode :=
  .ops [⟨.bin .eql 1 true (.p 8) (.c (.int .i64 2)), (some 17), none⟩,
    ⟨.assign (.p 17), (some 16), none⟩] k43_62
@[simp] theorem xk43_63 : GoC fns Q s k43_63 st ↔ GoO fns Q s [⟨.bin .eql 1 true (.p 8) (.c (.int .i64 2)), (some 17), none⟩,
    ⟨.assign (.p 17), (some 16), none⟩] k43_62 st := goC_ops
def k43_64 : ACode :=
  .cond (.p 9) k43_1 k43_63
@[simp] theorem xk43_64 : GoC fns Q s k43_64 st ↔ GB fns Q s (peek st (.p 9)) k43_1 k43_63 st := goC_cond
def k43_65 : ACode :=
  .ops [⟨.bin .eql 1 true (.p 8) (.c (.int .i64 17)), (some 11), none⟩,
    ⟨.assign (.p 11), (some 9), none⟩] .skip
@[simp] theorem xk43_65 : GoC fns Q s k43_65 st ↔ GoO fns Q s [⟨.bin .eql 1 true (.p 8) (.c (.int .i64 17)), (some 11), none⟩,
    ⟨.assign (.p 11), (some 9), none⟩] .skip st := goC_ops
def k43_66 : ACode :=
  .cond (.p 9) .skip k43_65
@[simp] theorem xk43_66 : GoC fns Q s k43_66 st ↔ GB fns Q s (peek st (.p 9)) .skip k43_65 st := goC_cond
def k43_67 : ACode :=
  .seq k43_66 k43_64
@[simp] theorem xk43_67 : GoC fns Q s k43_67 st ↔ GoC fns Q (.sq k43_64 :: s) k43_66 st := goC_seq
def k43_68 : ACode :=
  .ops [⟨.bin .eql 1 true (.p 8) (.c (.int .i64 1)), (some 10), none⟩,
    ⟨.assign (.p 10), (some 9), none⟩] k43_67
@[simp] theorem xk43_68 : GoC fns Q s k43_68 st ↔ GoO fns Q s [⟨.bin .eql 1 true (.p 8) (.c (.int .i64 1)), (some 10), none⟩,
    ⟨.assign (.p 10), (some 9), none⟩] k43_67 st := goC_ops
def k43_69 : ACode :=
  .block 0 k43_68
@[simp] theorem xk43_69 : GoC fns Q s k43_69 st ↔ GoC fns Q (.bl 0 :: s) k43_68 st := goC_block
def k43_70 : ACode :=
  .seq k43_69 k43_0
@[simp] theorem xk43_70 : GoC fns Q s k43_70 st ↔ GoC fns Q (.sq k43_0 :: s) k43_69 st := goC_seq
def k43_71 : ACode :=
  .ops [⟨.fieldAddr 0 (.p 1), (some 7), none⟩,
    ⟨.load .head false 1 (.p 7), (some 8), none⟩] k43_70
@[simp] theorem xk43_71 : GoC fns Q s k43_71 st ↔ GoO fns Q s [⟨.fieldAddr 0 (.p 1), (some 7), none⟩,
    ⟨.load .head false 1 (.p 7), (some 8), none⟩] k43_70 st := goC_ops
def k43_72 : ACode :=
  .ops [⟨.assign (.c (.slice .nil 0 1 [])), (some 3), none⟩] k43_71
@[simp] theorem xk43_72 : GoC fns Q s k43_72 st ↔ GoO fns Q s [⟨.assign (.c (.slice .nil 0 1 [])), (some 3), none⟩] k43_71 st := goC_ops
def k43_73 : ACode :=
  .ops [⟨.box 1 (.p 0), (some 1), none⟩,
    ⟨.assign (.c (.slice .nil 0 1 [])), (some 2), none⟩] k43_72
@[simp] theorem xk43_73 : GoC fns Q s k43_73 st ↔ GoO fns Q s [⟨.box 1 (.p 0), (some 1), none⟩,
    ⟨.assign (.c (.slice .nil 0 1 [])), (some 2), none⟩] k43_72 st := goC_ops
def af43 : AFunc := ⟨148, k43_73, [.tmp 2]⟩

theorem ok43 : ∃ hs, pFunc Try.prog sg hs Try.f43 = some af43 := ⟨fun i => 0, by kernel_rfl⟩
/-- No. 32 -/
def k32_0 : ACode :=
  .ops [⟨.fieldAddr 1 (.p 1), (some 3), none⟩,
    ⟨.fieldAddr 0 (.p 3), (some 4), none⟩,
    ⟨.load .look false 1 (.p 4), (some 5), none⟩,
    ⟨.fieldAddr 0 (.p 1), (some 6), none⟩,
    ⟨.load .look false 1 (.p 6), (some 7), none⟩,
    ⟨.fieldAddr 1 (.p 1), (some 9), none⟩,
    ⟨.load .look true 8 (.p 9), (some 10), none⟩,
    ⟨.call 23 [(.p 5, false), (.p 7, false)], (some 8), none⟩,
    ⟨.call 43 [(.p 10, false)], (some 11), none⟩,
    ⟨.append 5 1 1 false (.t 8) (.p 11), (some 12), none⟩,
    ⟨.assign (.t 12), (some 2), none⟩] .ret
@[simp] theorem xk32_0 : GoC fns Q s k32_0 st ↔ GoO fns Q s [⟨.fieldAddr 1 (.p 1), (some 3), none⟩,
    ⟨.fieldAddr 0 (.p 3), (some 4), none⟩,
    ⟨.load .look false 1 (.p 4), (some 5), none⟩,
    ⟨.fieldAddr 0 (.p 1), (some 6), none⟩,
    ⟨.load .look false 1 (.p 6), (some 7), none⟩,
    ⟨.fieldAddr 1 (.p 1), (some 9), none⟩,
    ⟨.load .look true 8 (.p 9), (some 10), none⟩,
    ⟨.call 23 [(.p 5, false), (.p 7, false)], (some 8), none⟩,
    ⟨.call 43 [(.p 10, false)], (some 11), none⟩,
    ⟨.append 5 1 1 false (.t 8) (.p 11), (some 12), none⟩,
    ⟨.assign (.t 12), (some 2), none⟩] .ret st := goC_ops
def k32_1 : ACode :=
  .ops [⟨.box 1 (.p 0), (some 1), none⟩,
    ⟨.assign (.c (.slice .nil 0 1 [])), (some 2), none⟩] k32_0
@[simp] theorem xk32_1 : GoC fns Q s k32_1 st ↔ GoO fns Q s [⟨.box 1 (.p 0), (some 1), none⟩,
    ⟨.assign (.c (.slice .nil 0 1 [])), (some 2), none⟩] k32_0 st := goC_ops
def af32 : AFunc := ⟨13, k32_1, [.tmp 2]⟩

theorem ok32 : ∃ hs, pFunc Try.prog sg hs Try.f32 = some af32 := ⟨fun i => 0, by kernel_rfl⟩
/-- No. 22 -/
def k22_0 : ACode :=
  .ops [⟨.move .take (.t 3), (some 19), none⟩,
    ⟨.assign (.t 19), (some 2), none⟩] .ret
@[simp] theorem xk22_0 : GoC fns Q s k22_0 st ↔ GoO fns Q s [⟨.move .take (.t 3), (some 19), none⟩,
    ⟨.assign (.t 19), (some 2), none⟩] .ret st := goC_ops
def k22_1 : ACode :=
  .ops [⟨.move .look (.p 4), (some 9), none⟩,
    ⟨.bin .add 1 true (.p 9) (.c (.int .i64 1)), (some 10), none⟩,
    ⟨.assign (.p 10), (some 4), none⟩] .skip
@[simp] theorem xk22_1 : GoC fns Q s k22_1 st ↔ GoO fns Q s [⟨.move .look (.p 4), (some 9), none⟩,
    ⟨.bin .add 1 true (.p 9) (.c (.int .i64 1)), (some 10), none⟩,
    ⟨.assign (.p 10), (some 4), none⟩] .skip st := goC_ops
def k22_2 : ACode :=
  .ops [⟨.move .take (.t 3), (some 11), none⟩,
    ⟨.move .look (.t 0), (some 12), none⟩,
    ⟨.move .look (.p 4), (some 13), none⟩,
    ⟨.indexAddr 9 (.t 12) (.p 13), (some 14), none⟩,
    ⟨.load .look true 9 (.p 14), (some 15), none⟩,
    ⟨.call 32 [(.p 15, false)], (some 16), none⟩,
    ⟨.buildSl 22 1 [.slice .nil 0 1 []] [(0, 1, .t 16)], (some 17), none⟩,
    ⟨.append 22 1 24 false (.t 11) (.p 17), (some 18), none⟩,
    ⟨.assign (.t 18), (some 3), none⟩] .skip
@[simp] theorem xk22_2 : GoC fns Q s k22_2 st ↔ GoO fns Q s [⟨.move .take (.t 3), (some 11), none⟩,
    ⟨.move .look (.t 0), (some 12), none⟩,
    ⟨.move .look (.p 4), (some 13), none⟩,
    ⟨.indexAddr 9 (.t 12) (.p 13), (some 14), none⟩,
    ⟨.load .look true 9 (.p 14), (some 15), none⟩,
    ⟨.call 32 [(.p 15, false)], (some 16), none⟩,
    ⟨.buildSl 22 1 [.slice .nil 0 1 []] [(0, 1, .t 16)], (some 17), none⟩,
    ⟨.append 22 1 24 false (.t 11) (.p 17), (some 18), none⟩,
    ⟨.assign (.t 18), (some 3), none⟩] .skip st := goC_ops
def k22_3 : ACode :=
  .block 1 k22_2
@[simp] theorem xk22_3 : GoC fns Q s k22_3 st ↔ GoC fns Q (.bl 1 :: s) k22_2 st := goC_block
def k22_4 : ACode :=
  .seq k22_3 k22_1
@[simp] theorem xk22_4 : GoC fns Q s k22_4 st ↔ GoC fns Q (.sq k22_1 :: s) k22_3 st := goC_seq
def k22_5 : ACode :=
  .cond (.p 8) .skip (.exit 0)
@[simp] theorem xk22_5 : GoC fns Q s k22_5 st ↔ GB fns Q s (peek st (.p 8)) .skip (.exit 0) st := goC_cond
def k22_6 : ACode :=
  .seq k22_5 k22_4
@[simp] theorem xk22_6 : GoC fns Q s k22_6 st ↔ GoC fns Q (.sq k22_4 :: s) k22_5 st := goC_seq
def k22_7 : ACode :=
  .ops [⟨.move .look (.p 4), (some 5), none⟩,
    ⟨.move .head (.t 0), (some 6), none⟩,
    ⟨.len false (.p 6), (some 7), none⟩,
    ⟨.bin .lss 1 false (.p 5) (.p 7), (some 8), none⟩] k22_6
@[simp] theorem xk22_7 : GoC fns Q s k22_7 st ↔ GoO fns Q s [⟨.move .look (.p 4), (some 5), none⟩,
    ⟨.move .head (.t 0), (some 6), none⟩,
    ⟨.len false (.p 6), (some 7), none⟩,
    ⟨.bin .lss 1 false (.p 5) (.p 7), (some 8), none⟩] k22_6 st := goC_ops
def lc22_0 : ACode :=
  k22_7
@[simp] theorem xlc22_0 : GoC fns Q s lc22_0 st ↔ GoC fns Q s k22_7 st := Iff.rfl
def k22_9 : ACode :=
  .loop lc22_0
@[simp] theorem xk22_9 : GoC fns Q s k22_9 st ↔ (Run (loopω fns lc22_0 st) fun r => GoE fns Q s r.1 r.2) := goC_loop
def k22_10 : ACode :=
  .block 0 k22_9
@[simp] theorem xk22_10 : GoC fns Q s k22_10 st ↔ GoC fns Q (.bl 0 :: s) k22_9 st := goC_block
def k22_11 : ACode :=
  .seq k22_10 k22_0
@[simp] theorem xk22_11 : GoC fns Q s k22_11 st ↔ GoC fns Q (.sq k22_0 :: s) k22_10 st := goC_seq
def k22_12 : ACode :=
  .ops [⟨.assign (.c (.int .i64 0)), (some 4), none⟩] k22_11
@[simp] theorem xk22_12 : GoC fns Q s k22_12 st ↔ GoO fns Q s [⟨.assign (.c (.int .i64 0)), (some 4), none⟩] k22_11 st := goC_ops
def k22_13 : ACode :=
  .ops [⟨.assign (.c (.slice .nil 0 1 [])), (some 3), none⟩] k22_12
@[simp] theorem xk22_13 : GoC fns Q s k22_13 st ↔ GoO fns Q s [⟨.assign (.c (.slice .nil 0 1 [])), (some 3), none⟩] k22_12 st := goC_ops
def k22_14 : ACode :=
  .ops [⟨.assign (.c (.slice .nil 0 1 [])), (some 2), none⟩] k22_13
@[simp] theorem xk22_14 : GoC fns Q s k22_14 st ↔ GoO fns Q s [⟨.assign (.c (.slice .nil 0 1 [])), (some 2), none⟩] k22_13 st := goC_ops
def af22 : AFunc := ⟨20, k22_14, [.tmp 2]⟩

theorem ok22 : ∃ hs, pFunc Try.prog sg hs Try.f22 = some af22 := ⟨fun i => 0, by kernel_rfl⟩
/-- No. 12 -/
def k12_0 : ACode :=
  .ops [⟨.buildSl 5 1 [] [], (some 3), none⟩,
    ⟨.move .look (.t 0), (some 4), none⟩,
    ⟨.append 5 1 1 false (.t 3) (.p 4), (some 5), none⟩,
    ⟨.assign (.t 5), (some 2), none⟩] .ret
@[simp] theorem xk12_0 : GoC fns Q s k12_0 st ↔ GoO fns Q s [⟨.buildSl 5 1 [] [], (some 3), none⟩,
    ⟨.move .look (.t 0), (some 4), none⟩,
    ⟨.append 5 1 1 false (.t 3) (.p 4), (some 5), none⟩,
    ⟨.assign (.t 5), (some 2), none⟩] .ret st := goC_ops
def k12_1 : ACode :=
  .ops [⟨.assign (.c (.slice .nil 0 1 [])), (some 2), none⟩] k12_0
@[simp] theorem xk12_1 : GoC fns Q s k12_1 st ↔ GoO fns Q s [⟨.assign (.c (.slice .nil 0 1 [])), (some 2), none⟩] k12_0 st := goC_ops
def af12 : AFunc := ⟨6, k12_1, [.tmp 2]⟩

theorem ok12 : ∃ hs, pFunc Try.prog sg hs Try.f12 = some af12 := ⟨fun i => 0, by kernel_rfl⟩
/-- No. 29 -/
def k29_0 : ACode :=
  .ops [⟨.move .look (.t 0), (some 3), none⟩,
    ⟨.append 5 1 1 false (.c (.slice .nil 0 1 [])) (.p 3), (some 4), none⟩,
    ⟨.assign (.t 4), (some 2), none⟩] .ret
@[simp] theorem xk29_0 : GoC fns Q s k29_0 st ↔ GoO fns Q s [⟨.move .look (.t 0), (some 3), none⟩,
    ⟨.append 5 1 1 false (.c (.slice .nil 0 1 [])) (.p 3), (some 4), none⟩,
    ⟨.assign (.t 4), (some 2), none⟩] .ret st := goC_ops
def k29_1 : ACode :=
  .ops [⟨.assign (.c (.slice .nil 0 1 [])), (some 2), none⟩] k29_0
@[simp] theorem xk29_1 : GoC fns Q s k29_1 st ↔ GoO fns Q s [⟨.assign (.c (.slice .nil 0 1 [])), (some 2), none⟩] k29_0 st := goC_ops
def af29 : AFunc := ⟨5, k29_1, [.tmp 2]⟩

theorem ok29 : ∃ hs, pFunc Try.prog sg hs Try.f29 = some af29 := ⟨fun i => 0, by kernel_rfl⟩
/-- No. 28 -/
def k28_0 : ACode :=
  .ops [⟨.move .look (.p 4), (some 7), none⟩,
    ⟨.convInt .i32 (.p 7), (some 8), none⟩,
    ⟨.move .take (.t 0), (some 9), none⟩,
    ⟨.buildSl 5 1 [.int .u8 0, .int .u8 0, .int .u8 0, .int .u8 0] [(0, 1, .c (.int .u8 0)), (1, 1, .c (.int .u8 0)), (2, 1, .c (.int .u8 0)), (3, 1, .c (.int .u8 0))], (some 10), none⟩,
    ⟨.append 5 1 1 false (.t 9) (.p 10), (some 11), none⟩,
    ⟨.assign (.p 8), (some 2), none⟩,
    ⟨.assign (.t 11), (some 3), none⟩] .ret
@[simp] theorem xk28_0 : GoC fns Q s k28_0 st ↔ GoO fns Q s [⟨.move .look (.p 4), (some 7), none⟩,
    ⟨.convInt .i32 (.p 7), (some 8), none⟩,
    ⟨.move .take (.t 0), (some 9), none⟩,
    ⟨.buildSl 5 1 [.int .u8 0, .int .u8 0, .int .u8 0, .int .u8 0] [(0, 1, .c (.int .u8 0)), (1, 1, .c (.int .u8 0)), (2, 1, .c (.int .u8 0)), (3, 1, .c (.int .u8 0))], (some 10), none⟩,
    ⟨.append 5 1 1 false (.t 9) (.p 10), (some 11), none⟩,
    ⟨.assign (.p 8), (some 2), none⟩,
    ⟨.assign (.t 11), (some 3), none⟩] .ret st := goC_ops
def k28_1 : ACode :=
  .ops [⟨.move .head (.t 0), (some 5), none⟩,
    ⟨.len false (.p 5), (some 6), none⟩,
    ⟨.assign (.p 6), (some 4), none⟩] k28_0
@[simp] theorem xk28_1 : GoC fns Q s k28_1 st ↔ GoO fns Q s [⟨.move .head (.t 0), (some 5), none⟩,
    ⟨.len false (.p 5), (some 6), none⟩,
    ⟨.assign (.p 6), (some 4), none⟩] k28_0 st := goC_ops
def k28_2 : ACode :=
  .ops [⟨.assign (.c (.int .i32 0)), (some 2), none⟩,
    ⟨.assign (.c (.slice .nil 0 1 [])), (some 3), none⟩] k28_1
@[simp] theorem xk28_2 : GoC fns Q s k28_2 st ↔ GoO fns Q s [⟨.assign (.c (.int .i32 0)), (some 2), none⟩,
    ⟨.assign (.c (.slice .nil 0 1 [])), (some 3), none⟩] k28_1 st := goC_ops
def af28 : AFunc := ⟨12, k28_2, [.tmp 2, .tmp 3]⟩

theorem ok28 : ∃ hs, pFunc Try.prog sg hs Try.f28 = some af28 := ⟨fun i => 0, by kernel_rfl⟩
/-- No. 39 -/
def k39_0 : ACode :=
  .ops [⟨.move .look (.m 1), (some 23), none⟩,
    ⟨.move .look (.p 2), (some 24), none⟩,
    ⟨.bin .shr 1 true (.p 24) (.c (.int .u64 24)), (some 25), none⟩,
    ⟨.convInt .u8 (.p 25), (some 26), none⟩,
    ⟨.indexAddr 1 (.m 23) (.c (.int .i64 3)), (some 27), none⟩,
    ⟨.store 1 (.p 27) (.p 26), none, none⟩] .ret
@[simp] theorem xk39_0 : GoC fns Q s k39_0 st ↔ GoO fns Q s [⟨.move .look (.m 1), (some 23), none⟩,
    ⟨.move .look (.p 2), (some 24), none⟩,
    ⟨.bin .shr 1 true (.p 24) (.c (.int .u64 24)), (some 25), none⟩,
    ⟨.convInt .u8 (.p 25), (some 26), none⟩,
    ⟨.indexAddr 1 (.m 23) (.c (.int .i64 3)), (some 27), none⟩,
    ⟨.store 1 (.p 27) (.p 26), none, none⟩] .ret st := goC_ops
def k39_1 : ACode :=
  .ops [⟨.move .look (.m 1), (some 18), none⟩,
    ⟨.move .look (.p 2), (some 19), none⟩,
    ⟨.bin .shr 1 true (.p 19) (.c (.int .u64 16)), (some 20), none⟩,
    ⟨.convInt .u8 (.p 20), (some 21), none⟩,
    ⟨.indexAddr 1 (.m 18) (.c (.int .i64 2)), (some 22), none⟩,
    ⟨.store 1 (.p 22) (.p 21), none, none⟩] k39_0
@[simp] theorem xk39_1 : GoC fns Q s k39_1 st ↔ GoO fns Q s [⟨.move .look (.m 1), (some 18), none⟩,
    ⟨.move .look (.p 2), (some 19), none⟩,
    ⟨.bin .shr 1 true (.p 19) (.c (.int .u64 16)), (some 20), none⟩,
    ⟨.convInt .u8 (.p 20), (some 21), none⟩,
    ⟨.indexAddr 1 (.m 18) (.c (.int .i64 2)), (some 22), none⟩,
    ⟨.store 1 (.p 22) (.p 21), none, none⟩] k39_0 st := goC_ops
def k39_2 : ACode :=
  .ops [⟨.move .look (.m 1), (some 13), none⟩,
    ⟨.move .look (.p 2), (some 14), none⟩,
    ⟨.bin .shr 1 true (.p 14) (.c (.int .u64 8)), (some 15), none⟩,
    ⟨.convInt .u8 (.p 15), (some 16), none⟩,
    ⟨.indexAddr 1 (.m 13) (.c (.int .i64 1)), (some 17), none⟩,
    ⟨.store 1 (.p 17) (.p 16), none, none⟩] k39_1
@[simp] theorem xk39_2 : GoC fns Q s k39_2 st ↔ GoO fns Q s [⟨.move .look (.m 1), (some 13), none⟩,
    ⟨.move .look (.p 2), (some 14), none⟩,
    ⟨.bin .shr 1 true (.p 14) (.c (.int .u64 8)), (some 15), none⟩,
    ⟨.convInt .u8 (.p 15), (some 16), none⟩,
    ⟨.indexAddr 1 (.m 13) (.c (.int .i64 1)), (some 17), none⟩,
    ⟨.store 1 (.p 17) (.p 16), none, none⟩] k39_1 st := goC_ops
def k39_3 : ACode :=
  .ops [⟨.move .look (.m 1), (some 9), none⟩,
    ⟨.move .look (.p 2), (some 10), none⟩,
    ⟨.convInt .u8 (.p 10), (some 11), none⟩,
    ⟨.indexAddr 1 (.m 9) (.c (.int .i64 0)), (some 12), none⟩,
    ⟨.store 1 (.p 12) (.p 11), none, none⟩] k39_2
@[simp] theorem xk39_3 : GoC fns Q s k39_3 st ↔ GoO fns Q s [⟨.move .look (.m 1), (some 9), none⟩,
    ⟨.move .look (.p 2), (some 10), none⟩,
    ⟨.convInt .u8 (.p 10), (some 11), none⟩,
    ⟨.indexAddr 1 (.m 9) (.c (.int .i64 0)), (some 12), none⟩,
    ⟨.store 1 (.p 12) (.p 11), none, none⟩] k39_2 st := goC_ops
def k39_4 : ACode :=
  .ops [⟨.move .look (.t 1), (some 6), none⟩,
    ⟨.indexAddr 1 (.t 6) (.c (.int .i64 3)), (some 7), none⟩,
    ⟨.load .head false 1 (.p 7), (some 8), none⟩] k39_3
@[simp] theorem xk39_4 : GoC fns Q s k39_4 st ↔ GoO fns Q s [⟨.move .look (.t 1), (some 6), none⟩,
    ⟨.indexAddr 1 (.t 6) (.c (.int .i64 3)), (some 7), none⟩,
    ⟨.load .head false 1 (.p 7), (some 8), none⟩] k39_3 st := goC_ops
def k39_5 : ACode :=
  .ops [⟨.box 3 (.p 0), (some 3), none⟩] k39_4
@[simp] theorem xk39_5 : GoC fns Q s k39_5 st ↔ GoO fns Q s [⟨.box 3 (.p 0), (some 3), none⟩] k39_4 st := goC_ops
def af39 : AFunc := ⟨28, k39_5, []⟩

theorem ok39 : ∃ hs, pFunc Try.prog sg hs Try.f39 = some af39 := ⟨fun i => if i == 9 then 1 else if i == 12 then 1 else if i == 13 then 1 else if i == 17 then 1 else if i == 18 then 1 else if i == 22 then 1 else if i == 23 then 1 else if i == 27 then 1 else 0, by kernel_rfl⟩
/-- No. 30 -/
def k30_0 : ACode :=
  .ops [⟨.move .take (.t 0), (some 14), none⟩,
    ⟨.assign (.t 14), (some 6), none⟩] .ret
@[simp] theorem xk30_0 : GoC fns Q s k30_0 st ↔ GoO fns Q s [⟨.move .take (.t 0), (some 14), none⟩,
    ⟨.assign (.t 14), (some 6), none⟩] .ret st := goC_ops
def k30_1 : ACode :=
  .ops [⟨.load .look true 0 (.c (.gl 0)), (some 7), none⟩,
    ⟨.move .look (.m 0), (some 8), none⟩,
    ⟨.move .head (.p 1), (some 9), none⟩,
    ⟨.sliceSl 1 (.m 8) (some (.p 9)) none, (some 10), none⟩,
    ⟨.move .look (.p 2), (some 11), none⟩,
    ⟨.convInt .u32 (.p 11), (some 12), none⟩,
    ⟨.hcall 39 [(.p 7, false), (.m 10, false), (.p 12, false)], (some 13), none⟩] k30_0
@[simp] theorem xk30_1 : GoC fns Q s k30_1 st ↔ GoO fns Q s [⟨.load .look true 0 (.c (.gl 0)), (some 7), none⟩,
    ⟨.move .look (.m 0), (some 8), none⟩,
    ⟨.move .head (.p 1), (some 9), none⟩,
    ⟨.sliceSl 1 (.m 8) (some (.p 9)) none, (some 10), none⟩,
    ⟨.move .look (.p 2), (some 11), none⟩,
    ⟨.convInt .u32 (.p 11), (some 12), none⟩,
    ⟨.hcall 39 [(.p 7, false), (.m 10, false), (.p 12, false)], (some 13), none⟩] k30_0 st := goC_ops
def k30_2 : ACode :=
  .ops [⟨.assign (.c (.slice .nil 0 1 [])), (some 6), none⟩] k30_1
@[simp] theorem xk30_2 : GoC fns Q s k30_2 st ↔ GoO fns Q s [⟨.assign (.c (.slice .nil 0 1 [])), (some 6), none⟩] k30_1 st := goC_ops
def af30 : AFunc := ⟨15, k30_2, [.tmp 6]⟩

theorem ok30 : ∃ hs, pFunc Try.prog sg hs Try.f30 = some af30 := ⟨fun i => if i == 8 then 1 else if i == 10 then 1 else 0, by kernel_rfl⟩
/-- No. 36 -/
def k36_0 : ACode :=
  .ops [⟨.move .take (.t 0), (some 34), none⟩,
    ⟨.assign (.t 34), (some 4), none⟩] .ret
@[simp] theorem xk36_0 : GoC fns Q s k36_0 st ↔ GoO fns Q s [⟨.move .take (.t 0), (some 34), none⟩,
    ⟨.assign (.t 34), (some 4), none⟩] .ret st := goC_ops
def k36_1 : ACode :=
  .ops [⟨.move .take (.t 0), (some 26), none⟩,
    ⟨.move .look (.p 5), (some 27), none⟩,
    ⟨.move .head (.t 0), (some 28), none⟩,
    ⟨.move .head (.p 5), (some 29), none⟩,
    ⟨.sliceSl 1 (.t 28) (some (.p 29)) none, (some 30), none⟩,
    ⟨.len false (.p 30), (some 31), none⟩,
    ⟨.convInt .i32 (.p 31), (some 32), none⟩,
    ⟨.call 30 [(.t 26, true), (.p 27, false), (.p 32, false)], (some 33), none⟩,
    ⟨.assign (.t 33), (some 0), none⟩] k36_0
@[simp] theorem xk36_1 : GoC fns Q s k36_1 st ↔ GoO fns Q s [⟨.move .take (.t 0), (some 26), none⟩,
    ⟨.move .look (.p 5), (some 27), none⟩,
    ⟨.move .head (.t 0), (some 28), none⟩,
    ⟨.move .head (.p 5), (some 29), none⟩,
    ⟨.sliceSl 1 (.t 28) (some (.p 29)) none, (some 30), none⟩,
    ⟨.len false (.p 30), (some 31), none⟩,
    ⟨.convInt .i32 (.p 31), (some 32), none⟩,
    ⟨.call 30 [(.t 26, true), (.p 27, false), (.p 32, false)], (some 33), none⟩,
    ⟨.assign (.t 33), (some 0), none⟩] k36_0 st := goC_ops
def k36_2 : ACode :=
  .ops [⟨.move .take (.t 0), (some 23), none⟩,
    ⟨.buildSl 5 1 [.int .u8 0] [(0, 1, .c (.int .u8 0))], (some 24), none⟩,
    ⟨.append 5 1 1 false (.t 23) (.p 24), (some 25), none⟩,
    ⟨.assign (.t 25), (some 0), none⟩] k36_1
@[simp] theorem xk36_2 : GoC fns Q s k36_2 st ↔ GoO fns Q s [⟨.move .take (.t 0), (some 23), none⟩,
    ⟨.buildSl 5 1 [.int .u8 0] [(0, 1, .c (.int .u8 0))], (some 24), none⟩,
    ⟨.append 5 1 1 false (.t 23) (.p 24), (some 25), none⟩,
    ⟨.assign (.t 25), (some 0), none⟩] k36_1 st := goC_ops
def k36_3 : ACode :=
  .ops [⟨.bin .add 1 true (.p 15) (.c (.int .i64 1)), (some 22), none⟩,
    ⟨.move .look (.p 22), (some 15), none⟩] .skip
@[simp] theorem xk36_3 : GoC fns Q s k36_3 st ↔ GoO fns Q s [⟨.bin .add 1 true (.p 15) (.c (.int .i64 1)), (some 22), none⟩,
    ⟨.move .look (.p 22), (some 15), none⟩] .skip st := goC_ops
def k36_4 : ACode :=
  .ops [⟨.move .take (.t 0), (some 19), none⟩,
    ⟨.move .look (.t 7), (some 20), none⟩,
    ⟨.append 5 1 1 false (.t 19) (.p 20), (some 21), none⟩,
    ⟨.assign (.t 21), (some 0), none⟩] .skip
@[simp] theorem xk36_4 : GoC fns Q s k36_4 st ↔ GoO fns Q s [⟨.move .take (.t 0), (some 19), none⟩,
    ⟨.move .look (.t 7), (some 20), none⟩,
    ⟨.append 5 1 1 false (.t 19) (.p 20), (some 21), none⟩,
    ⟨.assign (.t 21), (some 0), none⟩] .skip st := goC_ops
def k36_5 : ACode :=
  .ops [⟨.indexAddr 1 (.t 13) (.p 15), (some 17), none⟩,
    ⟨.load .take false 1 (.p 17), (some 18), none⟩,
    ⟨.assign (.t 18), (some 7), none⟩] k36_4
@[simp] theorem xk36_5 : GoC fns Q s k36_5 st ↔ GoO fns Q s [⟨.indexAddr 1 (.t 13) (.p 15), (some 17), none⟩,
    ⟨.load .take false 1 (.p 17), (some 18), none⟩,
    ⟨.assign (.t 18), (some 7), none⟩] k36_4 st := goC_ops
def k36_6 : ACode :=
  .block 1 k36_5
@[simp] theorem xk36_6 : GoC fns Q s k36_6 st ↔ GoC fns Q (.bl 1 :: s) k36_5 st := goC_block
def k36_7 : ACode :=
  .seq k36_6 k36_3
@[simp] theorem xk36_7 : GoC fns Q s k36_7 st ↔ GoC fns Q (.sq k36_3 :: s) k36_6 st := goC_seq
def k36_8 : ACode :=
  .cond (.p 16) .skip (.exit 0)
@[simp] theorem xk36_8 : GoC fns Q s k36_8 st ↔ GB fns Q s (peek st (.p 16)) .skip (.exit 0) st := goC_cond
def k36_9 : ACode :=
  .seq k36_8 k36_7
@[simp] theorem xk36_9 : GoC fns Q s k36_9 st ↔ GoC fns Q (.sq k36_7 :: s) k36_8 st := goC_seq
def k36_10 : ACode :=
  .ops [⟨.bin .lss 1 false (.p 15) (.p 14), (some 16), none⟩] k36_9
@[simp] theorem xk36_10 : GoC fns Q s k36_10 st ↔ GoO fns Q s [⟨.bin .lss 1 false (.p 15) (.p 14), (some 16), none⟩] k36_9 st := goC_ops
def lc36_0 : ACode :=
  k36_10
@[simp] theorem xlc36_0 : GoC fns Q s lc36_0 st ↔ GoC fns Q s k36_10 st := Iff.rfl
def k36_12 : ACode :=
  .loop lc36_0
@[simp] theorem xk36_12 : GoC fns Q s k36_12 st ↔ (Run (loopω fns lc36_0 st) fun r => GoE fns Q s r.1 r.2) := goC_loop
def k36_13 : ACode :=
  .block 0 k36_12
@[simp] theorem xk36_13 : GoC fns Q s k36_13 st ↔ GoC fns Q (.bl 0 :: s) k36_12 st := goC_block
def k36_14 : ACode :=
  .seq k36_13 k36_2
@[simp] theorem xk36_14 : GoC fns Q s k36_14 st ↔ GoC fns Q (.sq k36_2 :: s) k36_13 st := goC_seq
def k36_15 : ACode :=
  .ops [⟨.move .head (.t 1), (some 13), none⟩,
    ⟨.len false (.p 13), (some 14), none⟩,
    ⟨.move .head (.c (.int .i64 0)), (some 15), none⟩] k36_14
@[simp] theorem xk36_15 : GoC fns Q s k36_15 st ↔ GoO fns Q s [⟨.move .head (.t 1), (some 13), none⟩,
    ⟨.len false (.p 13), (some 14), none⟩,
    ⟨.move .head (.c (.int .i64 0)), (some 15), none⟩] k36_14 st := goC_ops
def k36_16 : ACode :=
  .ops [⟨.move .take (.t 0), (some 9), none⟩,
    ⟨.call 28 [(.t 9, true)], (some 10), none⟩,
    ⟨.move .look (.t 10), (some 8), none⟩,
    ⟨.extract 8 0, (some 11), none⟩,
    ⟨.extract 8 1, (some 12), none⟩,
    ⟨.assign (.p 11), (some 5), none⟩,
    ⟨.assign (.t 12), (some 0), none⟩] k36_15
@[simp] theorem xk36_16 : GoC fns Q s k36_16 st ↔ GoO fns Q s [⟨.move .take (.t 0), (some 9), none⟩,
    ⟨.call 28 [(.t 9, true)], (some 10), none⟩,
    ⟨.move .look (.t 10), (some 8), none⟩,
    ⟨.extract 8 0, (some 11), none⟩,
    ⟨.extract 8 1, (some 12), none⟩,
    ⟨.assign (.p 11), (some 5), none⟩,
    ⟨.assign (.t 12), (some 0), none⟩] k36_15 st := goC_ops
def k36_17 : ACode :=
  .ops [⟨.assign (.c (.slice .nil 0 1 [])), (some 4), none⟩] k36_16
@[simp] theorem xk36_17 : GoC fns Q s k36_17 st ↔ GoO fns Q s [⟨.assign (.c (.slice .nil 0 1 [])), (some 4), none⟩] k36_16 st := goC_ops
def af36 : AFunc := ⟨35, k36_17, [.tmp 4]⟩

theorem ok36 : ∃ hs, pFunc Try.prog sg hs Try.f36 = some af36 := ⟨fun i => 0, by kernel_rfl⟩
/-- No. 24 -/
def k24_0 : ACode :=
  .ops [⟨.move .look (.t 0), (some 5), none⟩,
    ⟨.call 29 [(.t 5, false)], (some 6), none⟩,
    ⟨.move .look (.t 1), (some 7), none⟩,
    ⟨.call 36 [(.t 6, true), (.t 7, false)], (some 8), none⟩,
    ⟨.assign (.t 8), (some 4), none⟩] .ret
@[simp] theorem xk24_0 : GoC fns Q s k24_0 st ↔ GoO fns Q s [⟨.move .look (.t 0), (some 5), none⟩,
    ⟨.call 29 [(.t 5, false)], (some 6), none⟩,
    ⟨.move .look (.t 1), (some 7), none⟩,
    ⟨.call 36 [(.t 6, true), (.t 7, false)], (some 8), none⟩,
    ⟨.assign (.t 8), (some 4), none⟩] .ret st := goC_ops
def k24_1 : ACode :=
  .ops [⟨.assign (.c (.slice .nil 0 1 [])), (some 4), none⟩] k24_0
@[simp] theorem xk24_1 : GoC fns Q s k24_1 st ↔ GoO fns Q s [⟨.assign (.c (.slice .nil 0 1 [])), (some 4), none⟩] k24_0 st := goC_ops
def af24 : AFunc := ⟨9, k24_1, [.tmp 4]⟩

theorem ok24 : ∃ hs, pFunc Try.prog sg hs Try.f24 = some af24 := ⟨fun i => 0, by kernel_rfl⟩
/-- No. 56 -/
def k56_0 : ACode :=
  .ops [⟨.assign (.c (.int .i64 (-1))), (some 4), none⟩] .ret
@[simp] theorem xk56_0 : GoC fns Q s k56_0 st ↔ GoO fns Q s [⟨.assign (.c (.int .i64 (-1))), (some 4), none⟩] .ret st := goC_ops
def k56_1 : ACode :=
  .ops [⟨.move .take (.p 5), (some 34), none⟩,
    ⟨.assign (.p 34), (some 4), none⟩] .ret
@[simp] theorem xk56_1 : GoC fns Q s k56_1 st ↔ GoO fns Q s [⟨.move .take (.p 5), (some 34), none⟩,
    ⟨.assign (.p 34), (some 4), none⟩] .ret st := goC_ops
def k56_2 : ACode :=
  .cond (.p 33) k56_1 .skip
@[simp] theorem xk56_2 : GoC fns Q s k56_2 st ↔ GB fns Q s (peek st (.p 33)) k56_1 .skip st := goC_cond
def k56_3 : ACode :=
  .ops [⟨.move .head (.p 6), (some 31), none⟩,
    ⟨.move .head (.p 1), (some 32), none⟩,
    ⟨.bin .eql 1 false (.p 31) (.p 32), (some 33), none⟩] k56_2
@[simp] theorem xk56_3 : GoC fns Q s k56_3 st ↔ GoO fns Q s [⟨.move .head (.p 6), (some 31), none⟩,
    ⟨.move .head (.p 1), (some 32), none⟩,
    ⟨.bin .eql 1 false (.p 31) (.p 32), (some 33), none⟩] k56_2 st := goC_ops
def k56_4 : ACode :=
  .ops [⟨.extract 27 1, (some 29), none⟩,
    ⟨.extract 27 2, (some 30), none⟩,
    ⟨.assign (.p 29), (some 5), none⟩,
    ⟨.assign (.p 30), (some 6), none⟩] k56_3
@[simp] theorem xk56_4 : GoC fns Q s k56_4 st ↔ GoO fns Q s [⟨.extract 27 1, (some 29), none⟩,
    ⟨.extract 27 2, (some 30), none⟩,
    ⟨.assign (.p 29), (some 5), none⟩,
    ⟨.assign (.p 30), (some 6), none⟩] k56_3 st := goC_ops
def k56_5 : ACode :=
  .block 1 k56_4
@[simp] theorem xk56_5 : GoC fns Q s k56_5 st ↔ GoC fns Q (.bl 1 :: s) k56_4 st := goC_block
def k56_6 : ACode :=
  .cond (.p 28) .skip (.exit 0)
@[simp] theorem xk56_6 : GoC fns Q s k56_6 st ↔ GB fns Q s (peek st (.p 28)) .skip (.exit 0) st := goC_cond
def k56_7 : ACode :=
  .seq k56_6 k56_5
@[simp] theorem xk56_7 : GoC fns Q s k56_7 st ↔ GoC fns Q (.sq k56_5 :: s) k56_6 st := goC_seq
def k56_8 : ACode :=
  .ops [⟨.next (.p 26), (some 27), none⟩,
    ⟨.extract 27 0, (some 28), none⟩] k56_7
@[simp] theorem xk56_8 : GoC fns Q s k56_8 st ↔ GoO fns Q s [⟨.next (.p 26), (some 27), none⟩,
    ⟨.extract 27 0, (some 28), none⟩] k56_7 st := goC_ops
def lc56_0 : ACode :=
  k56_8
@[simp] theorem xlc56_0 : GoC fns Q s lc56_0 st ↔ GoC fns Q s k56_8 st := Iff.rfl
def k56_10 : ACode :=
  .loop lc56_0
@[simp] theorem xk56_10 : GoC fns Q s k56_10 st ↔ (Run (loopω fns lc56_0 st) fun r => GoE fns Q s r.1 r.2) := goC_loop
def k56_11 : ACode :=
  .block 0 k56_10
@[simp] theorem xk56_11 : GoC fns Q s k56_11 st ↔ GoC fns Q (.bl 0 :: s) k56_10 st := goC_block
def k56_12 : ACode :=
  .seq k56_11 k56_0
@[simp] theorem xk56_12 : GoC fns Q s k56_12 st ↔ GoC fns Q (.sq k56_0 :: s) k56_11 st := goC_seq
def k56_13 : ACode :=
  .ops [⟨.move .look (.p 0), (some 25), none⟩,
    ⟨.range 26 (.p 25), (some 26), none⟩] k56_12
@[simp] theorem xk56_13 : GoC fns Q s k56_13 st ↔ GoO fns Q s [⟨.move .look (.p 0), (some 25), none⟩,
    ⟨.range 26 (.p 25), (some 26), none⟩] k56_12 st := goC_ops
def k56_14 : ACode :=
  .ops [⟨.assign (.c (.int .i64 (-1))), (some 4), none⟩] .ret
@[simp] theorem xk56_14 : GoC fns Q s k56_14 st ↔ GoO fns Q s [⟨.assign (.c (.int .i64 (-1))), (some 4), none⟩] .ret st := goC_ops
def k56_15 : ACode :=
  .cond (.p 24) k56_14 .skip
@[simp] theorem xk56_15 : GoC fns Q s k56_15 st ↔ GB fns Q s (peek st (.p 24)) k56_14 .skip st := goC_cond
def k56_16 : ACode :=
  .seq k56_15 k56_13
@[simp] theorem xk56_16 : GoC fns Q s k56_16 st ↔ GoC fns Q (.sq k56_13 :: s) k56_15 st := goC_seq
def k56_17 : ACode :=
  .ops [⟨.move .head (.p 1), (some 7), none⟩,
    ⟨.bin .neq 1 true (.p 7) (.c (.int .i32 65533)), (some 8), none⟩,
    ⟨.move .look (.p 8), (some 9), none⟩,
    ⟨.move .look (.p 1), (some 10), (some (9, true))⟩,
    ⟨.bin .lss 1 true (.p 10) (.c (.int .i32 0)), (some 11), (some (9, true))⟩,
    ⟨.move .look (.p 11), (some 12), (some (9, true))⟩,
    ⟨.move .look (.p 1), (some 13), (some (12, false))⟩,
    ⟨.bin .gtr 1 true (.p 13) (.c (.int .i32 1114111)), (some 14), (some (12, false))⟩,
    ⟨.pick (.p 12) (.c (.bool true)) (.p 14), (some 15), (some (9, true))⟩,
    ⟨.move .look (.p 15), (some 16), (some (9, true))⟩,
    ⟨.move .look (.p 1), (some 17), (some (16, false))⟩,
    ⟨.bin .leq 1 true (.c (.int .i32 55296)) (.p 17), (some 18), (some (16, false))⟩,
    ⟨.move .look (.p 18), (some 19), (some (16, false))⟩,
    ⟨.move .look (.p 1), (some 20), (some (19, true))⟩,
    ⟨.bin .leq 1 true (.p 20) (.c (.int .i32 57343)), (some 21), (some (19, true))⟩,
    ⟨.pick (.p 19) (.p 21) (.c (.bool false)), (some 22), (some (16, false))⟩,
    ⟨.pick (.p 16) (.c (.bool true)) (.p 22), (some 23), (some (9, true))⟩,
    ⟨.pick (.p 9) (.p 23) (.c (.bool false)), (some 24), none⟩] k56_16
@[simp] theorem xk56_17 : GoC fns Q s k56_17 st ↔ GoO fns Q s [⟨.move .head (.p 1), (some 7), none⟩,
    ⟨.bin .neq 1 true (.p 7) (.c (.int .i32 65533)), (some 8), none⟩,
    ⟨.move .look (.p 8), (some 9), none⟩,
    ⟨.move .look (.p 1), (some 10), (some (9, true))⟩,
    ⟨.bin .lss 1 true (.p 10) (.c (.int .i32 0)), (some 11), (some (9, true))⟩,
    ⟨.move .look (.p 11), (some 12), (some (9, true))⟩,
    ⟨.move .look (.p 1), (some 13), (some (12, false))⟩,
    ⟨.bin .gtr 1 true (.p 13) (.c (.int .i32 1114111)), (some 14), (some (12, false))⟩,
    ⟨.pick (.p 12) (.c (.bool true)) (.p 14), (some 15), (some (9, true))⟩,
    ⟨.move .look (.p 15), (some 16), (some (9, true))⟩,
    ⟨.move .look (.p 1), (some 17), (some (16, false))⟩,
    ⟨.bin .leq 1 true (.c (.int .i32 55296)) (.p 17), (some 18), (some (16, false))⟩,
    ⟨.move .look (.p 18), (some 19), (some (16, false))⟩,
    ⟨.move .look (.p 1), (some 20), (some (19, true))⟩,
    ⟨.bin .leq 1 true (.p 20) (.c (.int .i32 57343)), (some 21), (some (19, true))⟩,
    ⟨.pick (.p 19) (.p 21) (.c (.bool false)), (some 22), (some (16, false))⟩,
    ⟨.pick (.p 16) (.c (.bool true)) (.p 22), (some 23), (some (9, true))⟩,
    ⟨.pick (.p 9) (.p 23) (.c (.bool false)), (some 24), none⟩] k56_16 st := goC_ops
def k56_18 : ACode :=
  .ops [⟨.assign (.c (.int .i64 0)), (some 4), none⟩] k56_17
@[simp] theorem xk56_18 : GoC fns Q s k56_18 st ↔ GoO fns Q s [⟨.assign (.c (.int .i64 0)), (some 4), none⟩] k56_17 st := goC_ops
def af56 : AFunc := ⟨35, k56_18, [.tmp 4]⟩

theorem ok56 : ∃ hs, pFunc Try.prog sg hs Try.f56 = some af56 := ⟨fun i => 0, by kernel_rfl⟩
/-- No. 55 -/
def k55_0 : ACode :=
  .ops [⟨.move .look (.p 0), (some 5), none⟩,
    ⟨.move .look (.p 1), (some 6), none⟩,
    ⟨.call 56 [(.p 5, false), (.p 6, false)], (some 7), none⟩,
    ⟨.bin .geq 1 true (.p 7) (.c (.int .i64 0)), (some 8), none⟩,
    ⟨.assign (.p 8), (some 4), none⟩] .ret
@[simp] theorem xk55_0 : GoC fns Q s k55_0 st ↔ GoO fns Q s [⟨.move .look (.p 0), (some 5), none⟩,
    ⟨.move .look (.p 1), (some 6), none⟩,
    ⟨.call 56 [(.p 5, false), (.p 6, false)], (some 7), none⟩,
    ⟨.bin .geq 1 true (.p 7) (.c (.int .i64 0)), (some 8), none⟩,
    ⟨.assign (.p 8), (some 4), none⟩] .ret st := goC_ops
def k55_1 : ACode :=
  .ops [⟨.assign (.c (.bool false)), (some 4), none⟩] k55_0
@[simp] theorem xk55_1 : GoC fns Q s k55_1 st ↔ GoO fns Q s [⟨.assign (.c (.bool false)), (some 4), none⟩] k55_0 st := goC_ops
def af55 : AFunc := ⟨9, k55_1, [.tmp 4]⟩

theorem ok55 : ∃ hs, pFunc Try.prog sg hs Try.f55 = some af55 := ⟨fun i => 0, by kernel_rfl⟩
/-- No. 50 -/
def k50_0 : ACode :=
  .ops [⟨.move .look (.p 0), (some 3), none⟩,
    ⟨.call 55 [(.p 3, false), (.c (.int .i32 0), false)], (some 4), none⟩,
    ⟨.un .not (.p 4), (some 5), none⟩,
    ⟨.assign (.p 5), (some 2), none⟩] .ret
@[simp] theorem xk50_0 : GoC fns Q s k50_0 st ↔ GoO fns Q s [⟨.move .look (.p 0), (some 3), none⟩,
    ⟨.call 55 [(.p 3, false), (.c (.int .i32 0), false)], (some 4), none⟩,
    ⟨.un .not (.p 4), (some 5), none⟩,
    ⟨.assign (.p 5), (some 2), none⟩] .ret st := goC_ops
def k50_1 : ACode :=
  .ops [⟨.assign (.c (.bool false)), (some 2), none⟩] k50_0
@[simp] theorem xk50_1 : GoC fns Q s k50_1 st ↔ GoO fns Q s [⟨.assign (.c (.bool false)), (some 2), none⟩] k50_0 st := goC_ops
def af50 : AFunc := ⟨6, k50_1, [.tmp 2]⟩

theorem ok50 : ∃ hs, pFunc Try.prog sg hs Try.f50 = some af50 := ⟨fun i => 0, by kernel_rfl⟩
/-- No. 51 -/
def k51_0 : ACode :=
  .ops [⟨.move .take (.t 0), (some 5), none⟩,
    ⟨.move .look (.p 1), (some 6), none⟩,
    ⟨.buildSl 5 1 [.int .u8 0] [(0, 1, .p 6)], (some 7), none⟩,
    ⟨.append 5 1 1 false (.t 5) (.p 7), (some 8), none⟩,
    ⟨.assign (.t 8), (some 4), none⟩] .ret
@[simp] theorem xk51_0 : GoC fns Q s k51_0 st ↔ GoO fns Q s [⟨.move .take (.t 0), (some 5), none⟩,
    ⟨.move .look (.p 1), (some 6), none⟩,
    ⟨.buildSl 5 1 [.int .u8 0] [(0, 1, .p 6)], (some 7), none⟩,
    ⟨.append 5 1 1 false (.t 5) (.p 7), (some 8), none⟩,
    ⟨.assign (.t 8), (some 4), none⟩] .ret st := goC_ops
def k51_1 : ACode :=
  .ops [⟨.assign (.c (.slice .nil 0 1 [])), (some 4), none⟩] k51_0
@[simp] theorem xk51_1 : GoC fns Q s k51_1 st ↔ GoO fns Q s [⟨.assign (.c (.slice .nil 0 1 [])), (some 4), none⟩] k51_0 st := goC_ops
def af51 : AFunc := ⟨9, k51_1, [.tmp 4]⟩

theorem ok51 : ∃ hs, pFunc Try.prog sg hs Try.f51 = some af51 := ⟨fun i => 0, by kernel_rfl⟩
/-- No. 45 -/
def k45_0 : ACode :=
  .ops [⟨.move .take (.t 0), (some 17), none⟩,
    ⟨.buildSl 5 1 [.int .u8 0] [(0, 1, .c (.int .u8 0))], (some 18), none⟩,
    ⟨.append 5 1 1 false (.t 17) (.p 18), (some 19), none⟩,
    ⟨.assign (.t 19), (some 6), none⟩] .ret
@[simp] theorem xk45_0 : GoC fns Q s k45_0 st ↔ GoO fns Q s [⟨.move .take (.t 0), (some 17), none⟩,
    ⟨.buildSl 5 1 [.int .u8 0] [(0, 1, .c (.int .u8 0))], (some 18), none⟩,
    ⟨.append 5 1 1 false (.t 17) (.p 18), (some 19), none⟩,
    ⟨.assign (.t 19), (some 6), none⟩] .ret st := goC_ops
def k45_1 : ACode :=
  .ops [⟨.move .take (.t 0), (some 14), none⟩,
    ⟨.move .look (.p 2), (some 15), none⟩,
    ⟨.append 5 1 1 true (.t 14) (.p 15), (some 16), none⟩,
    ⟨.assign (.t 16), (some 0), none⟩] k45_0
@[simp] theorem xk45_1 : GoC fns Q s k45_1 st ↔ GoO fns Q s [⟨.move .take (.t 0), (some 14), none⟩,
    ⟨.move .look (.p 2), (some 15), none⟩,
    ⟨.append 5 1 1 true (.t 14) (.p 15), (some 16), none⟩,
    ⟨.assign (.t 16), (some 0), none⟩] k45_0 st := goC_ops
def k45_2 : ACode :=
  .ops [⟨.move .take (.t 0), (some 11), none⟩,
    ⟨.move .look (.p 1), (some 12), none⟩,
    ⟨.call 51 [(.t 11, true), (.p 12, false)], (some 13), none⟩,
    ⟨.assign (.t 13), (some 0), none⟩] k45_1
@[simp] theorem xk45_2 : GoC fns Q s k45_2 st ↔ GoO fns Q s [⟨.move .take (.t 0), (some 11), none⟩,
    ⟨.move .look (.p 1), (some 12), none⟩,
    ⟨.call 51 [(.t 11, true), (.p 12, false)], (some 13), none⟩,
    ⟨.assign (.t 13), (some 0), none⟩] k45_1 st := goC_ops
def k45_3 : ACode :=
  .ops [⟨.mkIface 9 (.c (.str [66, 83, 79, 78, 32, 101, 108, 101, 109, 101, 110, 116, 32, 107, 101, 121, 115, 32, 99, 97, 110, 110, 111, 116, 32, 99, 111, 110, 116, 97, 105, 110, 32, 110, 117, 108, 108, 32, 98, 121, 116, 101, 115])), (some 10), none⟩,
    ⟨.dead, none, none⟩] .skip
@[simp] theorem xk45_3 : GoC fns Q s k45_3 st ↔ GoO fns Q s [⟨.mkIface 9 (.c (.str [66, 83, 79, 78, 32, 101, 108, 101, 109, 101, 110, 116, 32, 107, 101, 121, 115, 32, 99, 97, 110, 110, 111, 116, 32, 99, 111, 110, 116, 97, 105, 110, 32, 110, 117, 108, 108, 32, 98, 121, 116, 101, 115])), (some 10), none⟩,
    ⟨.dead, none, none⟩] .skip st := goC_ops
def k45_4 : ACode :=
  .cond (.p 9) k45_3 .skip
@[simp] theorem xk45_4 : GoC fns Q s k45_4 st ↔ GB fns Q s (peek st (.p 9)) k45_3 .skip st := goC_cond
def k45_5 : ACode :=
  .seq k45_4 k45_2
@[simp] theorem xk45_5 : GoC fns Q s k45_5 st ↔ GoC fns Q (.sq k45_2 :: s) k45_4 st := goC_seq
def k45_6 : ACode :=
  .ops [⟨.move .look (.p 2), (some 7), none⟩,
    ⟨.call 50 [(.p 7, false)], (some 8), none⟩,
    ⟨.un .not (.p 8), (some 9), none⟩] k45_5
@[simp] theorem xk45_6 : GoC fns Q s k45_6 st ↔ GoO fns Q s [⟨.move .look (.p 2), (some 7), none⟩,
    ⟨.call 50 [(.p 7, false)], (some 8), none⟩,
    ⟨.un .not (.p 8), (some 9), none⟩] k45_5 st := goC_ops
def k45_7 : ACode :=
  .ops [⟨.assign (.c (.slice .nil 0 1 [])), (some 6), none⟩] k45_6
@[simp] theorem xk45_7 : GoC fns Q s k45_7 st ↔ GoO fns Q s [⟨.assign (.c (.slice .nil 0 1 [])), (some 6), none⟩] k45_6 st := goC_ops
def af45 : AFunc := ⟨20, k45_7, [.tmp 6]⟩

theorem ok45 : ∃ hs, pFunc Try.prog sg hs Try.f45 = some af45 := ⟨fun i => 0, by kernel_rfl⟩
/-- No. 37 -/
def k37_0 : ACode :=
  .ops [⟨.move .take (.t 0), (some 7), none⟩,
    ⟨.move .look (.p 1), (some 8), none⟩,
    ⟨.call 45 [(.t 7, true), (.c (.int .u8 3), false), (.p 8, false)], (some 9), none⟩,
    ⟨.move .look (.t 2), (some 10), none⟩,
    ⟨.call 36 [(.t 9, true), (.t 10, false)], (some 11), none⟩,
    ⟨.assign (.t 11), (some 6), none⟩] .ret
@[simp] theorem xk37_0 : GoC fns Q s k37_0 st ↔ GoO fns Q s [⟨.move .take (.t 0), (some 7), none⟩,
    ⟨.move .look (.p 1), (some 8), none⟩,
    ⟨.call 45 [(.t 7, true), (.c (.int .u8 3), false), (.p 8, false)], (some 9), none⟩,
    ⟨.move .look (.t 2), (some 10), none⟩,
    ⟨.call 36 [(.t 9, true), (.t 10, false)], (some 11), none⟩,
    ⟨.assign (.t 11), (some 6), none⟩] .ret st := goC_ops
def k37_1 : ACode :=
  .ops [⟨.assign (.c (.slice .nil 0 1 [])), (some 6), none⟩] k37_0
@[simp] theorem xk37_1 : GoC fns Q s k37_1 st ↔ GoO fns Q s [⟨.assign (.c (.slice .nil 0 1 [])), (some 6), none⟩] k37_0 st := goC_ops
def af37 : AFunc := ⟨12, k37_1, [.tmp 6]⟩

theorem ok37 : ∃ hs, pFunc Try.prog sg hs Try.f37 = some af37 := ⟨fun i => 0, by kernel_rfl⟩
/-- No. 25 -/
def k25_0 : ACode :=
  .ops [⟨.move .look (.t 0), (some 7), none⟩,
    ⟨.call 29 [(.t 7, false)], (some 8), none⟩,
    ⟨.move .look (.p 1), (some 9), none⟩,
    ⟨.move .look (.t 2), (some 10), none⟩,
    ⟨.call 37 [(.t 8, true), (.p 9, false), (.t 10, false)], (some 11), none⟩,
    ⟨.assign (.t 11), (some 6), none⟩] .ret
@[simp] theorem xk25_0 : GoC fns Q s k25_0 st ↔ GoO fns Q s [⟨.move .look (.t 0), (some 7), none⟩,
    ⟨.call 29 [(.t 7, false)], (some 8), none⟩,
    ⟨.move .look (.p 1), (some 9), none⟩,
    ⟨.move .look (.t 2), (some 10), none⟩,
    ⟨.call 37 [(.t 8, true), (.p 9, false), (.t 10, false)], (some 11), none⟩,
    ⟨.assign (.t 11), (some 6), none⟩] .ret st := goC_ops
def k25_1 : ACode :=
  .ops [⟨.assign (.c (.slice .nil 0 1 [])), (some 6), none⟩] k25_0
@[simp] theorem xk25_1 : GoC fns Q s k25_1 st ↔ GoO fns Q s [⟨.assign (.c (.slice .nil 0 1 [])), (some 6), none⟩] k25_0 st := goC_ops
def af25 : AFunc := ⟨12, k25_1, [.tmp 6]⟩

theorem ok25 : ∃ hs, pFunc Try.prog sg hs Try.f25 = some af25 := ⟨fun i => 0, by kernel_rfl⟩
/-- No. 7 -/
def k7_0 : ACode :=
  .ops [⟨.move .look (.t 0), (some 51), none⟩,
    ⟨.move .look (.t 7), (some 53), none⟩,
    ⟨.move .look (.t 0), (some 56), none⟩,
    ⟨.convBS (.t 56), (some 57), none⟩,
    ⟨.move .look (.t 8), (some 58), none⟩,
    ⟨.convBS (.t 58), (some 59), none⟩,
    ⟨.bin .add 2 false (.p 57) (.p 59), (some 60), none⟩,
    ⟨.call 12 [(.t 51, false)], (some 52), none⟩,
    ⟨.call 24 [(.t 52, false), (.t 53, false)], (some 54), none⟩,
    ⟨.convBS (.t 54), (some 55), none⟩,
    ⟨.bin .eql 2 false (.p 55) (.p 60), (some 61), none⟩,
    ⟨.move .look (.p 61), (some 62), none⟩,
    ⟨.move .look (.t 0), (some 63), (some (62, true))⟩,
    ⟨.move .look (.p 1), (some 65), (some (62, true))⟩,
    ⟨.move .look (.t 7), (some 66), (some (62, true))⟩,
    ⟨.move .look (.p 9), (some 69), (some (62, true))⟩,
    ⟨.move .look (.t 8), (some 70), (some (62, true))⟩,
    ⟨.convBS (.t 70), (some 71), (some (62, true))⟩,
    ⟨.bin .add 2 false (.p 69) (.p 71), (some 72), (some (62, true))⟩,
    ⟨.call 12 [(.t 63, false)], (some 64), (some (62, true))⟩,
    ⟨.call 25 [(.t 64, false), (.p 65, false), (.t 66, false)], (some 67), (some (62, true))⟩,
    ⟨.convBS (.t 67), (some 68), (some (62, true))⟩,
    ⟨.bin .eql 2 false (.p 68) (.p 72), (some 73), (some (62, true))⟩,
    ⟨.pick (.p 62) (.p 73) (.c (.bool false)), (some 74), none⟩,
    ⟨.assign (.p 74), (some 6), none⟩] .ret
@[simp] theorem xk7_0 : GoC fns Q s k7_0 st ↔ GoO fns Q s [⟨.move .look (.t 0), (some 51), none⟩,
    ⟨.move .look (.t 7), (some 53), none⟩,
    ⟨.move .look (.t 0), (some 56), none⟩,
    ⟨.convBS (.t 56), (some 57), none⟩,
    ⟨.move .look (.t 8), (some 58), none⟩,
    ⟨.convBS (.t 58), (some 59), none⟩,
    ⟨.bin .add 2 false (.p 57) (.p 59), (some 60), none⟩,
    ⟨.call 12 [(.t 51, false)], (some 52), none⟩,
    ⟨.call 24 [(.t 52, false), (.t 53, false)], (some 54), none⟩,
    ⟨.convBS (.t 54), (some 55), none⟩,
    ⟨.bin .eql 2 false (.p 55) (.p 60), (some 61), none⟩,
    ⟨.move .look (.p 61), (some 62), none⟩,
    ⟨.move .look (.t 0), (some 63), (some (62, true))⟩,
    ⟨.move .look (.p 1), (some 65), (some (62, true))⟩,
    ⟨.move .look (.t 7), (some 66), (some (62, true))⟩,
    ⟨.move .look (.p 9), (some 69), (some (62, true))⟩,
    ⟨.move .look (.t 8), (some 70), (some (62, true))⟩,
    ⟨.convBS (.t 70), (some 71), (some (62, true))⟩,
    ⟨.bin .add 2 false (.p 69) (.p 71), (some 72), (some (62, true))⟩,
    ⟨.call 12 [(.t 63, false)], (some 64), (some (62, true))⟩,
    ⟨.call 25 [(.t 64, false), (.p 65, false), (.t 66, false)], (some 67), (some (62, true))⟩,
    ⟨.convBS (.t 67), (some 68), (some (62, true))⟩,
    ⟨.bin .eql 2 false (.p 68) (.p 72), (some 73), (some (62, true))⟩,
    ⟨.pick (.p 62) (.p 73) (.c (.bool false)), (some 74), none⟩,
    ⟨.assign (.p 74), (some 6), none⟩] .ret st := goC_ops
def k7_1 : ACode :=
  .ops [⟨.move .look (.t 0), (some 45), none⟩,
    ⟨.convBS (.t 45), (some 46), none⟩,
    ⟨.move .look (.p 1), (some 47), none⟩,
    ⟨.call 23 [(.c (.int .i64 3), false), (.p 47, false)], (some 48), none⟩,
    ⟨.convBS (.t 48), (some 49), none⟩,
    ⟨.bin .add 2 false (.p 46) (.p 49), (some 50), none⟩,
    ⟨.assign (.p 50), (some 9), none⟩] k7_0
@[simp] theorem xk7_1 : GoC fns Q s k7_1 st ↔ GoO fns Q s [⟨.move .look (.t 0), (some 45), none⟩,
    ⟨.convBS (.t 45), (some 46), none⟩,
    ⟨.move .look (.p 1), (some 47), none⟩,
    ⟨.call 23 [(.c (.int .i64 3), false), (.p 47, false)], (some 48), none⟩,
    ⟨.convBS (.t 48), (some 49), none⟩,
    ⟨.bin .add 2 false (.p 46) (.p 49), (some 50), none⟩,
    ⟨.assign (.p 50), (some 9), none⟩] k7_0 st := goC_ops
def k7_2 : ACode :=
  .ops [⟨.move .look (.t 2), (some 43), none⟩,
    ⟨.call 16 [(.t 43, false)], (some 44), none⟩,
    ⟨.assign (.t 44), (some 8), none⟩] k7_1
@[simp] theorem xk7_2 : GoC fns Q s k7_2 st ↔ GoO fns Q s [⟨.move .look (.t 2), (some 43), none⟩,
    ⟨.call 16 [(.t 43, false)], (some 44), none⟩,
    ⟨.assign (.t 44), (some 8), none⟩] k7_1 st := goC_ops
def k7_3 : ACode :=
  .ops [⟨.move .look (.t 2), (some 41), none⟩,
    ⟨.call 22 [(.t 41, false)], (some 42), none⟩,
    ⟨.assign (.t 42), (some 7), none⟩] k7_2
@[simp] theorem xk7_3 : GoC fns Q s k7_3 st ↔ GoO fns Q s [⟨.move .look (.t 2), (some 41), none⟩,
    ⟨.call 22 [(.t 41, false)], (some 42), none⟩,
    ⟨.assign (.t 42), (some 7), none⟩] k7_2 st := goC_ops
def k7_4 : ACode :=
  .ops [⟨.assign (.c (.bool true)), (some 6), none⟩] .ret
@[simp] theorem xk7_4 : GoC fns Q s k7_4 st ↔ GoO fns Q s [⟨.assign (.c (.bool true)), (some 6), none⟩] .ret st := goC_ops
def k7_5 : ACode :=
  .cond (.p 40) k7_4 .skip
@[simp] theorem xk7_5 : GoC fns Q s k7_5 st ↔ GB fns Q s (peek st (.p 40)) k7_4 .skip st := goC_cond
def k7_6 : ACode :=
  .seq k7_5 k7_3
@[simp] theorem xk7_6 : GoC fns Q s k7_6 st ↔ GoC fns Q (.sq k7_3 :: s) k7_5 st := goC_seq
def k7_7 : ACode :=
  .ops [⟨.move .head (.t 0), (some 23), none⟩,
    ⟨.len false (.p 23), (some 24), none⟩,
    ⟨.bin .gtr 1 true (.p 24) (.c (.int .i64 1000)), (some 25), none⟩,
    ⟨.move .look (.p 25), (some 26), none⟩,
    ⟨.move .head (.p 1), (some 27), (some (26, false))⟩,
    ⟨.len true (.p 27), (some 28), (some (26, false))⟩,
    ⟨.bin .gtr 1 true (.p 28) (.c (.int .i64 200)), (some 29), (some (26, false))⟩,
    ⟨.pick (.p 26) (.c (.bool true)) (.p 29), (some 30), none⟩,
    ⟨.move .look (.p 30), (some 31), none⟩,
    ⟨.move .look (.p 1), (some 32), (some (31, false))⟩,
    ⟨.call 21 [(.p 32, false)], (some 33), (some (31, false))⟩,
    ⟨.un .not (.p 33), (some 34), (some (31, false))⟩,
    ⟨.pick (.p 31) (.c (.bool true)) (.p 34), (some 35), none⟩,
    ⟨.move .look (.p 35), (some 36), none⟩,
    ⟨.move .look (.t 2), (some 37), (some (36, false))⟩,
    ⟨.call 15 [(.t 37, false)], (some 38), (some (36, false))⟩,
    ⟨.un .not (.p 38), (some 39), (some (36, false))⟩,
    ⟨.pick (.p 36) (.c (.bool true)) (.p 39), (some 40), none⟩] k7_6
@[simp] theorem xk7_7 : GoC fns Q s k7_7 st ↔ GoO fns Q s [⟨.move .head (.t 0), (some 23), none⟩,
    ⟨.len false (.p 23), (some 24), none⟩,
    ⟨.bin .gtr 1 true (.p 24) (.c (.int .i64 1000)), (some 25), none⟩,
    ⟨.move .look (.p 25), (some 26), none⟩,
    ⟨.move .head (.p 1), (some 27), (some (26, false))⟩,
    ⟨.len true (.p 27), (some 28), (some (26, false))⟩,
    ⟨.bin .gtr 1 true (.p 28) (.c (.int .i64 200)), (some 29), (some (26, false))⟩,
    ⟨.pick (.p 26) (.c (.bool true)) (.p 29), (some 30), none⟩,
    ⟨.move .look (.p 30), (some 31), none⟩,
    ⟨.move .look (.p 1), (some 32), (some (31, false))⟩,
    ⟨.call 21 [(.p 32, false)], (some 33), (some (31, false))⟩,
    ⟨.un .not (.p 33), (some 34), (some (31, false))⟩,
    ⟨.pick (.p 31) (.c (.bool true)) (.p 34), (some 35), none⟩,
    ⟨.move .look (.p 35), (some 36), none⟩,
    ⟨.move .look (.t 2), (some 37), (some (36, false))⟩,
    ⟨.call 15 [(.t 37, false)], (some 38), (some (36, false))⟩,
    ⟨.un .not (.p 38), (some 39), (some (36, false))⟩,
    ⟨.pick (.p 36) (.c (.bool true)) (.p 39), (some 40), none⟩] k7_6 st := goC_ops
def k7_8 : ACode :=
  .ops [⟨.assign (.c (.bool true)), (some 6), none⟩] .ret
@[simp] theorem xk7_8 : GoC fns Q s k7_8 st ↔ GoO fns Q s [⟨.assign (.c (.bool true)), (some 6), none⟩] .ret st := goC_ops
def k7_9 : ACode :=
  .cond (.p 22) k7_8 .skip
@[simp] theorem xk7_9 : GoC fns Q s k7_9 st ↔ GB fns Q s (peek st (.p 22)) k7_8 .skip st := goC_cond
def k7_10 : ACode :=
  .seq k7_9 k7_7
@[simp] theorem xk7_10 : GoC fns Q s k7_10 st ↔ GoC fns Q (.sq k7_7 :: s) k7_9 st := goC_seq
def k7_11 : ACode :=
  .ops [⟨.move .head (.t 0), (some 10), none⟩,
    ⟨.len false (.p 10), (some 11), none⟩,
    ⟨.bin .gtr 1 true (.p 11) (.c (.int .i64 2147483647)), (some 12), none⟩,
    ⟨.move .look (.p 12), (some 13), none⟩,
    ⟨.move .head (.p 1), (some 14), (some (13, false))⟩,
    ⟨.len true (.p 14), (some 15), (some (13, false))⟩,
    ⟨.bin .gtr 1 true (.p 15) (.c (.int .i64 2147483647)), (some 16), (some (13, false))⟩,
    ⟨.pick (.p 13) (.c (.bool true)) (.p 16), (some 17), none⟩,
    ⟨.move .look (.p 17), (some 18), none⟩,
    ⟨.move .head (.t 2), (some 19), (some (18, false))⟩,
    ⟨.len false (.p 19), (some 20), (some (18, false))⟩,
    ⟨.bin .gtr 1 true (.p 20) (.c (.int .i64 2147483647)), (some 21), (some (18, false))⟩,
    ⟨.pick (.p 18) (.c (.bool true)) (.p 21), (some 22), none⟩] k7_10
@[simp] theorem xk7_11 : GoC fns Q s k7_11 st ↔ GoO fns Q s [⟨.move .head (.t 0), (some 10), none⟩,
    ⟨.len false (.p 10), (some 11), none⟩,
    ⟨.bin .gtr 1 true (.p 11) (.c (.int .i64 2147483647)), (some 12), none⟩,
    ⟨.move .look (.p 12), (some 13), none⟩,
    ⟨.move .head (.p 1), (some 14), (some (13, false))⟩,
    ⟨.len true (.p 14), (some 15), (some (13, false))⟩,
    ⟨.bin .gtr 1 true (.p 15) (.c (.int .i64 2147483647)), (some 16), (some (13, false))⟩,
    ⟨.pick (.p 13) (.c (.bool true)) (.p 16), (some 17), none⟩,
    ⟨.move .look (.p 17), (some 18), none⟩,
    ⟨.move .head (.t 2), (some 19), (some (18, false))⟩,
    ⟨.len false (.p 19), (some 20), (some (18, false))⟩,
    ⟨.bin .gtr 1 true (.p 20) (.c (.int .i64 2147483647)), (some 21), (some (18, false))⟩,
    ⟨.pick (.p 18) (.c (.bool true)) (.p 21), (some 22), none⟩] k7_10 st := goC_ops
def k7_12 : ACode :=
  .ops [⟨.assign (.c (.bool false)), (some 6), none⟩] k7_11
@[simp] theorem xk7_12 : GoC fns Q s k7_12 st ↔ GoO fns Q s [⟨.assign (.c (.bool false)), (some 6), none⟩] k7_11 st := goC_ops
def af7 : AFunc := ⟨75, k7_12, [.tmp 6]⟩

theorem ok7 : ∃ hs, pFunc Try.prog sg hs Try.f7 = some af7 := ⟨fun i => 0, by kernel_rfl⟩
end
def fns : FuncId → Option AFunc
  | 21 => some af21
  | 40 => some af40
  | 20 => some af20
  | 52 => some af52
  | 53 => some af53
  | 46 => some af46
  | 41 => some af41
  | 42 => some af42
  | 31 => some af31
  | 15 => some af15
  | 23 => some af23
  | 47 => some af47
  | 13 => some af13
  | 48 => some af48
  | 16 => some af16
  | 43 => some af43
  | 32 => some af32
  | 22 => some af22
  | 12 => some af12
  | 29 => some af29
  | 28 => some af28
  | 39 => some af39
  | 30 => some af30
  | 36 => some af36
  | 24 => some af24
  | 56 => some af56
  | 55 => some af55
  | 50 => some af50
  | 51 => some af51
  | 45 => some af45
  | 37 => some af37
  | 25 => some af25
  | 7 => some af7
  | _ => none
theorem run21 {vs : List AV} {h0 : H} (hl : vs.length ≤ 14) {r : AV × H} (h : GoC fns (fun e => xends [.tmp 2] e = some r) [] k21_15 ⟨fun j => (vs[j]?).getD .undef, fun _ => none, h0⟩) : callω fns 21 vs h0 = some r :=
  callω_run fns (af := af21) rfl rfl rfl hl h
theorem runs21 {vs : List AV} {h0 : H} (hl : vs.length ≤ 14) {p : AV × H → Prop} (h : GoC fns (fun e => Run (xends [.tmp 2] e) p) [] k21_15 ⟨fun j => (vs[j]?).getD .undef, fun _ => none, h0⟩) : Run (callω fns 21 vs h0) p :=
  callω_runs fns (af := af21) rfl rfl rfl hl h
theorem run40 {vs : List AV} {h0 : H} (hl : vs.length ≤ 32) {r : AV × H} (h : GoC fns (fun e => xends [.tmp 4] e = some r) [] k40_14 ⟨fun j => (vs[j]?).getD .undef, fun _ => none, h0⟩) : callω fns 40 vs h0 = some r :=
  callω_run fns (af := af40) rfl rfl rfl hl h
theorem runs40 {vs : List AV} {h0 : H} (hl : vs.length ≤ 32) {p : AV × H → Prop} (h : GoC fns (fun e => Run (xends [.tmp 4] e) p) [] k40_14 ⟨fun j => (vs[j]?).getD .undef, fun _ => none, h0⟩) : Run (callω fns 40 vs h0) p :=
  callω_runs fns (af := af40) rfl rfl rfl hl h
theorem run20 {vs : List AV} {h0 : H} (hl : vs.length ≤ 17) {r : AV × H} (h : GoC fns (fun e => xends [.tmp 2] e = some r) [] k20_1 ⟨fun j => (vs[j]?).getD .undef, fun _ => none, h0⟩) : callω fns 20 vs h0 = some r :=
  callω_run fns (af := af20) rfl rfl rfl hl h
theorem runs20 {vs : List AV} {h0 : H} (hl : vs.length ≤ 17) {p : AV × H → Prop} (h : GoC fns (fun e => Run (xends [.tmp 2] e) p) [] k20_1 ⟨fun j => (vs[j]?).getD .undef, fun _ => none, h0⟩) : Run (callω fns 20 vs h0) p :=
  callω_runs fns (af := af20) rfl rfl rfl hl h
theorem run52 {vs : List AV} {h0 : H} (hl : vs.length ≤ 48) {r : AV × H} (h : GoC fns (fun e => xends [.cell 2 true 8] e = some r) [] k52_52 ⟨fun j => (vs[j]?).getD .undef, fun _ => none, h0⟩) : callω fns 52 vs h0 = some r :=
  callω_run fns (af := af52) rfl rfl rfl hl h
theorem runs52 {vs : List AV} {h0 : H} (hl : vs.length ≤ 48) {p : AV × H → Prop} (h : GoC fns (fun e => Run (xends [.cell 2 true 8] e) p) [] k52_52 ⟨fun j => (vs[j]?).getD .undef, fun _ => none, h0⟩) : Run (callω fns 52 vs h0) p :=
  callω_runs fns (af := af52) rfl rfl rfl hl h
theorem run53 {vs : List AV} {h0 : H} (hl : vs.length ≤ 20) {r : AV × H} (h : GoC fns (fun e => xends [.tmp 2] e = some r) [] k53_5 ⟨fun j => (vs[j]?).getD .undef, fun _ => none, h0⟩) : callω fns 53 vs h0 = some r :=
  callω_run fns (af := af53) rfl rfl rfl hl h
theorem runs53 {vs : List AV} {h0 : H} (hl : vs.length ≤ 20) {p : AV × H → Prop} (h : GoC fns (fun e => Run (xends [.tmp 2] e) p) [] k53_5 ⟨fun j => (vs[j]?).getD .undef, fun _ => none, h0⟩) : Run (callω fns 53 vs h0) p :=
  callω_runs fns (af := af53) rfl rfl rfl hl h
theorem run46 {vs : List AV} {h0 : H} (hl : vs.length ≤ 138) {r : AV × H} (h : GoC fns (fun e => xends [.tmp 4] e = some r) [] k46_46 ⟨fun j => (vs[j]?).getD .undef, fun _ => none, h0⟩) : callω fns 46 vs h0 = some r :=
  callω_run fns (af := af46) rfl rfl rfl hl h
theorem runs46 {vs : List AV} {h0 : H} (hl : vs.length ≤ 138) {p : AV × H → Prop} (h : GoC fns (fun e => Run (xends [.tmp 4] e) p) [] k46_46 ⟨fun j => (vs[j]?).getD .undef, fun _ => none, h0⟩) : Run (callω fns 46 vs h0) p :=
  callω_runs fns (af := af46) rfl rfl rfl hl h
theorem run41 {vs : List AV} {h0 : H} (hl : vs.length ≤ 5) {r : AV × H} (h : GoC fns (fun e => xends [.tmp 2] e = some r) [] k41_1 ⟨fun j => (vs[j]?).getD .undef, fun _ => none, h0⟩) : callω fns 41 vs h0 = some r :=
  callω_run fns (af := af41) rfl rfl rfl hl h
theorem runs41 {vs : List AV} {h0 : H} (hl : vs.length ≤ 5) {p : AV × H → Prop} (h : GoC fns (fun e => Run (xends [.tmp 2] e) p) [] k41_1 ⟨fun j => (vs[j]?).getD .undef, fun _ => none, h0⟩) : Run (callω fns 41 vs h0) p :=
  callω_runs fns (af := af41) rfl rfl rfl hl h
theorem run42 {vs : List AV} {h0 : H} (hl : vs.length ≤ 41) {r : AV × H} (h : GoC fns (fun e => xends [.tmp 2] e = some r) [] k42_14 ⟨fun j => (vs[j]?).getD .undef, fun _ => none, h0⟩) : callω fns 42 vs h0 = some r :=
  callω_run fns (af := af42) rfl rfl rfl hl h
theorem runs42 {vs : List AV} {h0 : H} (hl : vs.length ≤ 41) {p : AV × H → Prop} (h : GoC fns (fun e => Run (xends [.tmp 2] e) p) [] k42_14 ⟨fun j => (vs[j]?).getD .undef, fun _ => none, h0⟩) : Run (callω fns 42 vs h0) p :=
  callω_runs fns (af := af42) rfl rfl rfl hl h
theorem run31 {vs : List AV} {h0 : H} (hl : vs.length ≤ 15) {r : AV × H} (h : GoC fns (fun e => xends [.tmp 2] e = some r) [] k31_1 ⟨fun j => (vs[j]?).getD .undef, fun _ => none, h0⟩) : callω fns 31 vs h0 = some r :=
  callω_run fns (af := af31) rfl rfl rfl hl h
theorem runs31 {vs : List AV} {h0 : H} (hl : vs.length ≤ 15) {p : AV × H → Prop} (h : GoC fns (fun e => Run (xends [.tmp 2] e) p) [] k31_1 ⟨fun j => (vs[j]?).getD .undef, fun _ => none, h0⟩) : Run (callω fns 31 vs h0) p :=
  callω_runs fns (af := af31) rfl rfl rfl hl h
theorem run15 {vs : List AV} {h0 : H} (hl : vs.length ≤ 6) {r : AV × H} (h : GoC fns (fun e => xends [.tmp 2] e = some r) [] k15_1 ⟨fun j => (vs[j]?).getD .undef, fun _ => none, h0⟩) : callω fns 15 vs h0 = some r :=
  callω_run fns (af := af15) rfl rfl rfl hl h
theorem runs15 {vs : List AV} {h0 : H} (hl : vs.length ≤ 6) {p : AV × H → Prop} (h : GoC fns (fun e => Run (xends [.tmp 2] e) p) [] k15_1 ⟨fun j => (vs[j]?).getD .undef, fun _ => none, h0⟩) : Run (callω fns 15 vs h0) p :=
  callω_runs fns (af := af15) rfl rfl rfl hl h
theorem run23 {vs : List AV} {h0 : H} (hl : vs.length ≤ 14) {r : AV × H} (h : GoC fns (fun e => xends [.tmp 4] e = some r) [] k23_2 ⟨fun j => (vs[j]?).getD .undef, fun _ => none, h0⟩) : callω fns 23 vs h0 = some r :=
  callω_run fns (af := af23) rfl rfl rfl hl h
theorem runs23 {vs : List AV} {h0 : H} (hl : vs.length ≤ 14) {p : AV × H → Prop} (h : GoC fns (fun e => Run (xends [.tmp 4] e) p) [] k23_2 ⟨fun j => (vs[j]?).getD .undef, fun _ => none, h0⟩) : Run (callω fns 23 vs h0) p :=
  callω_runs fns (af := af23) rfl rfl rfl hl h
theorem run47 {vs : List AV} {h0 : H} (hl : vs.length ≤ 18) {r : AV × H} (h : GoC fns (fun e => xends [.tmp 4] e = some r) [] k47_13 ⟨fun j => (vs[j]?).getD .undef, fun _ => none, h0⟩) : callω fns 47 vs h0 = some r :=
  callω_run fns (af := af47) rfl rfl rfl hl h
theorem runs47 {vs : List AV} {h0 : H} (hl : vs.length ≤ 18) {p : AV × H → Prop} (h : GoC fns (fun e => Run (xends [.tmp 4] e) p) [] k47_13 ⟨fun j => (vs[j]?).getD .undef, fun _ => none, h0⟩) : Run (callω fns 47 vs h0) p :=
  callω_runs fns (af := af47) rfl rfl rfl hl h
theorem run13 {vs : List AV} {h0 : H} (hl : vs.length ≤ 19) {r : AV × H} (h : GoC fns (fun e => xends [.tmp 4] e = some r) [] k13_1 ⟨fun j => (vs[j]?).getD .undef, fun _ => none, h0⟩) : callω fns 13 vs h0 = some r :=
  callω_run fns (af := af13) rfl rfl rfl hl h
theorem runs13 {vs : List AV} {h0 : H} (hl : vs.length ≤ 19) {p : AV × H → Prop} (h : GoC fns (fun e => Run (xends [.tmp 4] e) p) [] k13_1 ⟨fun j => (vs[j]?).getD .undef, fun _ => none, h0⟩) : Run (callω fns 13 vs h0) p :=
  callω_runs fns (af := af13) rfl rfl rfl hl h
theorem run48 {vs : List AV} {h0 : H} (hl : vs.length ≤ 16) {r : AV × H} (h : GoC fns (fun e => xends [.tmp 4] e = some r) [] k48_3 ⟨fun j => (vs[j]?).getD .undef, fun _ => none, h0⟩) : callω fns 48 vs h0 = some r :=
  callω_run fns (af := af48) rfl rfl rfl hl h
theorem runs48 {vs : List AV} {h0 : H} (hl : vs.length ≤ 16) {p : AV × H → Prop} (h : GoC fns (fun e => Run (xends [.tmp 4] e) p) [] k48_3 ⟨fun j => (vs[j]?).getD .undef, fun _ => none, h0⟩) : Run (callω fns 48 vs h0) p :=
  callω_runs fns (af := af48) rfl rfl rfl hl h
theorem run16 {vs : List AV} {h0 : H} (hl : vs.length ≤ 29) {r : AV × H} (h : GoC fns (fun e => xends [.tmp 2] e = some r) [] k16_16 ⟨fun j => (vs[j]?).getD .undef, fun _ => none, h0⟩) : callω fns 16 vs h0 = some r :=
  callω_run fns (af := af16) rfl rfl rfl hl h
theorem runs16 {vs : List AV} {h0 : H} (hl : vs.length ≤ 29) {p : AV × H → Prop} (h : GoC fns (fun e => Run (xends [.tmp 2] e) p) [] k16_16 ⟨fun j => (vs[j]?).getD .undef, fun _ => none, h0⟩) : Run (callω fns 16 vs h0) p :=
  callω_runs fns (af := af16) rfl rfl rfl hl h
theorem run43 {vs : List AV} {h0 : H} (hl : vs.length ≤ 148) {r : AV × H} (h : GoC fns (fun e => xends [.tmp 2] e = some r) [] k43_73 ⟨fun j => (vs[j]?).getD .undef, fun _ => none, h0⟩) : callω fns 43 vs h0 = some r :=
  callω_run fns (af := af43) rfl rfl rfl hl h
theorem runs43 {vs : List AV} {h0 : H} (hl : vs.length ≤ 148) {p : AV × H → Prop} (h : GoC fns (fun e => Run (xends [.tmp 2] e) p) [] k43_73 ⟨fun j => (vs[j]?).getD .undef, fun _ => none, h0⟩) : Run (callω fns 43 vs h0) p :=
  callω_runs fns (af := af43) rfl rfl rfl hl h
theorem run32 {vs : List AV} {h0 : H} (hl : vs.length ≤ 13) {r : AV × H} (h : GoC fns (fun e => xends [.tmp 2] e = some r) [] k32_1 ⟨fun j => (vs[j]?).getD .undef, fun _ => none, h0⟩) : callω fns 32 vs h0 = some r :=
  callω_run fns (af := af32) rfl rfl rfl hl h
theorem runs32 {vs : List AV} {h0 : H} (hl : vs.length ≤ 13) {p : AV × H → Prop} (h : GoC fns (fun e => Run (xends [.tmp 2] e) p) [] k32_1 ⟨fun j => (vs[j]?).getD .undef, fun _ => none, h0⟩) : Run (callω fns 32 vs h0) p :=
  callω_runs fns (af := af32) rfl rfl rfl hl h
theorem run22 {vs : List AV} {h0 : H} (hl : vs.length ≤ 20) {r : AV × H} (h : GoC fns (fun e => xends [.tmp 2] e = some r) [] k22_14 ⟨fun j => (vs[j]?).getD .undef, fun _ => none, h0⟩) : callω fns 22 vs h0 = some r :=
  callω_run fns (af := af22) rfl rfl rfl hl h
theorem runs22 {vs : List AV} {h0 : H} (hl : vs.length ≤ 20) {p : AV × H → Prop} (h : GoC fns (fun e => Run (xends [.tmp 2] e) p) [] k22_14 ⟨fun j => (vs[j]?).getD .undef, fun _ => none, h0⟩) : Run (callω fns 22 vs h0) p :=
  callω_runs fns (af := af22) rfl rfl rfl hl h
theorem run12 {vs : List AV} {h0 : H} (hl : vs.length ≤ 6) {r : AV × H} (h : GoC fns (fun e => xends [.tmp 2] e = some r) [] k12_1 ⟨fun j => (vs[j]?).getD .undef, fun _ => none, h0⟩) : callω fns 12 vs h0 = some r :=
  callω_run fns (af := af12) rfl rfl rfl hl h
theorem runs12 {vs : List AV} {h0 : H} (hl : vs.length ≤ 6) {p : AV × H → Prop} (h : GoC fns (fun e => Run (xends [.tmp 2] e) p) [] k12_1 ⟨fun j => (vs[j]?).getD .undef, fun _ => none, h0⟩) : Run (callω fns 12 vs h0) p :=
  callω_runs fns (af := af12) rfl rfl rfl hl h
theorem run29 {vs : List AV} {h0 : H} (hl : vs.length ≤ 5) {r : AV × H} (h : GoC fns (fun e => xends [.tmp 2] e = some r) [] k29_1 ⟨fun j => (vs[j]?).getD .undef, fun _ => none, h0⟩) : callω fns 29 vs h0 = some r :=
  callω_run fns (af := af29) rfl rfl rfl hl h
theorem runs29 {vs : List AV} {h0 : H} (hl : vs.length ≤ 5) {p : AV × H → Prop} (h : GoC fns (fun e => Run (xends [.tmp 2] e) p) [] k29_1 ⟨fun j => (vs[j]?).getD .undef, fun _ => none, h0⟩) : Run (callω fns 29 vs h0) p :=
  callω_runs fns (af := af29) rfl rfl rfl hl h
theorem run28 {vs : List AV} {h0 : H} (hl : vs.length ≤ 12) {r : AV × H} (h : GoC fns (fun e => xends [.tmp 2, .tmp 3] e = some r) [] k28_2 ⟨fun j => (vs[j]?).getD .undef, fun _ => none, h0⟩) : callω fns 28 vs h0 = some r :=
  callω_run fns (af := af28) rfl rfl rfl hl h
theorem runs28 {vs : List AV} {h0 : H} (hl : vs.length ≤ 12) {p : AV × H → Prop} (h : GoC fns (fun e => Run (xends [.tmp 2, .tmp 3] e) p) [] k28_2 ⟨fun j => (vs[j]?).getD .undef, fun _ => none, h0⟩) : Run (callω fns 28 vs h0) p :=
  callω_runs fns (af := af28) rfl rfl rfl hl h
theorem run39 {vs : List AV} {h0 : H} (hl : vs.length ≤ 28) {r : AV × H} (h : GoC fns (fun e => xends [] e = some r) [] k39_5 ⟨fun j => (vs[j]?).getD .undef, fun _ => none, h0⟩) : callω fns 39 vs h0 = some r :=
  callω_run fns (af := af39) rfl rfl rfl hl h
theorem runs39 {vs : List AV} {h0 : H} (hl : vs.length ≤ 28) {p : AV × H → Prop} (h : GoC fns (fun e => Run (xends [] e) p) [] k39_5 ⟨fun j => (vs[j]?).getD .undef, fun _ => none, h0⟩) : Run (callω fns 39 vs h0) p :=
  callω_runs fns (af := af39) rfl rfl rfl hl h
theorem run30 {vs : List AV} {h0 : H} (hl : vs.length ≤ 15) {r : AV × H} (h : GoC fns (fun e => xends [.tmp 6] e = some r) [] k30_2 ⟨fun j => (vs[j]?).getD .undef, fun _ => none, h0⟩) : callω fns 30 vs h0 = some r :=
  callω_run fns (af := af30) rfl rfl rfl hl h
theorem runs30 {vs : List AV} {h0 : H} (hl : vs.length ≤ 15) {p : AV × H → Prop} (h : GoC fns (fun e => Run (xends [.tmp 6] e) p) [] k30_2 ⟨fun j => (vs[j]?).getD .undef, fun _ => none, h0⟩) : Run (callω fns 30 vs h0) p :=
  callω_runs fns (af := af30) rfl rfl rfl hl h
theorem run36 {vs : List AV} {h0 : H} (hl : vs.length ≤ 35) {r : AV × H} (h : GoC fns (fun e => xends [.tmp 4] e = some r) [] k36_17 ⟨fun j => (vs[j]?).getD .undef, fun _ => none, h0⟩) : callω fns 36 vs h0 = some r :=
  callω_run fns (af := af36) rfl rfl rfl hl h
theorem runs36 {vs : List AV} {h0 : H} (hl : vs.length ≤ 35) {p : AV × H → Prop} (h : GoC fns (fun e => Run (xends [.tmp 4] e) p) [] k36_17 ⟨fun j => (vs[j]?).getD .undef, fun _ => none, h0⟩) : Run (callω fns 36 vs h0) p :=
  callω_runs fns (af := af36) rfl rfl rfl hl h
theorem run24 {vs : List AV} {h0 : H} (hl : vs.length ≤ 9) {r : AV × H} (h : GoC fns (fun e => xends [.tmp 4] e = some r) [] k24_1 ⟨fun j => (vs[j]?).getD .undef, fun _ => none, h0⟩) : callω fns 24 vs h0 = some r :=
  callω_run fns (af := af24) rfl rfl rfl hl h
theorem runs24 {vs : List AV} {h0 : H} (hl : vs.length ≤ 9) {p : AV × H → Prop} (h : GoC fns (fun e => Run (xends [.tmp 4] e) p) [] k24_1 ⟨fun j => (vs[j]?).getD .undef, fun _ => none, h0⟩) : Run (callω fns 24 vs h0) p :=
  callω_runs fns (af := af24) rfl rfl rfl hl h
theorem run56 {vs : List AV} {h0 : H} (hl : vs.length ≤ 35) {r : AV × H} (h : GoC fns (fun e => xends [.tmp 4] e = some r) [] k56_18 ⟨fun j => (vs[j]?).getD .undef, fun _ => none, h0⟩) : callω fns 56 vs h0 = some r :=
  callω_run fns (af := af56) rfl rfl rfl hl h
theorem runs56 {vs : List AV} {h0 : H} (hl : vs.length ≤ 35) {p : AV × H → Prop} (h : GoC fns (fun e => Run (xends [.tmp 4] e) p) [] k56_18 ⟨fun j => (vs[j]?).getD .undef, fun _ => none, h0⟩) : Run (callω fns 56 vs h0) p :=
  callω_runs fns (af := af56) rfl rfl rfl hl h
theorem run55 {vs : List AV} {h0 : H} (hl : vs.length ≤ 9) {r : AV × H} (h : GoC fns (fun e => xends [.tmp 4] e = some r) [] k55_1 ⟨fun j => (vs[j]?).getD .undef, fun _ => none, h0⟩) : callω fns 55 vs h0 = some r :=
  callω_run fns (af := af55) rfl rfl rfl hl h
theorem runs55 {vs : List AV} {h0 : H} (hl : vs.length ≤ 9) {p : AV × H → Prop} (h : GoC fns (fun e => Run (xends [.tmp 4] e) p) [] k55_1 ⟨fun j => (vs[j]?).getD .undef, fun _ => none, h0⟩) : Run (callω fns 55 vs h0) p :=
  callω_runs fns (af := af55) rfl rfl rfl hl h
theorem run50 {vs : List AV} {h0 : H} (hl : vs.length ≤ 6) {r : AV × H} (h : GoC fns (fun e => xends [.tmp 2] e = some r) [] k50_1 ⟨fun j => (vs[j]?).getD .undef, fun _ => none, h0⟩) : callω fns 50 vs h0 = some r :=
  callω_run fns (af := af50) rfl rfl rfl hl h
theorem runs50 {vs : List AV} {h0 : H} (hl : vs.length ≤ 6) {p : AV × H → Prop} (h : GoC fns (fun e => Run (xends [.tmp 2] e) p) [] k50_1 ⟨fun j => (vs[j]?).getD .undef, fun _ => none, h0⟩) : Run (callω fns 50 vs h0) p :=
  callω_runs fns (af := af50) rfl rfl rfl hl h
theorem run51 {vs : List AV} {h0 : H} (hl : vs.length ≤ 9) {r : AV × H} (h : GoC fns (fun e => xends [.tmp 4] e = some r) [] k51_1 ⟨fun j => (vs[j]?).getD .undef, fun _ => none, h0⟩) : callω fns 51 vs h0 = some r :=
  callω_run fns (af := af51) rfl rfl rfl hl h
theorem runs51 {vs : List AV} {h0 : H} (hl : vs.length ≤ 9) {p : AV × H → Prop} (h : GoC fns (fun e => Run (xends [.tmp 4] e) p) [] k51_1 ⟨fun j => (vs[j]?).getD .undef, fun _ => none, h0⟩) : Run (callω fns 51 vs h0) p :=
  callω_runs fns (af := af51) rfl rfl rfl hl h
theorem run45 {vs : List AV} {h0 : H} (hl : vs.length ≤ 20) {r : AV × H} (h : GoC fns (fun e => xends [.tmp 6] e = some r) [] k45_7 ⟨fun j => (vs[j]?).getD .undef, fun _ => none, h0⟩) : callω fns 45 vs h0 = some r :=
  callω_run fns (af := af45) rfl rfl rfl hl h
theorem runs45 {vs : List AV} {h0 : H} (hl : vs.length ≤ 20) {p : AV × H → Prop} (h : GoC fns (fun e => Run (xends [.tmp 6] e) p) [] k45_7 ⟨fun j => (vs[j]?).getD .undef, fun _ => none, h0⟩) : Run (callω fns 45 vs h0) p :=
  callω_runs fns (af := af45) rfl rfl rfl hl h
theorem run37 {vs : List AV} {h0 : H} (hl : vs.length ≤ 12) {r : AV × H} (h : GoC fns (fun e => xends [.tmp 6] e = some r) [] k37_1 ⟨fun j => (vs[j]?).getD .undef, fun _ => none, h0⟩) : callω fns 37 vs h0 = some r :=
  callω_run fns (af := af37) rfl rfl rfl hl h
theorem runs37 {vs : List AV} {h0 : H} (hl : vs.length ≤ 12) {p : AV × H → Prop} (h : GoC fns (fun e => Run (xends [.tmp 6] e) p) [] k37_1 ⟨fun j => (vs[j]?).getD .undef, fun _ => none, h0⟩) : Run (callω fns 37 vs h0) p :=
  callω_runs fns (af := af37) rfl rfl rfl hl h
theorem run25 {vs : List AV} {h0 : H} (hl : vs.length ≤ 12) {r : AV × H} (h : GoC fns (fun e => xends [.tmp 6] e = some r) [] k25_1 ⟨fun j => (vs[j]?).getD .undef, fun _ => none, h0⟩) : callω fns 25 vs h0 = some r :=
  callω_run fns (af := af25) rfl rfl rfl hl h
theorem runs25 {vs : List AV} {h0 : H} (hl : vs.length ≤ 12) {p : AV × H → Prop} (h : GoC fns (fun e => Run (xends [.tmp 6] e) p) [] k25_1 ⟨fun j => (vs[j]?).getD .undef, fun _ => none, h0⟩) : Run (callω fns 25 vs h0) p :=
  callω_runs fns (af := af25) rfl rfl rfl hl h
theorem run7 {vs : List AV} {h0 : H} (hl : vs.length ≤ 75) {r : AV × H} (h : GoC fns (fun e => xends [.tmp 6] e = some r) [] k7_12 ⟨fun j => (vs[j]?).getD .undef, fun _ => none, h0⟩) : callω fns 7 vs h0 = some r :=
  callω_run fns (af := af7) rfl rfl rfl hl h
theorem runs7 {vs : List AV} {h0 : H} (hl : vs.length ≤ 75) {p : AV × H → Prop} (h : GoC fns (fun e => Run (xends [.tmp 6] e) p) [] k7_12 ⟨fun j => (vs[j]?).getD .undef, fun _ => none, h0⟩) : Run (callω fns 7 vs h0) p :=
  callω_runs fns (af := af7) rfl rfl rfl hl h
theorem fnsOk : FnsOk Try.prog sg fns := by
  intro f af h
  unfold fns at h
  split at h <;> first
    | (injection h with h; subst h; exact ⟨Try.f21, Try.func21, by kernel_rfl, ok21⟩)
    | (injection h with h; subst h; exact ⟨Try.f40, Try.func40, by kernel_rfl, ok40⟩)
    | (injection h with h; subst h; exact ⟨Try.f20, Try.func20, by kernel_rfl, ok20⟩)
    | (injection h with h; subst h; exact ⟨Try.f52, Try.func52, by kernel_rfl, ok52⟩)
    | (injection h with h; subst h; exact ⟨Try.f53, Try.func53, by kernel_rfl, ok53⟩)
    | (injection h with h; subst h; exact ⟨Try.f46, Try.func46, by kernel_rfl, ok46⟩)
    | (injection h with h; subst h; exact ⟨Try.f41, Try.func41, by kernel_rfl, ok41⟩)
    | (injection h with h; subst h; exact ⟨Try.f42, Try.func42, by kernel_rfl, ok42⟩)
    | (injection h with h; subst h; exact ⟨Try.f31, Try.func31, by kernel_rfl, ok31⟩)
    | (injection h with h; subst h; exact ⟨Try.f15, Try.func15, by kernel_rfl, ok15⟩)
    | (injection h with h; subst h; exact ⟨Try.f23, Try.func23, by kernel_rfl, ok23⟩)
    | (injection h with h; subst h; exact ⟨Try.f47, Try.func47, by kernel_rfl, ok47⟩)
    | (injection h with h; subst h; exact ⟨Try.f13, Try.func13, by kernel_rfl, ok13⟩)
    | (injection h with h; subst h; exact ⟨Try.f48, Try.func48, by kernel_rfl, ok48⟩)
    | (injection h with h; subst h; exact ⟨Try.f16, Try.func16, by kernel_rfl, ok16⟩)
    | (injection h with h; subst h; exact ⟨Try.f43, Try.func43, by kernel_rfl, ok43⟩)
    | (injection h with h; subst h; exact ⟨Try.f32, Try.func32, by kernel_rfl, ok32⟩)
    | (injection h with h; subst h; exact ⟨Try.f22, Try.func22, by kernel_rfl, ok22⟩)
    | (injection h with h; subst h; exact ⟨Try.f12, Try.func12, by kernel_rfl, ok12⟩)
    | (injection h with h; subst h; exact ⟨Try.f29, Try.func29, by kernel_rfl, ok29⟩)
    | (injection h with h; subst h; exact ⟨Try.f28, Try.func28, by kernel_rfl, ok28⟩)
    | (injection h with h; subst h; exact ⟨Try.f39, Try.func39, by kernel_rfl, ok39⟩)
    | (injection h with h; subst h; exact ⟨Try.f30, Try.func30, by kernel_rfl, ok30⟩)
    | (injection h with h; subst h; exact ⟨Try.f36, Try.func36, by kernel_rfl, ok36⟩)
    | (injection h with h; subst h; exact ⟨Try.f24, Try.func24, by kernel_rfl, ok24⟩)
    | (injection h with h; subst h; exact ⟨Try.f56, Try.func56, by kernel_rfl, ok56⟩)
    | (injection h with h; subst h; exact ⟨Try.f55, Try.func55, by kernel_rfl, ok55⟩)
    | (injection h with h; subst h; exact ⟨Try.f50, Try.func50, by kernel_rfl, ok50⟩)
    | (injection h with h; subst h; exact ⟨Try.f51, Try.func51, by kernel_rfl, ok51⟩)
    | (injection h with h; subst h; exact ⟨Try.f45, Try.func45, by kernel_rfl, ok45⟩)
    | (injection h with h; subst h; exact ⟨Try.f37, Try.func37, by kernel_rfl, ok37⟩)
    | (injection h with h; subst h; exact ⟨Try.f25, Try.func25, by kernel_rfl, ok25⟩)
    | (injection h with h; subst h; exact ⟨Try.f7, Try.func7, by kernel_rfl, ok7⟩)
    | cases h
end Go.Proofs.Ytfamhjnjlgdglaa.Abs
