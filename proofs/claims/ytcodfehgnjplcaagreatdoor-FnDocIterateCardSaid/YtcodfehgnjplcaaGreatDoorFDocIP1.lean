/- The functions that the law reaches, made ready for the interpreter (printed by a program of this session; the kernel compares each with the given program). -/
import Derived.Test.YtcodfehgnjplcaaGreatDoorA27
import Derived.Test.YtcodfehgnjplcaaGreatDoorIsXYtcodfehgnjplcaaGreatDoor
import Derived.Test.YtcodfehgnjplcaaGreatDoorProg
import Derived.KernelRfl
namespace Go.Proofs.YtcodfehgnjplcaaGreatDoor.Abs
set_option linter.all false
set_option maxRecDepth 100000
open Go.Proofs
def sg : FuncId → Nat → Nat := fun f i =>
  if f == 65 then (if i == 99 then 1 else 0) else
  if f == 72 then (if i == 0 then 1 else 0) else
  if f == 75 then (if i == 0 then 1 else 0) else
  if f == 76 then (if i == 0 then 1 else 0) else
  if f == 84 then (if i == 99 then 1 else 0) else
  if f == 85 then (if i == 99 then 1 else 0) else
  if f == 86 then (if i == 99 then 1 else 0) else
  if f == 88 then (if i == 99 then 1 else 0) else
  if f == 89 then (if i == 99 then 1 else 0) else
  if f == 141 then (if i == 99 then 1 else 0) else
  if f == 142 then (if i == 99 then 1 else 0) else
  if f == 143 then (if i == 99 then 1 else 0) else
  if f == 165 then (if i == 99 then 1 else 0) else
  if f == 173 then (if i == 99 then 1 else 0) else
  if f == 180 then (if i == 99 then 1 else 0) else
  if f == 201 then (if i == 99 then 1 else 0) else
  if f == 207 then (if i == 0 then 1 else if i == 99 then 1 else 0) else
  if f == 229 then (if i == 0 then 1 else 0) else
  if f == 232 then (if i == 0 then 1 else 0) else
  if f == 248 then (if i == 0 then 1 else 0) else
  if f == 254 then (if i == 0 then 1 else 0) else
  if f == 262 then (if i == 0 then 1 else 0) else
  if f == 266 then (if i == 0 then 1 else 0) else
  if f == 300 then (if i == 0 then 1 else 0) else
  if f == 304 then (if i == 1 then 2 else if i == 99 then 1 else 0) else
  if f == 314 then (if i == 0 then 1 else 0) else
  0
section
variable {fns : FuncId → Option AFunc} {Q : Ex × St → Prop} {s : List Fr} {c : ACode} {st : St}
def q68_0 : List AOper :=
  [⟨.move .look (.p 0), (some 10), none⟩,
    ⟨.bin .quo 1 true (.p 10) (.c (.int .i64 10)), (some 11), none⟩,
    ⟨.move .look (.p 0), (some 13), none⟩,
    ⟨.bin .rem 1 true (.p 13) (.c (.int .i64 10)), (some 14), none⟩,
    ⟨.bin .add 1 true (.c (.int .i64 48)) (.p 14), (some 15), none⟩,
    ⟨.convInt .u8 (.p 15), (some 16), none⟩,
    ⟨.buildSl 5 1 [.int .u8 0] [(0, 1, .p 16)], (some 17), none⟩,
    ⟨.convBS (.t 17), (some 18), none⟩,
    ⟨.call 68 [(.p 11, false)], (some 12), none⟩,
    ⟨.bin .add 2 false (.p 12) (.p 18), (some 19), none⟩,
    ⟨.assign (.p 19), (some 2), none⟩]
@[simp] def eq68_0 := id q68_0.eq_1
def q68_1 : List AOper :=
  [⟨.move .look (.p 0), (some 5), none⟩,
    ⟨.bin .add 1 true (.c (.int .i64 48)) (.p 5), (some 6), none⟩,
    ⟨.convInt .u8 (.p 6), (some 7), none⟩,
    ⟨.buildSl 5 1 [.int .u8 0] [(0, 1, .p 7)], (some 8), none⟩,
    ⟨.convBS (.t 8), (some 9), none⟩,
    ⟨.assign (.p 9), (some 2), none⟩]
@[simp] def eq68_1 := id q68_1.eq_1
def q68_2 : List AOper :=
  [⟨.move .look (.p 0), (some 3), none⟩,
    ⟨.bin .lss 1 true (.p 3) (.c (.int .i64 10)), (some 4), none⟩]
@[simp] def eq68_2 := id q68_2.eq_1
def k68_0 : ACode :=
  .ops q68_0 .ret
@[simp] theorem xk68_0 : GoC fns Q s k68_0 st ↔ GoO fns Q s q68_0 .ret st := goC_ops
def k68_1 : ACode :=
  .ops q68_1 .ret
@[simp] theorem xk68_1 : GoC fns Q s k68_1 st ↔ GoO fns Q s q68_1 .ret st := goC_ops
def k68_2 : ACode :=
  .cond (.p 4) k68_1 .skip
@[simp] theorem xk68_2 : GoC fns Q s k68_2 st ↔ GB fns Q s (peek st (.p 4)) k68_1 .skip st := goC_cond
def k68_3 : ACode :=
  .seq k68_2 k68_0
@[simp] theorem xk68_3 : GoC fns Q s k68_3 st ↔ GoC fns Q (.sq k68_0 :: s) k68_2 st := goC_seq
def k68_4 : ACode :=
  .ops q68_2 k68_3
@[simp] theorem xk68_4 : GoC fns Q s k68_4 st ↔ GoO fns Q s q68_2 k68_3 st := goC_ops
def k68_5 : ACode :=
  .ops [⟨.assign (.c (.str [])), (some 2), none⟩] k68_4
@[simp] theorem xk68_5 : GoC fns Q s k68_5 st ↔ GoO fns Q s [⟨.assign (.c (.str [])), (some 2), none⟩] k68_4 st := goC_ops
def af68 : AFunc := ⟨20, k68_5, [.tmp 2], fun _ _ => none⟩

theorem ok68 : ∃ hs, pFunc Tryz.prog sg hs Tryz.f68 = some af68 := ⟨fun i => 0, by kernel_rfl⟩
def q22_0 : List AOper :=
  [⟨.load .take true 8 (.p 3), (some 24), none⟩,
    ⟨.store 8 (.p 2) (.p 24), none, none⟩]
@[simp] def eq22_0 := id q22_0.eq_1
def q22_1 : List AOper :=
  [⟨.move .look (.p 4), (some 10), none⟩,
    ⟨.bin .add 1 true (.p 10) (.c (.int .i64 1)), (some 11), none⟩,
    ⟨.assign (.p 11), (some 4), none⟩]
@[simp] def eq22_1 := id q22_1.eq_1
def q22_2 : List AOper :=
  [⟨.fieldAddr 7 (.p 3), (some 12), none⟩,
    ⟨.load .take false 1 (.p 12), (some 13), none⟩,
    ⟨.move .look (.p 4), (some 14), none⟩,
    ⟨.move .look (.t 0), (some 16), none⟩,
    ⟨.move .look (.p 4), (some 17), none⟩,
    ⟨.indexAddr 8 (.t 16) (.p 17), (some 18), none⟩,
    ⟨.load .look true 8 (.p 18), (some 19), none⟩,
    ⟨.call 68 [(.p 14, false)], (some 15), none⟩,
    ⟨.build [.str [], .int .i64 0, .str [], .str [], .int .i64 0, .int .u64 0, .int .u64 0, .slice .nil 0 1 [], .slice .nil 0 1 []] [(0, 1, .p 15), (1, 8, .p 19)], (some 20), none⟩,
    ⟨.buildSl 66 9 [.str [], .int .i64 0, .str [], .str [], .int .i64 0, .int .u64 0, .int .u64 0, .slice .nil 0 1 [], .slice .nil 0 1 []] [(0, 9, .p 20)], (some 21), none⟩,
    ⟨.append 66 9 128 false (.t 13) (.p 21), (some 22), none⟩,
    ⟨.fieldAddr 7 (.p 3), (some 23), none⟩,
    ⟨.store 1 (.p 23) (.t 22), none, none⟩]
@[simp] def eq22_2 := id q22_2.eq_1
def q22_3 : List AOper :=
  [⟨.move .look (.p 4), (some 6), none⟩,
    ⟨.move .head (.t 0), (some 7), none⟩,
    ⟨.len false (.p 7), (some 8), none⟩,
    ⟨.bin .lss 1 false (.p 6) (.p 8), (some 9), none⟩]
@[simp] def eq22_3 := id q22_3.eq_1
def q22_4 : List AOper :=
  [⟨.build [.int .i64 0, .str [], .str [], .int .i64 0, .int .u64 0, .int .u64 0, .slice .nil 0 1 [], .slice .nil 0 1 []] [(0, 1, .c (.int .i64 4))], (some 5), none⟩,
    ⟨.newbox 3 [.int .i64 0, .str [], .str [], .int .i64 0, .int .u64 0, .int .u64 0, .slice .nil 0 1 [], .slice .nil 0 1 []], (some 3), none⟩,
    ⟨.store 8 (.p 3) (.p 5), none, none⟩]
@[simp] def eq22_4 := id q22_4.eq_1
def k22_0 : ACode :=
  .ops q22_0 .ret
@[simp] theorem xk22_0 : GoC fns Q s k22_0 st ↔ GoO fns Q s q22_0 .ret st := goC_ops
def k22_1 : ACode :=
  .ops q22_1 .skip
@[simp] theorem xk22_1 : GoC fns Q s k22_1 st ↔ GoO fns Q s q22_1 .skip st := goC_ops
def k22_2 : ACode :=
  .ops q22_2 .skip
@[simp] theorem xk22_2 : GoC fns Q s k22_2 st ↔ GoO fns Q s q22_2 .skip st := goC_ops
def k22_3 : ACode :=
  .block 1 k22_2
@[simp] theorem xk22_3 : GoC fns Q s k22_3 st ↔ GoC fns Q (.bl 1 :: s) k22_2 st := goC_block
def k22_4 : ACode :=
  .seq k22_3 k22_1
@[simp] theorem xk22_4 : GoC fns Q s k22_4 st ↔ GoC fns Q (.sq k22_1 :: s) k22_3 st := goC_seq
def k22_5 : ACode :=
  .cond (.p 9) .skip (.exit 0)
@[simp] theorem xk22_5 : GoC fns Q s k22_5 st ↔ GB fns Q s (peek st (.p 9)) .skip (.exit 0) st := goC_cond
def k22_6 : ACode :=
  .seq k22_5 k22_4
@[simp] theorem xk22_6 : GoC fns Q s k22_6 st ↔ GoC fns Q (.sq k22_4 :: s) k22_5 st := goC_seq
def k22_7 : ACode :=
  .ops q22_3 k22_6
@[simp] theorem xk22_7 : GoC fns Q s k22_7 st ↔ GoO fns Q s q22_3 k22_6 st := goC_ops
def lc22_0 : ACode :=
  k22_7
@[simp] theorem xlc22_0 : GoC fns Q s lc22_0 st ↔ GoC fns Q s k22_7 st := Iff.rfl
def k22_9 : ACode :=
  .loop lc22_0
@[simp] theorem xk22_9 : GoC fns Q s k22_9 st ↔ (LoopR fns lc22_0 st fun r => GoE fns Q s r.1 r.2) := goC_loop
def k22_10 : ACode :=
  .block 0 k22_9
@[simp] theorem xk22_10 : GoC fns Q s k22_10 st ↔ GoC fns Q (.bl 0 :: s) k22_9 st := goC_block
def k22_11 : ACode :=
  .seq k22_10 k22_0
@[simp] theorem xk22_11 : GoC fns Q s k22_11 st ↔ GoC fns Q (.sq k22_0 :: s) k22_10 st := goC_seq
def k22_12 : ACode :=
  .ops [⟨.assign (.c (.int .i64 0)), (some 4), none⟩] k22_11
@[simp] theorem xk22_12 : GoC fns Q s k22_12 st ↔ GoO fns Q s [⟨.assign (.c (.int .i64 0)), (some 4), none⟩] k22_11 st := goC_ops
def k22_13 : ACode :=
  .ops q22_4 k22_12
@[simp] theorem xk22_13 : GoC fns Q s k22_13 st ↔ GoO fns Q s q22_4 k22_12 st := goC_ops
def k22_14 : ACode :=
  .ops [⟨.newbox 2 [.int .i64 0, .str [], .str [], .int .i64 0, .int .u64 0, .int .u64 0, .slice .nil 0 1 [], .slice .nil 0 1 []], (some 2), none⟩] k22_13
@[simp] theorem xk22_14 : GoC fns Q s k22_14 st ↔ GoO fns Q s [⟨.newbox 2 [.int .i64 0, .str [], .str [], .int .i64 0, .int .u64 0, .int .u64 0, .slice .nil 0 1 [], .slice .nil 0 1 []], (some 2), none⟩] k22_13 st := goC_ops
def af22 : AFunc := ⟨25, k22_14, [.cell 2 true 8], fun _ _ => none⟩

theorem ok22 : ∃ hs, pFunc Tryz.prog sg hs Tryz.f22 = some af22 := ⟨fun i => 0, by kernel_rfl⟩
def q69_0 : List AOper :=
  [⟨.move .take (.p 5), (some 31), none⟩,
    ⟨.assign (.p 31), (some 4), none⟩]
@[simp] def eq69_0 := id q69_0.eq_1
def q69_1 : List AOper :=
  [⟨.move .look (.p 6), (some 17), none⟩,
    ⟨.bin .add 1 true (.p 17) (.c (.int .i64 1)), (some 18), none⟩,
    ⟨.assign (.p 18), (some 6), none⟩]
@[simp] def eq69_1 := id q69_1.eq_1
def q69_2 : List AOper :=
  [⟨.move .look (.p 5), (some 19), none⟩,
    ⟨.fieldAddr 7 (.p 2), (some 20), none⟩,
    ⟨.load .look false 1 (.p 20), (some 21), none⟩,
    ⟨.move .look (.p 6), (some 22), none⟩,
    ⟨.indexAddr 9 (.t 21) (.p 22), (some 23), none⟩,
    ⟨.fieldAddr 1 (.p 23), (some 24), none⟩,
    ⟨.load .look true 8 (.p 24), (some 25), none⟩,
    ⟨.move .look (.p 1), (some 26), none⟩,
    ⟨.move .look (.p 5), (some 27), none⟩,
    ⟨.bin .sub 1 false (.p 26) (.p 27), (some 28), none⟩,
    ⟨.call 69 [(.p 25, false), (.p 28, false)], (some 29), none⟩,
    ⟨.bin .add 1 false (.p 19) (.p 29), (some 30), none⟩,
    ⟨.assign (.p 30), (some 5), none⟩]
@[simp] def eq69_2 := id q69_2.eq_1
def q69_3 : List AOper :=
  [⟨.move .look (.p 6), (some 7), none⟩,
    ⟨.fieldAddr 7 (.p 2), (some 8), none⟩,
    ⟨.load .head false 1 (.p 8), (some 9), none⟩,
    ⟨.len false (.p 9), (some 10), none⟩,
    ⟨.bin .lss 1 false (.p 7) (.p 10), (some 11), none⟩,
    ⟨.move .look (.p 11), (some 12), none⟩,
    ⟨.move .look (.p 5), (some 13), (some (12, true))⟩,
    ⟨.move .look (.p 1), (some 14), (some (12, true))⟩,
    ⟨.bin .leq 1 false (.p 13) (.p 14), (some 15), (some (12, true))⟩,
    ⟨.pick (.p 12) (.p 15) (.c (.bool false)), (some 16), none⟩]
@[simp] def eq69_3 := id q69_3.eq_1
def q69_4 : List AOper :=
  [⟨.box 2 (.p 0), (some 2), none⟩,
    ⟨.assign (.c (.int .i64 0)), (some 4), none⟩]
@[simp] def eq69_4 := id q69_4.eq_1
def k69_0 : ACode :=
  .ops q69_0 .ret
@[simp] theorem xk69_0 : GoC fns Q s k69_0 st ↔ GoO fns Q s q69_0 .ret st := goC_ops
def k69_1 : ACode :=
  .ops q69_1 .skip
@[simp] theorem xk69_1 : GoC fns Q s k69_1 st ↔ GoO fns Q s q69_1 .skip st := goC_ops
def k69_2 : ACode :=
  .ops q69_2 .skip
@[simp] theorem xk69_2 : GoC fns Q s k69_2 st ↔ GoO fns Q s q69_2 .skip st := goC_ops
def k69_3 : ACode :=
  .block 1 k69_2
@[simp] theorem xk69_3 : GoC fns Q s k69_3 st ↔ GoC fns Q (.bl 1 :: s) k69_2 st := goC_block
def k69_4 : ACode :=
  .seq k69_3 k69_1
@[simp] theorem xk69_4 : GoC fns Q s k69_4 st ↔ GoC fns Q (.sq k69_1 :: s) k69_3 st := goC_seq
def k69_5 : ACode :=
  .cond (.p 16) .skip (.exit 0)
@[simp] theorem xk69_5 : GoC fns Q s k69_5 st ↔ GB fns Q s (peek st (.p 16)) .skip (.exit 0) st := goC_cond
def k69_6 : ACode :=
  .seq k69_5 k69_4
@[simp] theorem xk69_6 : GoC fns Q s k69_6 st ↔ GoC fns Q (.sq k69_4 :: s) k69_5 st := goC_seq
def k69_7 : ACode :=
  .ops q69_3 k69_6
@[simp] theorem xk69_7 : GoC fns Q s k69_7 st ↔ GoO fns Q s q69_3 k69_6 st := goC_ops
def lc69_0 : ACode :=
  k69_7
@[simp] theorem xlc69_0 : GoC fns Q s lc69_0 st ↔ GoC fns Q s k69_7 st := Iff.rfl
def k69_9 : ACode :=
  .loop lc69_0
@[simp] theorem xk69_9 : GoC fns Q s k69_9 st ↔ (LoopR fns lc69_0 st fun r => GoE fns Q s r.1 r.2) := goC_loop
def k69_10 : ACode :=
  .block 0 k69_9
@[simp] theorem xk69_10 : GoC fns Q s k69_10 st ↔ GoC fns Q (.bl 0 :: s) k69_9 st := goC_block
def k69_11 : ACode :=
  .seq k69_10 k69_0
@[simp] theorem xk69_11 : GoC fns Q s k69_11 st ↔ GoC fns Q (.sq k69_0 :: s) k69_10 st := goC_seq
def k69_12 : ACode :=
  .ops [⟨.assign (.c (.int .i64 0)), (some 6), none⟩] k69_11
@[simp] theorem xk69_12 : GoC fns Q s k69_12 st ↔ GoO fns Q s [⟨.assign (.c (.int .i64 0)), (some 6), none⟩] k69_11 st := goC_ops
def k69_13 : ACode :=
  .ops [⟨.assign (.c (.int .i64 1)), (some 5), none⟩] k69_12
@[simp] theorem xk69_13 : GoC fns Q s k69_13 st ↔ GoO fns Q s [⟨.assign (.c (.int .i64 1)), (some 5), none⟩] k69_12 st := goC_ops
def k69_14 : ACode :=
  .ops q69_4 k69_13
@[simp] theorem xk69_14 : GoC fns Q s k69_14 st ↔ GoO fns Q s q69_4 k69_13 st := goC_ops
def af69 : AFunc := ⟨32, k69_14, [.tmp 4], fun _ _ => none⟩

theorem ok69 : ∃ hs, pFunc Tryz.prog sg hs Tryz.f69 = some af69 := ⟨fun i => 0, by kernel_rfl⟩
def q91_0 : List AOper :=
  [⟨.move .look (.p 0), (some 3), none⟩,
    ⟨.bin .geq 1 true (.p 3) (.c (.int .i64 1)), (some 4), none⟩,
    ⟨.move .look (.p 4), (some 5), none⟩,
    ⟨.move .look (.p 0), (some 6), (some (5, true))⟩,
    ⟨.bin .leq 1 true (.p 6) (.c (.int .i64 19)), (some 7), (some (5, true))⟩,
    ⟨.pick (.p 5) (.p 7) (.c (.bool false)), (some 8), none⟩,
    ⟨.move .look (.p 8), (some 9), none⟩,
    ⟨.move .head (.p 0), (some 10), (some (9, false))⟩,
    ⟨.bin .eql 1 true (.p 10) (.c (.int .i64 255)), (some 11), (some (9, false))⟩,
    ⟨.pick (.p 9) (.c (.bool true)) (.p 11), (some 12), none⟩,
    ⟨.move .look (.p 12), (some 13), none⟩,
    ⟨.move .head (.p 0), (some 14), (some (13, false))⟩,
    ⟨.bin .eql 1 true (.p 14) (.c (.int .i64 127)), (some 15), (some (13, false))⟩,
    ⟨.pick (.p 13) (.c (.bool true)) (.p 15), (some 16), none⟩,
    ⟨.assign (.p 16), (some 2), none⟩]
@[simp] def eq91_0 := id q91_0.eq_1
def k91_0 : ACode :=
  .ops q91_0 .ret
@[simp] theorem xk91_0 : GoC fns Q s k91_0 st ↔ GoO fns Q s q91_0 .ret st := goC_ops
def k91_1 : ACode :=
  .ops [⟨.assign (.c (.bool false)), (some 2), none⟩] k91_0
@[simp] theorem xk91_1 : GoC fns Q s k91_1 st ↔ GoO fns Q s [⟨.assign (.c (.bool false)), (some 2), none⟩] k91_0 st := goC_ops
def af91 : AFunc := ⟨17, k91_1, [.tmp 2], fun _ _ => none⟩

theorem ok91 : ∃ hs, pFunc Tryz.prog sg hs Tryz.f91 = some af91 := ⟨fun i => 0, by kernel_rfl⟩
def q223_0 : List AOper :=
  [⟨.load .take true 8 (.p 1), (some 47), none⟩,
    ⟨.store 8 (.p 2) (.p 47), none, none⟩]
@[simp] def eq223_0 := id q223_0.eq_1
def q223_1 : List AOper :=
  [⟨.fieldAddr 4 (.p 1), (some 8), none⟩,
    ⟨.store 1 (.p 8) (.c (.int .u64 0)), none, none⟩]
@[simp] def eq223_1 := id q223_1.eq_1
def q223_2 : List AOper :=
  [⟨.fieldAddr 1 (.p 1), (some 13), none⟩,
    ⟨.store 1 (.p 13) (.c (.str [])), none, none⟩]
@[simp] def eq223_2 := id q223_2.eq_1
def q223_3 : List AOper :=
  [⟨.fieldAddr 7 (.p 1), (some 17), none⟩,
    ⟨.store 1 (.p 17) (.c (.slice .nil 0 1 [])), none, none⟩]
@[simp] def eq223_3 := id q223_3.eq_1
def q223_4 : List AOper :=
  [⟨.fieldAddr 3 (.p 1), (some 20), none⟩,
    ⟨.store 1 (.p 20) (.c (.int .i64 0)), none, none⟩,
    ⟨.fieldAddr 6 (.p 1), (some 21), none⟩,
    ⟨.store 1 (.p 21) (.c (.slice .nil 0 1 [])), none, none⟩]
@[simp] def eq223_4 := id q223_4.eq_1
def q223_5 : List AOper :=
  [⟨.fieldAddr 6 (.p 1), (some 24), none⟩,
    ⟨.store 1 (.p 24) (.c (.slice .nil 0 1 [])), none, none⟩]
@[simp] def eq223_5 := id q223_5.eq_1
def q223_6 : List AOper :=
  [⟨.fieldAddr 3 (.p 1), (some 30), none⟩,
    ⟨.store 1 (.p 30) (.c (.int .i64 0)), none, none⟩]
@[simp] def eq223_6 := id q223_6.eq_1
def q223_7 : List AOper :=
  [⟨.fieldAddr 1 (.p 1), (some 33), none⟩,
    ⟨.store 1 (.p 33) (.c (.str [])), none, none⟩,
    ⟨.fieldAddr 2 (.p 1), (some 34), none⟩,
    ⟨.store 1 (.p 34) (.c (.str [])), none, none⟩]
@[simp] def eq223_7 := id q223_7.eq_1
def q223_8 : List AOper :=
  [⟨.fieldAddr 1 (.p 1), (some 37), none⟩,
    ⟨.store 1 (.p 37) (.c (.str [])), none, none⟩,
    ⟨.fieldAddr 6 (.p 1), (some 38), none⟩,
    ⟨.store 1 (.p 38) (.c (.slice .nil 0 1 [])), none, none⟩]
@[simp] def eq223_8 := id q223_8.eq_1
def q223_9 : List AOper :=
  [⟨.fieldAddr 1 (.p 1), (some 41), none⟩,
    ⟨.store 1 (.p 41) (.c (.str [])), none, none⟩,
    ⟨.fieldAddr 7 (.p 1), (some 42), none⟩,
    ⟨.store 1 (.p 42) (.c (.slice .nil 0 1 [])), none, none⟩]
@[simp] def eq223_9 := id q223_9.eq_1
def q223_10 : List AOper :=
  [⟨.fieldAddr 4 (.p 1), (some 45), none⟩,
    ⟨.store 1 (.p 45) (.c (.int .u64 0)), none, none⟩,
    ⟨.fieldAddr 5 (.p 1), (some 46), none⟩,
    ⟨.store 1 (.p 46) (.c (.int .u64 0)), none, none⟩]
@[simp] def eq223_10 := id q223_10.eq_1
def q223_11 : List AOper :=
  [⟨.bin .eql 1 true (.p 4) (.c (.int .i64 19)), (some 44), none⟩,
    ⟨.assign (.p 44), (some 43), none⟩]
@[simp] def eq223_11 := id q223_11.eq_1
def q223_12 : List AOper :=
  [⟨.bin .eql 1 true (.p 4) (.c (.int .i64 15)), (some 40), none⟩,
    ⟨.assign (.p 40), (some 39), none⟩]
@[simp] def eq223_12 := id q223_12.eq_1
def q223_13 : List AOper :=
  [⟨.bin .eql 1 true (.p 4) (.c (.int .i64 12)), (some 36), none⟩,
    ⟨.assign (.p 36), (some 35), none⟩]
@[simp] def eq223_13 := id q223_13.eq_1
def q223_14 : List AOper :=
  [⟨.bin .eql 1 true (.p 4) (.c (.int .i64 11)), (some 32), none⟩,
    ⟨.assign (.p 32), (some 31), none⟩]
@[simp] def eq223_14 := id q223_14.eq_1
def q223_15 : List AOper :=
  [⟨.bin .eql 1 true (.p 4) (.c (.int .i64 18)), (some 29), none⟩,
    ⟨.assign (.p 29), (some 25), none⟩]
@[simp] def eq223_15 := id q223_15.eq_1
def q223_16 : List AOper :=
  [⟨.bin .eql 1 true (.p 4) (.c (.int .i64 16)), (some 28), none⟩,
    ⟨.assign (.p 28), (some 25), none⟩]
@[simp] def eq223_16 := id q223_16.eq_1
def q223_17 : List AOper :=
  [⟨.bin .eql 1 true (.p 4) (.c (.int .i64 9)), (some 27), none⟩,
    ⟨.assign (.p 27), (some 25), none⟩]
@[simp] def eq223_17 := id q223_17.eq_1
def q223_18 : List AOper :=
  [⟨.bin .eql 1 true (.p 4) (.c (.int .i64 8)), (some 26), none⟩,
    ⟨.assign (.p 26), (some 25), none⟩]
@[simp] def eq223_18 := id q223_18.eq_1
def q223_19 : List AOper :=
  [⟨.bin .eql 1 true (.p 4) (.c (.int .i64 7)), (some 23), none⟩,
    ⟨.assign (.p 23), (some 22), none⟩]
@[simp] def eq223_19 := id q223_19.eq_1
def q223_20 : List AOper :=
  [⟨.bin .eql 1 true (.p 4) (.c (.int .i64 5)), (some 19), none⟩,
    ⟨.assign (.p 19), (some 18), none⟩]
@[simp] def eq223_20 := id q223_20.eq_1
def q223_21 : List AOper :=
  [⟨.bin .eql 1 true (.p 4) (.c (.int .i64 4)), (some 16), none⟩,
    ⟨.assign (.p 16), (some 14), none⟩]
@[simp] def eq223_21 := id q223_21.eq_1
def q223_22 : List AOper :=
  [⟨.bin .eql 1 true (.p 4) (.c (.int .i64 3)), (some 15), none⟩,
    ⟨.assign (.p 15), (some 14), none⟩]
@[simp] def eq223_22 := id q223_22.eq_1
def q223_23 : List AOper :=
  [⟨.bin .eql 1 true (.p 4) (.c (.int .i64 14)), (some 12), none⟩,
    ⟨.assign (.p 12), (some 9), none⟩]
@[simp] def eq223_23 := id q223_23.eq_1
def q223_24 : List AOper :=
  [⟨.bin .eql 1 true (.p 4) (.c (.int .i64 13)), (some 11), none⟩,
    ⟨.assign (.p 11), (some 9), none⟩]
@[simp] def eq223_24 := id q223_24.eq_1
def q223_25 : List AOper :=
  [⟨.bin .eql 1 true (.p 4) (.c (.int .i64 2)), (some 10), none⟩,
    ⟨.assign (.p 10), (some 9), none⟩]
@[simp] def eq223_25 := id q223_25.eq_1
def q223_26 : List AOper :=
  [⟨.bin .eql 1 true (.p 4) (.c (.int .i64 17)), (some 7), none⟩,
    ⟨.assign (.p 7), (some 5), none⟩]
@[simp] def eq223_26 := id q223_26.eq_1
def q223_27 : List AOper :=
  [⟨.bin .eql 1 true (.p 4) (.c (.int .i64 1)), (some 6), none⟩,
    ⟨.assign (.p 6), (some 5), none⟩]
@[simp] def eq223_27 := id q223_27.eq_1
def q223_28 : List AOper :=
  [⟨.fieldAddr 0 (.p 1), (some 3), none⟩,
    ⟨.load .head false 1 (.p 3), (some 4), none⟩]
@[simp] def eq223_28 := id q223_28.eq_1
def q223_29 : List AOper :=
  [⟨.box 1 (.p 0), (some 1), none⟩,
    ⟨.newbox 2 [.int .i64 0, .str [], .str [], .int .i64 0, .int .u64 0, .int .u64 0, .slice .nil 0 1 [], .slice .nil 0 1 []], (some 2), none⟩]
@[simp] def eq223_29 := id q223_29.eq_1
def k223_0 : ACode :=
  .ops q223_0 .ret
@[simp] theorem xk223_0 : GoC fns Q s k223_0 st ↔ GoO fns Q s q223_0 .ret st := goC_ops
def k223_1 : ACode :=
  .ops q223_1 .skip
@[simp] theorem xk223_1 : GoC fns Q s k223_1 st ↔ GoO fns Q s q223_1 .skip st := goC_ops
def k223_2 : ACode :=
  .ops q223_2 .skip
@[simp] theorem xk223_2 : GoC fns Q s k223_2 st ↔ GoO fns Q s q223_2 .skip st := goC_ops
def k223_3 : ACode :=
  .ops q223_3 .skip
@[simp] theorem xk223_3 : GoC fns Q s k223_3 st ↔ GoO fns Q s q223_3 .skip st := goC_ops
def k223_4 : ACode :=
  .ops q223_4 .skip
@[simp] theorem xk223_4 : GoC fns Q s k223_4 st ↔ GoO fns Q s q223_4 .skip st := goC_ops
def k223_5 : ACode :=
  .ops q223_5 .skip
@[simp] theorem xk223_5 : GoC fns Q s k223_5 st ↔ GoO fns Q s q223_5 .skip st := goC_ops
def k223_6 : ACode :=
  .ops q223_6 .skip
@[simp] theorem xk223_6 : GoC fns Q s k223_6 st ↔ GoO fns Q s q223_6 .skip st := goC_ops
def k223_7 : ACode :=
  .ops q223_7 .skip
@[simp] theorem xk223_7 : GoC fns Q s k223_7 st ↔ GoO fns Q s q223_7 .skip st := goC_ops
def k223_8 : ACode :=
  .ops q223_8 .skip
@[simp] theorem xk223_8 : GoC fns Q s k223_8 st ↔ GoO fns Q s q223_8 .skip st := goC_ops
def k223_9 : ACode :=
  .ops q223_9 .skip
@[simp] theorem xk223_9 : GoC fns Q s k223_9 st ↔ GoO fns Q s q223_9 .skip st := goC_ops
def k223_10 : ACode :=
  .ops q223_10 .skip
@[simp] theorem xk223_10 : GoC fns Q s k223_10 st ↔ GoO fns Q s q223_10 .skip st := goC_ops
def k223_11 : ACode :=
  .cond (.p 43) k223_10 .skip
@[simp] theorem xk223_11 : GoC fns Q s k223_11 st ↔ GB fns Q s (peek st (.p 43)) k223_10 .skip st := goC_cond
def k223_12 : ACode :=
  .ops q223_11 k223_11
@[simp] theorem xk223_12 : GoC fns Q s k223_12 st ↔ GoO fns Q s q223_11 k223_11 st := goC_ops
def k223_13 : ACode :=
  .cond (.p 39) k223_9 k223_12
@[simp] theorem xk223_13 : GoC fns Q s k223_13 st ↔ GB fns Q s (peek st (.p 39)) k223_9 k223_12 st := goC_cond
def k223_14 : ACode :=
  .ops q223_12 k223_13
@[simp] theorem xk223_14 : GoC fns Q s k223_14 st ↔ GoO fns Q s q223_12 k223_13 st := goC_ops
def k223_15 : ACode :=
  .cond (.p 35) k223_8 k223_14
@[simp] theorem xk223_15 : GoC fns Q s k223_15 st ↔ GB fns Q s (peek st (.p 35)) k223_8 k223_14 st := goC_cond
def k223_16 : ACode :=
  .ops q223_13 k223_15
@[simp] theorem xk223_16 : GoC fns Q s k223_16 st ↔ GoO fns Q s q223_13 k223_15 st := goC_ops
def k223_17 : ACode :=
  .cond (.p 31) k223_7 k223_16
@[simp] theorem xk223_17 : GoC fns Q s k223_17 st ↔ GB fns Q s (peek st (.p 31)) k223_7 k223_16 st := goC_cond
def k223_18 : ACode :=
  .ops q223_14 k223_17
@[simp] theorem xk223_18 : GoC fns Q s k223_18 st ↔ GoO fns Q s q223_14 k223_17 st := goC_ops
def k223_19 : ACode :=
  .cond (.p 25) k223_6 k223_18
@[simp] theorem xk223_19 : GoC fns Q s k223_19 st ↔ GB fns Q s (peek st (.p 25)) k223_6 k223_18 st := goC_cond
def k223_20 : ACode :=
  .ops q223_15 .skip
@[simp] theorem xk223_20 : GoC fns Q s k223_20 st ↔ GoO fns Q s q223_15 .skip st := goC_ops
def k223_21 : ACode :=
  .cond (.p 25) .skip k223_20
@[simp] theorem xk223_21 : GoC fns Q s k223_21 st ↔ GB fns Q s (peek st (.p 25)) .skip k223_20 st := goC_cond
def k223_22 : ACode :=
  .ops q223_16 k223_21
@[simp] theorem xk223_22 : GoC fns Q s k223_22 st ↔ GoO fns Q s q223_16 k223_21 st := goC_ops
def k223_23 : ACode :=
  .cond (.p 25) .skip k223_22
@[simp] theorem xk223_23 : GoC fns Q s k223_23 st ↔ GB fns Q s (peek st (.p 25)) .skip k223_22 st := goC_cond
def k223_24 : ACode :=
  .ops q223_17 k223_23
@[simp] theorem xk223_24 : GoC fns Q s k223_24 st ↔ GoO fns Q s q223_17 k223_23 st := goC_ops
def k223_25 : ACode :=
  .cond (.p 25) .skip k223_24
@[simp] theorem xk223_25 : GoC fns Q s k223_25 st ↔ GB fns Q s (peek st (.p 25)) .skip k223_24 st := goC_cond
def k223_26 : ACode :=
  .seq k223_25 k223_19
@[simp] theorem xk223_26 : GoC fns Q s k223_26 st ↔ GoC fns Q (.sq k223_19 :: s) k223_25 st := goC_seq
def k223_27 : ACode :=
  .ops q223_18 k223_26
@[simp] theorem xk223_27 : GoC fns Q s k223_27 st ↔ GoO fns Q s q223_18 k223_26 st := goC_ops
def k223_28 : ACode :=
  .cond (.p 22) k223_5 k223_27
@[simp] theorem xk223_28 : GoC fns Q s k223_28 st ↔ GB fns Q s (peek st (.p 22)) k223_5 k223_27 st := goC_cond
def k223_29 : ACode :=
  .ops q223_19 k223_28
@[simp] theorem xk223_29 : GoC fns Q s k223_29 st ↔ GoO fns Q s q223_19 k223_28 st := goC_ops
def k223_30 : ACode :=
  .cond (.p 18) k223_4 k223_29
@[simp] theorem xk223_30 : GoC fns Q s k223_30 st ↔ GB fns Q s (peek st (.p 18)) k223_4 k223_29 st := goC_cond
def k223_31 : ACode :=
  .ops q223_20 k223_30
@[simp] theorem xk223_31 : GoC fns Q s k223_31 st ↔ GoO fns Q s q223_20 k223_30 st := goC_ops
def k223_32 : ACode :=
  .cond (.p 14) k223_3 k223_31
@[simp] theorem xk223_32 : GoC fns Q s k223_32 st ↔ GB fns Q s (peek st (.p 14)) k223_3 k223_31 st := goC_cond
def k223_33 : ACode :=
  .ops q223_21 .skip
@[simp] theorem xk223_33 : GoC fns Q s k223_33 st ↔ GoO fns Q s q223_21 .skip st := goC_ops
def k223_34 : ACode :=
  .cond (.p 14) .skip k223_33
@[simp] theorem xk223_34 : GoC fns Q s k223_34 st ↔ GB fns Q s (peek st (.p 14)) .skip k223_33 st := goC_cond
def k223_35 : ACode :=
  .seq k223_34 k223_32
@[simp] theorem xk223_35 : GoC fns Q s k223_35 st ↔ GoC fns Q (.sq k223_32 :: s) k223_34 st := goC_seq
def k223_36 : ACode :=
  .ops q223_22 k223_35
@[simp] theorem xk223_36 : GoC fns Q s k223_36 st ↔ GoO fns Q s q223_22 k223_35 st := goC_ops
def k223_37 : ACode :=
  .cond (.p 9) k223_2 k223_36
@[simp] theorem xk223_37 : GoC fns Q s k223_37 st ↔ GB fns Q s (peek st (.p 9)) k223_2 k223_36 st := goC_cond
def k223_38 : ACode :=
  .ops q223_23 .skip
@[simp] theorem xk223_38 : GoC fns Q s k223_38 st ↔ GoO fns Q s q223_23 .skip st := goC_ops
def k223_39 : ACode :=
  .cond (.p 9) .skip k223_38
@[simp] theorem xk223_39 : GoC fns Q s k223_39 st ↔ GB fns Q s (peek st (.p 9)) .skip k223_38 st := goC_cond
def k223_40 : ACode :=
  .ops q223_24 k223_39
@[simp] theorem xk223_40 : GoC fns Q s k223_40 st ↔ GoO fns Q s q223_24 k223_39 st := goC_ops
def k223_41 : ACode :=
  .cond (.p 9) .skip k223_40
@[simp] theorem xk223_41 : GoC fns Q s k223_41 st ↔ GB fns Q s (peek st (.p 9)) .skip k223_40 st := goC_cond
def k223_42 : ACode :=
  .seq k223_41 k223_37
@[simp] theorem xk223_42 : GoC fns Q s k223_42 st ↔ GoC fns Q (.sq k223_37 :: s) k223_41 st := goC_seq
def k223_43 : ACode :=
  .ops q223_25 k223_42
@[simp] theorem xk223_43 : GoC fns Q s k223_43 st ↔ GoO fns Q s q223_25 k223_42 st := goC_ops
def k223_44 : ACode :=
  .cond (.p 5) k223_1 k223_43
@[simp] theorem xk223_44 : GoC fns Q s k223_44 st ↔ GB fns Q s (peek st (.p 5)) k223_1 k223_43 st := goC_cond
def k223_45 : ACode :=
  .ops q223_26 .skip
@[simp] theorem xk223_45 : GoC fns Q s k223_45 st ↔ GoO fns Q s q223_26 .skip st := goC_ops
def k223_46 : ACode :=
  .cond (.p 5) .skip k223_45
@[simp] theorem xk223_46 : GoC fns Q s k223_46 st ↔ GB fns Q s (peek st (.p 5)) .skip k223_45 st := goC_cond
def k223_47 : ACode :=
  .seq k223_46 k223_44
@[simp] theorem xk223_47 : GoC fns Q s k223_47 st ↔ GoC fns Q (.sq k223_44 :: s) k223_46 st := goC_seq
def k223_48 : ACode :=
  .ops q223_27 k223_47
@[simp] theorem xk223_48 : GoC fns Q s k223_48 st ↔ GoO fns Q s q223_27 k223_47 st := goC_ops
def k223_49 : ACode :=
  .block 0 k223_48
@[simp] theorem xk223_49 : GoC fns Q s k223_49 st ↔ GoC fns Q (.bl 0 :: s) k223_48 st := goC_block
def k223_50 : ACode :=
  .seq k223_49 k223_0
@[simp] theorem xk223_50 : GoC fns Q s k223_50 st ↔ GoC fns Q (.sq k223_0 :: s) k223_49 st := goC_seq
def k223_51 : ACode :=
  .ops q223_28 k223_50
@[simp] theorem xk223_51 : GoC fns Q s k223_51 st ↔ GoO fns Q s q223_28 k223_50 st := goC_ops
def k223_52 : ACode :=
  .ops q223_29 k223_51
@[simp] theorem xk223_52 : GoC fns Q s k223_52 st ↔ GoO fns Q s q223_29 k223_51 st := goC_ops
def af223 : AFunc := ⟨48, k223_52, [.cell 2 true 8], fun _ _ => none⟩

theorem ok223 : ∃ hs, pFunc Tryz.prog sg hs Tryz.f223 = some af223 := ⟨fun i => 0, by kernel_rfl⟩
def q224_0 : List AOper :=
  [⟨.move .look (.p 3), (some 8), none⟩,
    ⟨.bin .add 1 true (.p 8) (.c (.int .i64 1)), (some 9), none⟩,
    ⟨.assign (.p 9), (some 3), none⟩]
@[simp] def eq224_0 := id q224_0.eq_1
def q224_1 : List AOper :=
  [⟨.move .look (.p 0), (some 10), none⟩,
    ⟨.move .look (.p 3), (some 11), none⟩,
    ⟨.indexStr (.p 10) (.p 11), (some 12), none⟩,
    ⟨.bin .eql 1 true (.p 12) (.c (.int .u8 0)), (some 13), none⟩]
@[simp] def eq224_1 := id q224_1.eq_1
def q224_2 : List AOper :=
  [⟨.move .look (.p 3), (some 4), none⟩,
    ⟨.move .head (.p 0), (some 5), none⟩,
    ⟨.len true (.p 5), (some 6), none⟩,
    ⟨.bin .lss 1 false (.p 4) (.p 6), (some 7), none⟩]
@[simp] def eq224_2 := id q224_2.eq_1
def k224_0 : ACode :=
  .ops [⟨.assign (.c (.bool true)), (some 2), none⟩] .ret
@[simp] theorem xk224_0 : GoC fns Q s k224_0 st ↔ GoO fns Q s [⟨.assign (.c (.bool true)), (some 2), none⟩] .ret st := goC_ops
def k224_1 : ACode :=
  .ops q224_0 .skip
@[simp] theorem xk224_1 : GoC fns Q s k224_1 st ↔ GoO fns Q s q224_0 .skip st := goC_ops
def k224_2 : ACode :=
  .ops [⟨.assign (.c (.bool false)), (some 2), none⟩] .ret
@[simp] theorem xk224_2 : GoC fns Q s k224_2 st ↔ GoO fns Q s [⟨.assign (.c (.bool false)), (some 2), none⟩] .ret st := goC_ops
def k224_3 : ACode :=
  .cond (.p 13) k224_2 .skip
@[simp] theorem xk224_3 : GoC fns Q s k224_3 st ↔ GB fns Q s (peek st (.p 13)) k224_2 .skip st := goC_cond
def k224_4 : ACode :=
  .ops q224_1 k224_3
@[simp] theorem xk224_4 : GoC fns Q s k224_4 st ↔ GoO fns Q s q224_1 k224_3 st := goC_ops
def k224_5 : ACode :=
  .block 1 k224_4
@[simp] theorem xk224_5 : GoC fns Q s k224_5 st ↔ GoC fns Q (.bl 1 :: s) k224_4 st := goC_block
def k224_6 : ACode :=
  .seq k224_5 k224_1
@[simp] theorem xk224_6 : GoC fns Q s k224_6 st ↔ GoC fns Q (.sq k224_1 :: s) k224_5 st := goC_seq
def k224_7 : ACode :=
  .cond (.p 7) .skip (.exit 0)
@[simp] theorem xk224_7 : GoC fns Q s k224_7 st ↔ GB fns Q s (peek st (.p 7)) .skip (.exit 0) st := goC_cond
def k224_8 : ACode :=
  .seq k224_7 k224_6
@[simp] theorem xk224_8 : GoC fns Q s k224_8 st ↔ GoC fns Q (.sq k224_6 :: s) k224_7 st := goC_seq
def k224_9 : ACode :=
  .ops q224_2 k224_8
@[simp] theorem xk224_9 : GoC fns Q s k224_9 st ↔ GoO fns Q s q224_2 k224_8 st := goC_ops
def lc224_0 : ACode :=
  k224_9
@[simp] theorem xlc224_0 : GoC fns Q s lc224_0 st ↔ GoC fns Q s k224_9 st := Iff.rfl
def k224_11 : ACode :=
  .loop lc224_0
@[simp] theorem xk224_11 : GoC fns Q s k224_11 st ↔ (LoopR fns lc224_0 st fun r => GoE fns Q s r.1 r.2) := goC_loop
def k224_12 : ACode :=
  .block 0 k224_11
@[simp] theorem xk224_12 : GoC fns Q s k224_12 st ↔ GoC fns Q (.bl 0 :: s) k224_11 st := goC_block
def k224_13 : ACode :=
  .seq k224_12 k224_0
@[simp] theorem xk224_13 : GoC fns Q s k224_13 st ↔ GoC fns Q (.sq k224_0 :: s) k224_12 st := goC_seq
def k224_14 : ACode :=
  .ops [⟨.assign (.c (.int .i64 0)), (some 3), none⟩] k224_13
@[simp] theorem xk224_14 : GoC fns Q s k224_14 st ↔ GoO fns Q s [⟨.assign (.c (.int .i64 0)), (some 3), none⟩] k224_13 st := goC_ops
def k224_15 : ACode :=
  .ops [⟨.assign (.c (.bool false)), (some 2), none⟩] k224_14
@[simp] theorem xk224_15 : GoC fns Q s k224_15 st ↔ GoO fns Q s [⟨.assign (.c (.bool false)), (some 2), none⟩] k224_14 st := goC_ops
def af224 : AFunc := ⟨14, k224_15, [.tmp 2], fun _ _ => none⟩

theorem ok224 : ∃ hs, pFunc Tryz.prog sg hs Tryz.f224 = some af224 := ⟨fun i => 0, by kernel_rfl⟩
def rg167_4 : List AOper :=
  [⟨.fieldAddr 1 (.p 5), (some 18), none⟩,
    ⟨.load .head false 1 (.p 18), (some 19), none⟩,
    ⟨.bin .neq 2 true (.p 19) (.c (.str [])), (some 20), none⟩,
    ⟨.move .look (.p 20), (some 21), none⟩,
    ⟨.fieldAddr 2 (.p 5), (some 22), (some (21, false))⟩,
    ⟨.load .head false 1 (.p 22), (some 23), (some (21, false))⟩,
    ⟨.bin .neq 2 true (.p 23) (.c (.str [])), (some 24), (some (21, false))⟩,
    ⟨.pick (.p 21) (.c (.bool true)) (.p 24), (some 25), none⟩,
    ⟨.move .look (.p 25), (some 26), none⟩,
    ⟨.fieldAddr 3 (.p 5), (some 27), (some (26, false))⟩,
    ⟨.load .head false 1 (.p 27), (some 28), (some (26, false))⟩,
    ⟨.bin .neq 1 true (.p 28) (.c (.int .i64 0)), (some 29), (some (26, false))⟩,
    ⟨.pick (.p 26) (.c (.bool true)) (.p 29), (some 30), none⟩,
    ⟨.move .look (.p 30), (some 31), none⟩,
    ⟨.fieldAddr 4 (.p 5), (some 32), (some (31, false))⟩,
    ⟨.load .head false 1 (.p 32), (some 33), (some (31, false))⟩,
    ⟨.bin .neq 1 true (.p 33) (.c (.int .u64 0)), (some 34), (some (31, false))⟩,
    ⟨.pick (.p 31) (.c (.bool true)) (.p 34), (some 35), none⟩,
    ⟨.move .look (.p 35), (some 36), none⟩,
    ⟨.fieldAddr 5 (.p 5), (some 37), (some (36, false))⟩,
    ⟨.load .head false 1 (.p 37), (some 38), (some (36, false))⟩,
    ⟨.bin .neq 1 true (.p 38) (.c (.int .u64 0)), (some 39), (some (36, false))⟩,
    ⟨.pick (.p 36) (.c (.bool true)) (.p 39), (some 40), none⟩,
    ⟨.move .look (.p 40), (some 41), none⟩,
    ⟨.fieldAddr 6 (.p 5), (some 42), (some (41, false))⟩,
    ⟨.load .head false 1 (.p 42), (some 43), (some (41, false))⟩,
    ⟨.len false (.p 43), (some 44), (some (41, false))⟩,
    ⟨.bin .neq 1 true (.p 44) (.c (.int .i64 0)), (some 45), (some (41, false))⟩,
    ⟨.pick (.p 41) (.c (.bool true)) (.p 45), (some 46), none⟩,
    ⟨.move .look (.p 46), (some 47), none⟩,
    ⟨.fieldAddr 7 (.p 5), (some 48), (some (47, false))⟩,
    ⟨.load .head false 1 (.p 48), (some 49), (some (47, false))⟩,
    ⟨.len false (.p 49), (some 50), (some (47, false))⟩,
    ⟨.bin .neq 1 true (.p 50) (.c (.int .i64 0)), (some 51), (some (47, false))⟩,
    ⟨.pick (.p 47) (.c (.bool true)) (.p 51), (some 52), none⟩]
theorem org167_4 : GoO fns Q s rg167_4 c st ↔ GoO fns Q s [⟨.fieldAddr 1 (.p 5), (some 18), none⟩,
    ⟨.load .head false 1 (.p 18), (some 19), none⟩,
    ⟨.bin .neq 2 true (.p 19) (.c (.str [])), (some 20), none⟩,
    ⟨.move .look (.p 20), (some 21), none⟩,
    ⟨.fieldAddr 2 (.p 5), (some 22), (some (21, false))⟩,
    ⟨.load .head false 1 (.p 22), (some 23), (some (21, false))⟩,
    ⟨.bin .neq 2 true (.p 23) (.c (.str [])), (some 24), (some (21, false))⟩,
    ⟨.pick (.p 21) (.c (.bool true)) (.p 24), (some 25), none⟩,
    ⟨.move .look (.p 25), (some 26), none⟩,
    ⟨.fieldAddr 3 (.p 5), (some 27), (some (26, false))⟩,
    ⟨.load .head false 1 (.p 27), (some 28), (some (26, false))⟩,
    ⟨.bin .neq 1 true (.p 28) (.c (.int .i64 0)), (some 29), (some (26, false))⟩,
    ⟨.pick (.p 26) (.c (.bool true)) (.p 29), (some 30), none⟩,
    ⟨.move .look (.p 30), (some 31), none⟩,
    ⟨.fieldAddr 4 (.p 5), (some 32), (some (31, false))⟩,
    ⟨.load .head false 1 (.p 32), (some 33), (some (31, false))⟩,
    ⟨.bin .neq 1 true (.p 33) (.c (.int .u64 0)), (some 34), (some (31, false))⟩,
    ⟨.pick (.p 31) (.c (.bool true)) (.p 34), (some 35), none⟩,
    ⟨.move .look (.p 35), (some 36), none⟩,
    ⟨.fieldAddr 5 (.p 5), (some 37), (some (36, false))⟩,
    ⟨.load .head false 1 (.p 37), (some 38), (some (36, false))⟩,
    ⟨.bin .neq 1 true (.p 38) (.c (.int .u64 0)), (some 39), (some (36, false))⟩,
    ⟨.pick (.p 36) (.c (.bool true)) (.p 39), (some 40), none⟩,
    ⟨.move .look (.p 40), (some 41), none⟩,
    ⟨.fieldAddr 6 (.p 5), (some 42), (some (41, false))⟩,
    ⟨.load .head false 1 (.p 42), (some 43), (some (41, false))⟩,
    ⟨.len false (.p 43), (some 44), (some (41, false))⟩,
    ⟨.bin .neq 1 true (.p 44) (.c (.int .i64 0)), (some 45), (some (41, false))⟩,
    ⟨.pick (.p 41) (.c (.bool true)) (.p 45), (some 46), none⟩,
    ⟨.move .look (.p 46), (some 47), none⟩,
    ⟨.fieldAddr 7 (.p 5), (some 48), (some (47, false))⟩,
    ⟨.load .head false 1 (.p 48), (some 49), (some (47, false))⟩,
    ⟨.len false (.p 49), (some 50), (some (47, false))⟩,
    ⟨.bin .neq 1 true (.p 50) (.c (.int .i64 0)), (some 51), (some (47, false))⟩,
    ⟨.pick (.p 47) (.c (.bool true)) (.p 51), (some 52), none⟩] c st := Iff.rfl
def q167_0 : List AOper :=
  [⟨.move .look (.p 6), (some 107), none⟩,
    ⟨.bin .add 1 true (.p 107) (.c (.int .i64 1)), (some 108), none⟩,
    ⟨.assign (.p 108), (some 6), none⟩]
@[simp] def eq167_0 := id q167_0.eq_1
def q167_1 : List AOper :=
  [⟨.fieldAddr 0 (.p 7), (some 114), none⟩,
    ⟨.load .look false 1 (.p 114), (some 115), none⟩,
    ⟨.call 224 [(.p 115, false)], (some 116), none⟩,
    ⟨.un .not (.p 116), (some 117), none⟩,
    ⟨.move .look (.p 117), (some 118), none⟩,
    ⟨.fieldAddr 0 (.p 2), (some 119), (some (118, false))⟩,
    ⟨.load .head false 1 (.p 119), (some 120), (some (118, false))⟩,
    ⟨.bin .eql 1 true (.p 120) (.c (.int .i64 4)), (some 121), (some (118, false))⟩,
    ⟨.move .look (.p 121), (some 122), (some (118, false))⟩,
    ⟨.fieldAddr 0 (.p 7), (some 123), (some (122, true))⟩,
    ⟨.load .head false 1 (.p 123), (some 124), (some (122, true))⟩,
    ⟨.move .look (.p 6), (some 125), (some (122, true))⟩,
    ⟨.call 68 [(.p 125, false)], (some 126), (some (122, true))⟩,
    ⟨.bin .neq 2 false (.p 124) (.p 126), (some 127), (some (122, true))⟩,
    ⟨.pick (.p 122) (.p 127) (.c (.bool false)), (some 128), (some (118, false))⟩,
    ⟨.pick (.p 118) (.c (.bool true)) (.p 128), (some 129), none⟩,
    ⟨.move .look (.p 129), (some 130), none⟩,
    ⟨.fieldAddr 1 (.p 7), (some 131), (some (130, false))⟩,
    ⟨.load .look true 8 (.p 131), (some 132), (some (130, false))⟩,
    ⟨.move .look (.p 1), (some 133), (some (130, false))⟩,
    ⟨.bin .sub 1 true (.p 133) (.c (.int .i64 1)), (some 134), (some (130, false))⟩,
    ⟨.call 167 [(.p 132, false), (.p 134, false)], (some 135), (some (130, false))⟩,
    ⟨.un .not (.p 135), (some 136), (some (130, false))⟩,
    ⟨.pick (.p 130) (.c (.bool true)) (.p 136), (some 137), none⟩]
@[simp] def eq167_1 := id q167_1.eq_1
def q167_2 : List AOper :=
  [⟨.fieldAddr 7 (.p 2), (some 109), none⟩,
    ⟨.load .look false 1 (.p 109), (some 110), none⟩,
    ⟨.move .look (.p 6), (some 111), none⟩,
    ⟨.indexAddr 9 (.t 110) (.p 111), (some 112), none⟩,
    ⟨.load .take true 9 (.p 112), (some 113), none⟩,
    ⟨.newbox 7 [.str [], .int .i64 0, .str [], .str [], .int .i64 0, .int .u64 0, .int .u64 0, .slice .nil 0 1 [], .slice .nil 0 1 []], (some 7), none⟩,
    ⟨.store 9 (.p 7) (.p 113), none, none⟩]
@[simp] def eq167_2 := id q167_2.eq_1
def q167_3 : List AOper :=
  [⟨.move .look (.p 6), (some 102), none⟩,
    ⟨.fieldAddr 7 (.p 2), (some 103), none⟩,
    ⟨.load .head false 1 (.p 103), (some 104), none⟩,
    ⟨.len false (.p 104), (some 105), none⟩,
    ⟨.bin .lss 1 false (.p 102) (.p 105), (some 106), none⟩]
@[simp] def eq167_3 := id q167_3.eq_1
def q167_4 : List AOper :=
  [⟨.fieldAddr 3 (.p 2), (some 57), none⟩,
    ⟨.load .look false 1 (.p 57), (some 58), none⟩,
    ⟨.bin .geq 1 true (.p 58) (.c (.int .i64 0)), (some 59), none⟩,
    ⟨.move .look (.p 59), (some 60), none⟩,
    ⟨.fieldAddr 3 (.p 2), (some 61), (some (60, true))⟩,
    ⟨.load .look false 1 (.p 61), (some 62), (some (60, true))⟩,
    ⟨.bin .leq 1 true (.p 62) (.c (.int .i64 255)), (some 63), (some (60, true))⟩,
    ⟨.pick (.p 60) (.p 63) (.c (.bool false)), (some 64), none⟩,
    ⟨.assign (.p 64), (some 4), none⟩]
@[simp] def eq167_4 := id q167_4.eq_1
def q167_5 : List AOper :=
  [⟨.fieldAddr 6 (.p 2), (some 68), none⟩,
    ⟨.load .head false 1 (.p 68), (some 69), none⟩,
    ⟨.len false (.p 69), (some 70), none⟩,
    ⟨.bin .eql 1 true (.p 70) (.c (.int .i64 12)), (some 71), none⟩,
    ⟨.assign (.p 71), (some 4), none⟩]
@[simp] def eq167_5 := id q167_5.eq_1
def q167_6 : List AOper :=
  [⟨.fieldAddr 3 (.p 2), (some 74), none⟩,
    ⟨.load .head false 1 (.p 74), (some 75), none⟩,
    ⟨.bin .eql 1 true (.p 75) (.c (.int .i64 0)), (some 76), none⟩,
    ⟨.move .look (.p 76), (some 77), none⟩,
    ⟨.fieldAddr 3 (.p 2), (some 78), (some (77, false))⟩,
    ⟨.load .head false 1 (.p 78), (some 79), (some (77, false))⟩,
    ⟨.bin .eql 1 true (.p 79) (.c (.int .i64 1)), (some 80), (some (77, false))⟩,
    ⟨.pick (.p 77) (.c (.bool true)) (.p 80), (some 81), none⟩,
    ⟨.assign (.p 81), (some 4), none⟩]
@[simp] def eq167_6 := id q167_6.eq_1
def q167_7 : List AOper :=
  [⟨.fieldAddr 3 (.p 2), (some 84), none⟩,
    ⟨.load .look false 1 (.p 84), (some 85), none⟩,
    ⟨.bin .geq 1 true (.p 85) (.c (.int .i64 (-2147483648))), (some 86), none⟩,
    ⟨.move .look (.p 86), (some 87), none⟩,
    ⟨.fieldAddr 3 (.p 2), (some 88), (some (87, true))⟩,
    ⟨.load .look false 1 (.p 88), (some 89), (some (87, true))⟩,
    ⟨.bin .lss 1 true (.p 89) (.c (.int .i64 2147483648)), (some 90), (some (87, true))⟩,
    ⟨.pick (.p 87) (.p 90) (.c (.bool false)), (some 91), none⟩,
    ⟨.assign (.p 91), (some 4), none⟩]
@[simp] def eq167_7 := id q167_7.eq_1
def q167_8 : List AOper :=
  [⟨.fieldAddr 1 (.p 2), (some 94), none⟩,
    ⟨.load .look false 1 (.p 94), (some 95), none⟩,
    ⟨.call 224 [(.p 95, false)], (some 96), none⟩,
    ⟨.move .look (.p 96), (some 97), none⟩,
    ⟨.fieldAddr 2 (.p 2), (some 98), (some (97, true))⟩,
    ⟨.load .look false 1 (.p 98), (some 99), (some (97, true))⟩,
    ⟨.call 224 [(.p 99, false)], (some 100), (some (97, true))⟩,
    ⟨.pick (.p 97) (.p 100) (.c (.bool false)), (some 101), none⟩,
    ⟨.assign (.p 101), (some 4), none⟩]
@[simp] def eq167_8 := id q167_8.eq_1
def q167_9 : List AOper :=
  [⟨.bin .eql 1 true (.p 54) (.c (.int .i64 11)), (some 93), none⟩,
    ⟨.assign (.p 93), (some 92), none⟩]
@[simp] def eq167_9 := id q167_9.eq_1
def q167_10 : List AOper :=
  [⟨.bin .eql 1 true (.p 54) (.c (.int .i64 16)), (some 83), none⟩,
    ⟨.assign (.p 83), (some 82), none⟩]
@[simp] def eq167_10 := id q167_10.eq_1
def q167_11 : List AOper :=
  [⟨.bin .eql 1 true (.p 54) (.c (.int .i64 8)), (some 73), none⟩,
    ⟨.assign (.p 73), (some 72), none⟩]
@[simp] def eq167_11 := id q167_11.eq_1
def q167_12 : List AOper :=
  [⟨.bin .eql 1 true (.p 54) (.c (.int .i64 12)), (some 67), none⟩,
    ⟨.assign (.p 67), (some 65), none⟩]
@[simp] def eq167_12 := id q167_12.eq_1
def q167_13 : List AOper :=
  [⟨.bin .eql 1 true (.p 54) (.c (.int .i64 7)), (some 66), none⟩,
    ⟨.assign (.p 66), (some 65), none⟩]
@[simp] def eq167_13 := id q167_13.eq_1
def q167_14 : List AOper :=
  [⟨.bin .eql 1 true (.p 54) (.c (.int .i64 5)), (some 56), none⟩,
    ⟨.assign (.p 56), (some 55), none⟩]
@[simp] def eq167_14 := id q167_14.eq_1
def q167_15 : List AOper :=
  [⟨.fieldAddr 0 (.p 2), (some 53), none⟩,
    ⟨.load .head false 1 (.p 53), (some 54), none⟩]
@[simp] def eq167_15 := id q167_15.eq_1
def q167_16 : List AOper :=
  [⟨.load .look true 8 (.p 2), (some 16), none⟩,
    ⟨.call 223 [(.p 16, false)], (some 17), none⟩,
    ⟨.newbox 5 [.int .i64 0, .str [], .str [], .int .i64 0, .int .u64 0, .int .u64 0, .slice .nil 0 1 [], .slice .nil 0 1 []], (some 5), none⟩,
    ⟨.store 8 (.p 5) (.p 17), none, none⟩]
@[simp] def eq167_16 := id q167_16.eq_1
def q167_17 : List AOper :=
  [⟨.fieldAddr 0 (.p 2), (some 8), none⟩,
    ⟨.load .look false 1 (.p 8), (some 9), none⟩,
    ⟨.call 91 [(.p 9, false)], (some 10), none⟩,
    ⟨.un .not (.p 10), (some 11), none⟩,
    ⟨.move .look (.p 11), (some 12), none⟩,
    ⟨.move .head (.p 1), (some 13), (some (12, false))⟩,
    ⟨.bin .eql 1 true (.p 13) (.c (.int .i64 0)), (some 14), (some (12, false))⟩,
    ⟨.pick (.p 12) (.c (.bool true)) (.p 14), (some 15), none⟩]
@[simp] def eq167_17 := id q167_17.eq_1
def q167_18 : List AOper :=
  [⟨.box 2 (.p 0), (some 2), none⟩,
    ⟨.assign (.c (.bool false)), (some 4), none⟩]
@[simp] def eq167_18 := id q167_18.eq_1
def k167_0 : ACode :=
  .ops [⟨.assign (.c (.bool true)), (some 4), none⟩] .ret
@[simp] theorem xk167_0 : GoC fns Q s k167_0 st ↔ GoO fns Q s [⟨.assign (.c (.bool true)), (some 4), none⟩] .ret st := goC_ops
def k167_1 : ACode :=
  .ops q167_0 .skip
@[simp] theorem xk167_1 : GoC fns Q s k167_1 st ↔ GoO fns Q s q167_0 .skip st := goC_ops
def k167_2 : ACode :=
  .ops [⟨.assign (.c (.bool false)), (some 4), none⟩] .ret
@[simp] theorem xk167_2 : GoC fns Q s k167_2 st ↔ GoO fns Q s [⟨.assign (.c (.bool false)), (some 4), none⟩] .ret st := goC_ops
def k167_3 : ACode :=
  .cond (.p 137) k167_2 .skip
@[simp] theorem xk167_3 : GoC fns Q s k167_3 st ↔ GB fns Q s (peek st (.p 137)) k167_2 .skip st := goC_cond
def k167_4 : ACode :=
  .ops q167_1 k167_3
@[simp] theorem xk167_4 : GoC fns Q s k167_4 st ↔ GoO fns Q s q167_1 k167_3 st := goC_ops
def k167_5 : ACode :=
  .ops q167_2 k167_4
@[simp] theorem xk167_5 : GoC fns Q s k167_5 st ↔ GoO fns Q s q167_2 k167_4 st := goC_ops
def k167_6 : ACode :=
  .block 2 k167_5
@[simp] theorem xk167_6 : GoC fns Q s k167_6 st ↔ GoC fns Q (.bl 2 :: s) k167_5 st := goC_block
def k167_7 : ACode :=
  .seq k167_6 k167_1
@[simp] theorem xk167_7 : GoC fns Q s k167_7 st ↔ GoC fns Q (.sq k167_1 :: s) k167_6 st := goC_seq
def k167_8 : ACode :=
  .cond (.p 106) .skip (.exit 1)
@[simp] theorem xk167_8 : GoC fns Q s k167_8 st ↔ GB fns Q s (peek st (.p 106)) .skip (.exit 1) st := goC_cond
def k167_9 : ACode :=
  .seq k167_8 k167_7
@[simp] theorem xk167_9 : GoC fns Q s k167_9 st ↔ GoC fns Q (.sq k167_7 :: s) k167_8 st := goC_seq
def k167_10 : ACode :=
  .ops q167_3 k167_9
@[simp] theorem xk167_10 : GoC fns Q s k167_10 st ↔ GoO fns Q s q167_3 k167_9 st := goC_ops
def lc167_0 : ACode :=
  k167_10
@[simp] theorem xlc167_0 : GoC fns Q s lc167_0 st ↔ GoC fns Q s k167_10 st := Iff.rfl
def k167_12 : ACode :=
  .loop lc167_0
@[simp] theorem xk167_12 : GoC fns Q s k167_12 st ↔ (LoopR fns lc167_0 st fun r => GoE fns Q s r.1 r.2) := goC_loop
def k167_13 : ACode :=
  .block 1 k167_12
@[simp] theorem xk167_13 : GoC fns Q s k167_13 st ↔ GoC fns Q (.bl 1 :: s) k167_12 st := goC_block
def k167_14 : ACode :=
  .seq k167_13 k167_0
@[simp] theorem xk167_14 : GoC fns Q s k167_14 st ↔ GoC fns Q (.sq k167_0 :: s) k167_13 st := goC_seq
def k167_15 : ACode :=
  .ops [⟨.assign (.c (.int .i64 0)), (some 6), none⟩] k167_14
@[simp] theorem xk167_15 : GoC fns Q s k167_15 st ↔ GoO fns Q s [⟨.assign (.c (.int .i64 0)), (some 6), none⟩] k167_14 st := goC_ops
def k167_16 : ACode :=
  .ops q167_4 .ret
@[simp] theorem xk167_16 : GoC fns Q s k167_16 st ↔ GoO fns Q s q167_4 .ret st := goC_ops
def k167_17 : ACode :=
  .ops q167_5 .ret
@[simp] theorem xk167_17 : GoC fns Q s k167_17 st ↔ GoO fns Q s q167_5 .ret st := goC_ops
def k167_18 : ACode :=
  .ops q167_6 .ret
@[simp] theorem xk167_18 : GoC fns Q s k167_18 st ↔ GoO fns Q s q167_6 .ret st := goC_ops
def k167_19 : ACode :=
  .ops q167_7 .ret
@[simp] theorem xk167_19 : GoC fns Q s k167_19 st ↔ GoO fns Q s q167_7 .ret st := goC_ops
def k167_20 : ACode :=
  .ops q167_8 .ret
@[simp] theorem xk167_20 : GoC fns Q s k167_20 st ↔ GoO fns Q s q167_8 .ret st := goC_ops
def k167_21 : ACode :=
  .cond (.p 92) k167_20 .skip
@[simp] theorem xk167_21 : GoC fns Q s k167_21 st ↔ GB fns Q s (peek st (.p 92)) k167_20 .skip st := goC_cond
def k167_22 : ACode :=
  .ops q167_9 k167_21
@[simp] theorem xk167_22 : GoC fns Q s k167_22 st ↔ GoO fns Q s q167_9 k167_21 st := goC_ops
def k167_23 : ACode :=
  .cond (.p 82) k167_19 k167_22
@[simp] theorem xk167_23 : GoC fns Q s k167_23 st ↔ GB fns Q s (peek st (.p 82)) k167_19 k167_22 st := goC_cond
def k167_24 : ACode :=
  .ops q167_10 k167_23
@[simp] theorem xk167_24 : GoC fns Q s k167_24 st ↔ GoO fns Q s q167_10 k167_23 st := goC_ops
def k167_25 : ACode :=
  .cond (.p 72) k167_18 k167_24
@[simp] theorem xk167_25 : GoC fns Q s k167_25 st ↔ GB fns Q s (peek st (.p 72)) k167_18 k167_24 st := goC_cond
def k167_26 : ACode :=
  .ops q167_11 k167_25
@[simp] theorem xk167_26 : GoC fns Q s k167_26 st ↔ GoO fns Q s q167_11 k167_25 st := goC_ops
def k167_27 : ACode :=
  .cond (.p 65) k167_17 k167_26
@[simp] theorem xk167_27 : GoC fns Q s k167_27 st ↔ GB fns Q s (peek st (.p 65)) k167_17 k167_26 st := goC_cond
def k167_28 : ACode :=
  .ops q167_12 .skip
@[simp] theorem xk167_28 : GoC fns Q s k167_28 st ↔ GoO fns Q s q167_12 .skip st := goC_ops
def k167_29 : ACode :=
  .cond (.p 65) .skip k167_28
@[simp] theorem xk167_29 : GoC fns Q s k167_29 st ↔ GB fns Q s (peek st (.p 65)) .skip k167_28 st := goC_cond
def k167_30 : ACode :=
  .seq k167_29 k167_27
@[simp] theorem xk167_30 : GoC fns Q s k167_30 st ↔ GoC fns Q (.sq k167_27 :: s) k167_29 st := goC_seq
def k167_31 : ACode :=
  .ops q167_13 k167_30
@[simp] theorem xk167_31 : GoC fns Q s k167_31 st ↔ GoO fns Q s q167_13 k167_30 st := goC_ops
def k167_32 : ACode :=
  .cond (.p 55) k167_16 k167_31
@[simp] theorem xk167_32 : GoC fns Q s k167_32 st ↔ GB fns Q s (peek st (.p 55)) k167_16 k167_31 st := goC_cond
def k167_33 : ACode :=
  .ops q167_14 k167_32
@[simp] theorem xk167_33 : GoC fns Q s k167_33 st ↔ GoO fns Q s q167_14 k167_32 st := goC_ops
def k167_34 : ACode :=
  .block 0 k167_33
@[simp] theorem xk167_34 : GoC fns Q s k167_34 st ↔ GoC fns Q (.bl 0 :: s) k167_33 st := goC_block
def k167_35 : ACode :=
  .seq k167_34 k167_15
@[simp] theorem xk167_35 : GoC fns Q s k167_35 st ↔ GoC fns Q (.sq k167_15 :: s) k167_34 st := goC_seq
def k167_36 : ACode :=
  .ops q167_15 k167_35
@[simp] theorem xk167_36 : GoC fns Q s k167_36 st ↔ GoO fns Q s q167_15 k167_35 st := goC_ops
def k167_37 : ACode :=
  .ops [⟨.assign (.c (.bool false)), (some 4), none⟩] .ret
@[simp] theorem xk167_37 : GoC fns Q s k167_37 st ↔ GoO fns Q s [⟨.assign (.c (.bool false)), (some 4), none⟩] .ret st := goC_ops
def k167_38 : ACode :=
  .cond (.p 52) k167_37 .skip
@[simp] theorem xk167_38 : GoC fns Q s k167_38 st ↔ GB fns Q s (peek st (.p 52)) k167_37 .skip st := goC_cond
def k167_39 : ACode :=
  .seq k167_38 k167_36
@[simp] theorem xk167_39 : GoC fns Q s k167_39 st ↔ GoC fns Q (.sq k167_36 :: s) k167_38 st := goC_seq
def k167_40 : ACode :=
  .ops rg167_4 k167_39
@[simp] theorem xk167_40 : GoC fns Q s k167_40 st ↔ GoO fns Q s rg167_4 k167_39 st := goC_ops
def k167_41 : ACode :=
  .ops q167_16 k167_40
@[simp] theorem xk167_41 : GoC fns Q s k167_41 st ↔ GoO fns Q s q167_16 k167_40 st := goC_ops
def k167_42 : ACode :=
  .ops [⟨.assign (.c (.bool false)), (some 4), none⟩] .ret
@[simp] theorem xk167_42 : GoC fns Q s k167_42 st ↔ GoO fns Q s [⟨.assign (.c (.bool false)), (some 4), none⟩] .ret st := goC_ops
def k167_43 : ACode :=
  .cond (.p 15) k167_42 .skip
@[simp] theorem xk167_43 : GoC fns Q s k167_43 st ↔ GB fns Q s (peek st (.p 15)) k167_42 .skip st := goC_cond
def k167_44 : ACode :=
  .seq k167_43 k167_41
@[simp] theorem xk167_44 : GoC fns Q s k167_44 st ↔ GoC fns Q (.sq k167_41 :: s) k167_43 st := goC_seq
def k167_45 : ACode :=
  .ops q167_17 k167_44
@[simp] theorem xk167_45 : GoC fns Q s k167_45 st ↔ GoO fns Q s q167_17 k167_44 st := goC_ops
def k167_46 : ACode :=
  .ops q167_18 k167_45
@[simp] theorem xk167_46 : GoC fns Q s k167_46 st ↔ GoO fns Q s q167_18 k167_45 st := goC_ops
def af167 : AFunc := ⟨138, k167_46, [.tmp 4], fun _ _ => none⟩

theorem ok167 : ∃ hs, pFunc Tryz.prog sg hs Tryz.f167 = some af167 := ⟨fun i => 0, by kernel_rfl⟩
def q70_0 : List AOper :=
  [⟨.load .look true 8 (.p 1), (some 3), none⟩,
    ⟨.call 167 [(.p 3, false), (.c (.int .i64 200), false)], (some 4), none⟩,
    ⟨.assign (.p 4), (some 2), none⟩]
@[simp] def eq70_0 := id q70_0.eq_1
def q70_1 : List AOper :=
  [⟨.box 1 (.p 0), (some 1), none⟩,
    ⟨.assign (.c (.bool false)), (some 2), none⟩]
@[simp] def eq70_1 := id q70_1.eq_1
def k70_0 : ACode :=
  .ops q70_0 .ret
@[simp] theorem xk70_0 : GoC fns Q s k70_0 st ↔ GoO fns Q s q70_0 .ret st := goC_ops
def k70_1 : ACode :=
  .ops q70_1 k70_0
@[simp] theorem xk70_1 : GoC fns Q s k70_1 st ↔ GoO fns Q s q70_1 k70_0 st := goC_ops
def af70 : AFunc := ⟨5, k70_1, [.tmp 2], fun _ _ => none⟩

theorem ok70 : ∃ hs, pFunc Tryz.prog sg hs Tryz.f70 = some af70 := ⟨fun i => 0, by kernel_rfl⟩
def q71_0 : List AOper :=
  [⟨.move .take (.p 3), (some 40), none⟩,
    ⟨.assign (.p 40), (some 2), none⟩]
@[simp] def eq71_0 := id q71_0.eq_1
def q71_1 : List AOper :=
  [⟨.move .look (.p 4), (some 21), none⟩,
    ⟨.bin .add 1 true (.p 21) (.c (.int .i64 1)), (some 22), none⟩,
    ⟨.assign (.p 22), (some 4), none⟩]
@[simp] def eq71_1 := id q71_1.eq_1
def q71_2 : List AOper :=
  [⟨.move .look (.p 3), (some 23), none⟩,
    ⟨.fieldAddr 7 (.p 1), (some 24), none⟩,
    ⟨.load .look false 1 (.p 24), (some 25), none⟩,
    ⟨.move .look (.p 4), (some 26), none⟩,
    ⟨.indexAddr 9 (.t 25) (.p 26), (some 27), none⟩,
    ⟨.fieldAddr 0 (.p 27), (some 28), none⟩,
    ⟨.load .head false 1 (.p 28), (some 29), none⟩,
    ⟨.len true (.p 29), (some 30), none⟩,
    ⟨.bin .add 1 false (.p 23) (.p 30), (some 31), none⟩,
    ⟨.fieldAddr 7 (.p 1), (some 32), none⟩,
    ⟨.load .look false 1 (.p 32), (some 33), none⟩,
    ⟨.move .look (.p 4), (some 34), none⟩,
    ⟨.indexAddr 9 (.t 33) (.p 34), (some 35), none⟩,
    ⟨.fieldAddr 1 (.p 35), (some 36), none⟩,
    ⟨.load .look true 8 (.p 36), (some 37), none⟩,
    ⟨.call 71 [(.p 37, false)], (some 38), none⟩,
    ⟨.bin .add 1 false (.p 31) (.p 38), (some 39), none⟩,
    ⟨.assign (.p 39), (some 3), none⟩]
@[simp] def eq71_2 := id q71_2.eq_1
def q71_3 : List AOper :=
  [⟨.move .look (.p 4), (some 16), none⟩,
    ⟨.fieldAddr 7 (.p 1), (some 17), none⟩,
    ⟨.load .head false 1 (.p 17), (some 18), none⟩,
    ⟨.len false (.p 18), (some 19), none⟩,
    ⟨.bin .lss 1 false (.p 16) (.p 19), (some 20), none⟩]
@[simp] def eq71_3 := id q71_3.eq_1
def q71_4 : List AOper :=
  [⟨.fieldAddr 1 (.p 1), (some 5), none⟩,
    ⟨.load .head false 1 (.p 5), (some 6), none⟩,
    ⟨.len true (.p 6), (some 7), none⟩,
    ⟨.fieldAddr 2 (.p 1), (some 8), none⟩,
    ⟨.load .head false 1 (.p 8), (some 9), none⟩,
    ⟨.len true (.p 9), (some 10), none⟩,
    ⟨.bin .add 1 false (.p 7) (.p 10), (some 11), none⟩,
    ⟨.fieldAddr 6 (.p 1), (some 12), none⟩,
    ⟨.load .head false 1 (.p 12), (some 13), none⟩,
    ⟨.len false (.p 13), (some 14), none⟩,
    ⟨.bin .add 1 false (.p 11) (.p 14), (some 15), none⟩,
    ⟨.assign (.p 15), (some 3), none⟩]
@[simp] def eq71_4 := id q71_4.eq_1
def q71_5 : List AOper :=
  [⟨.box 1 (.p 0), (some 1), none⟩,
    ⟨.assign (.c (.int .i64 0)), (some 2), none⟩]
@[simp] def eq71_5 := id q71_5.eq_1
def k71_0 : ACode :=
  .ops q71_0 .ret
@[simp] theorem xk71_0 : GoC fns Q s k71_0 st ↔ GoO fns Q s q71_0 .ret st := goC_ops
def k71_1 : ACode :=
  .ops q71_1 .skip
@[simp] theorem xk71_1 : GoC fns Q s k71_1 st ↔ GoO fns Q s q71_1 .skip st := goC_ops
def k71_2 : ACode :=
  .ops q71_2 .skip
@[simp] theorem xk71_2 : GoC fns Q s k71_2 st ↔ GoO fns Q s q71_2 .skip st := goC_ops
def k71_3 : ACode :=
  .block 1 k71_2
@[simp] theorem xk71_3 : GoC fns Q s k71_3 st ↔ GoC fns Q (.bl 1 :: s) k71_2 st := goC_block
def k71_4 : ACode :=
  .seq k71_3 k71_1
@[simp] theorem xk71_4 : GoC fns Q s k71_4 st ↔ GoC fns Q (.sq k71_1 :: s) k71_3 st := goC_seq
def k71_5 : ACode :=
  .cond (.p 20) .skip (.exit 0)
@[simp] theorem xk71_5 : GoC fns Q s k71_5 st ↔ GB fns Q s (peek st (.p 20)) .skip (.exit 0) st := goC_cond
def k71_6 : ACode :=
  .seq k71_5 k71_4
@[simp] theorem xk71_6 : GoC fns Q s k71_6 st ↔ GoC fns Q (.sq k71_4 :: s) k71_5 st := goC_seq
def k71_7 : ACode :=
  .ops q71_3 k71_6
@[simp] theorem xk71_7 : GoC fns Q s k71_7 st ↔ GoO fns Q s q71_3 k71_6 st := goC_ops
def lc71_0 : ACode :=
  k71_7
@[simp] theorem xlc71_0 : GoC fns Q s lc71_0 st ↔ GoC fns Q s k71_7 st := Iff.rfl
def k71_9 : ACode :=
  .loop lc71_0
@[simp] theorem xk71_9 : GoC fns Q s k71_9 st ↔ (LoopR fns lc71_0 st fun r => GoE fns Q s r.1 r.2) := goC_loop
def k71_10 : ACode :=
  .block 0 k71_9
@[simp] theorem xk71_10 : GoC fns Q s k71_10 st ↔ GoC fns Q (.bl 0 :: s) k71_9 st := goC_block
def k71_11 : ACode :=
  .seq k71_10 k71_0
@[simp] theorem xk71_11 : GoC fns Q s k71_11 st ↔ GoC fns Q (.sq k71_0 :: s) k71_10 st := goC_seq
def k71_12 : ACode :=
  .ops [⟨.assign (.c (.int .i64 0)), (some 4), none⟩] k71_11
@[simp] theorem xk71_12 : GoC fns Q s k71_12 st ↔ GoO fns Q s [⟨.assign (.c (.int .i64 0)), (some 4), none⟩] k71_11 st := goC_ops
def k71_13 : ACode :=
  .ops q71_4 k71_12
@[simp] theorem xk71_13 : GoC fns Q s k71_13 st ↔ GoO fns Q s q71_4 k71_12 st := goC_ops
def k71_14 : ACode :=
  .ops q71_5 k71_13
@[simp] theorem xk71_14 : GoC fns Q s k71_14 st ↔ GoO fns Q s q71_5 k71_13 st := goC_ops
def af71 : AFunc := ⟨41, k71_14, [.tmp 2], fun _ _ => none⟩

theorem ok71 : ∃ hs, pFunc Tryz.prog sg hs Tryz.f71 = some af71 := ⟨fun i => 0, by kernel_rfl⟩
def q23_0 : List AOper :=
  [⟨.load .look true 8 (.p 1), (some 3), none⟩,
    ⟨.call 69 [(.p 3, false), (.c (.int .i64 300), false)], (some 4), none⟩,
    ⟨.bin .leq 1 true (.p 4) (.c (.int .i64 300)), (some 5), none⟩,
    ⟨.move .look (.p 5), (some 6), none⟩,
    ⟨.load .look true 8 (.p 1), (some 7), (some (6, true))⟩,
    ⟨.call 70 [(.p 7, false)], (some 8), (some (6, true))⟩,
    ⟨.pick (.p 6) (.p 8) (.c (.bool false)), (some 9), none⟩,
    ⟨.move .look (.p 9), (some 10), none⟩,
    ⟨.load .look true 8 (.p 1), (some 11), (some (10, true))⟩,
    ⟨.call 71 [(.p 11, false)], (some 12), (some (10, true))⟩,
    ⟨.bin .leq 1 true (.p 12) (.c (.int .i64 5000)), (some 13), (some (10, true))⟩,
    ⟨.pick (.p 10) (.p 13) (.c (.bool false)), (some 14), none⟩,
    ⟨.assign (.p 14), (some 2), none⟩]
@[simp] def eq23_0 := id q23_0.eq_1
def q23_1 : List AOper :=
  [⟨.box 1 (.p 0), (some 1), none⟩,
    ⟨.assign (.c (.bool false)), (some 2), none⟩]
@[simp] def eq23_1 := id q23_1.eq_1
def k23_0 : ACode :=
  .ops q23_0 .ret
@[simp] theorem xk23_0 : GoC fns Q s k23_0 st ↔ GoO fns Q s q23_0 .ret st := goC_ops
def k23_1 : ACode :=
  .ops q23_1 k23_0
@[simp] theorem xk23_1 : GoC fns Q s k23_1 st ↔ GoO fns Q s q23_1 k23_0 st := goC_ops
def af23 : AFunc := ⟨15, k23_1, [.tmp 2], fun _ _ => none⟩

theorem ok23 : ∃ hs, pFunc Tryz.prog sg hs Tryz.f23 = some af23 := ⟨fun i => 0, by kernel_rfl⟩
def q82_0 : List AOper :=
  [⟨.move .take (.t 5), (some 11), none⟩,
    ⟨.buildSl 5 1 [.int .u8 0] [(0, 1, .c (.int .u8 0))], (some 12), none⟩,
    ⟨.append 5 1 1 false (.t 11) (.p 12), (some 13), none⟩,
    ⟨.assign (.t 13), (some 4), none⟩]
@[simp] def eq82_0 := id q82_0.eq_1
def q82_1 : List AOper :=
  [⟨.move .look (.p 0), (some 6), none⟩,
    ⟨.convInt .u8 (.p 6), (some 7), none⟩,
    ⟨.buildSl 5 1 [.int .u8 0] [(0, 1, .p 7)], (some 8), none⟩,
    ⟨.move .look (.p 1), (some 9), none⟩,
    ⟨.append 5 1 1 true (.t 8) (.p 9), (some 10), none⟩,
    ⟨.assign (.t 10), (some 5), none⟩]
@[simp] def eq82_1 := id q82_1.eq_1
def k82_0 : ACode :=
  .ops q82_0 .ret
@[simp] theorem xk82_0 : GoC fns Q s k82_0 st ↔ GoO fns Q s q82_0 .ret st := goC_ops
def k82_1 : ACode :=
  .ops q82_1 k82_0
@[simp] theorem xk82_1 : GoC fns Q s k82_1 st ↔ GoO fns Q s q82_1 k82_0 st := goC_ops
def k82_2 : ACode :=
  .ops [⟨.assign (.c (.slice .nil 0 1 [])), (some 4), none⟩] k82_1
@[simp] theorem xk82_2 : GoC fns Q s k82_2 st ↔ GoO fns Q s [⟨.assign (.c (.slice .nil 0 1 [])), (some 4), none⟩] k82_1 st := goC_ops
def af82 : AFunc := ⟨14, k82_2, [.tmp 4], fun _ _ => none⟩

theorem ok82 : ∃ hs, pFunc Tryz.prog sg hs Tryz.f82 = some af82 := ⟨fun i => 0, by kernel_rfl⟩
def q75_0 : List AOper :=
  [⟨.move .take (.t 0), (some 17), none⟩,
    ⟨.assign (.t 17), (some 4), none⟩]
@[simp] def eq75_0 := id q75_0.eq_1
def q75_1 : List AOper :=
  [⟨.move .look (.p 5), (some 8), none⟩,
    ⟨.bin .add 1 true (.p 8) (.c (.int .i64 8)), (some 9), none⟩,
    ⟨.assign (.p 9), (some 5), none⟩]
@[simp] def eq75_1 := id q75_1.eq_1
def q75_2 : List AOper :=
  [⟨.move .take (.t 0), (some 10), none⟩,
    ⟨.move .look (.p 1), (some 11), none⟩,
    ⟨.move .look (.p 5), (some 12), none⟩,
    ⟨.bin .shr 1 false (.p 11) (.p 12), (some 13), none⟩,
    ⟨.convInt .u8 (.p 13), (some 14), none⟩,
    ⟨.buildSl 5 1 [.int .u8 0] [(0, 1, .p 14)], (some 15), none⟩,
    ⟨.append 5 1 1 false (.t 10) (.p 15), (some 16), none⟩,
    ⟨.assign (.t 16), (some 0), none⟩]
@[simp] def eq75_2 := id q75_2.eq_1
def q75_3 : List AOper :=
  [⟨.move .look (.p 5), (some 6), none⟩,
    ⟨.bin .lss 1 true (.p 6) (.c (.int .i64 64)), (some 7), none⟩]
@[simp] def eq75_3 := id q75_3.eq_1
def k75_0 : ACode :=
  .ops q75_0 .ret
@[simp] theorem xk75_0 : GoC fns Q s k75_0 st ↔ GoO fns Q s q75_0 .ret st := goC_ops
def k75_1 : ACode :=
  .ops q75_1 .skip
@[simp] theorem xk75_1 : GoC fns Q s k75_1 st ↔ GoO fns Q s q75_1 .skip st := goC_ops
def k75_2 : ACode :=
  .ops q75_2 .skip
@[simp] theorem xk75_2 : GoC fns Q s k75_2 st ↔ GoO fns Q s q75_2 .skip st := goC_ops
def k75_3 : ACode :=
  .block 1 k75_2
@[simp] theorem xk75_3 : GoC fns Q s k75_3 st ↔ GoC fns Q (.bl 1 :: s) k75_2 st := goC_block
def k75_4 : ACode :=
  .seq k75_3 k75_1
@[simp] theorem xk75_4 : GoC fns Q s k75_4 st ↔ GoC fns Q (.sq k75_1 :: s) k75_3 st := goC_seq
def k75_5 : ACode :=
  .cond (.p 7) .skip (.exit 0)
@[simp] theorem xk75_5 : GoC fns Q s k75_5 st ↔ GB fns Q s (peek st (.p 7)) .skip (.exit 0) st := goC_cond
def k75_6 : ACode :=
  .seq k75_5 k75_4
@[simp] theorem xk75_6 : GoC fns Q s k75_6 st ↔ GoC fns Q (.sq k75_4 :: s) k75_5 st := goC_seq
def k75_7 : ACode :=
  .ops q75_3 k75_6
@[simp] theorem xk75_7 : GoC fns Q s k75_7 st ↔ GoO fns Q s q75_3 k75_6 st := goC_ops
def lc75_0 : ACode :=
  k75_7
@[simp] theorem xlc75_0 : GoC fns Q s lc75_0 st ↔ GoC fns Q s k75_7 st := Iff.rfl
def k75_9 : ACode :=
  .loop lc75_0
@[simp] theorem xk75_9 : GoC fns Q s k75_9 st ↔ (LoopR fns lc75_0 st fun r => GoE fns Q s r.1 r.2) := goC_loop
def k75_10 : ACode :=
  .block 0 k75_9
@[simp] theorem xk75_10 : GoC fns Q s k75_10 st ↔ GoC fns Q (.bl 0 :: s) k75_9 st := goC_block
def k75_11 : ACode :=
  .seq k75_10 k75_0
@[simp] theorem xk75_11 : GoC fns Q s k75_11 st ↔ GoC fns Q (.sq k75_0 :: s) k75_10 st := goC_seq
def k75_12 : ACode :=
  .ops [⟨.assign (.c (.int .i64 0)), (some 5), none⟩] k75_11
@[simp] theorem xk75_12 : GoC fns Q s k75_12 st ↔ GoO fns Q s [⟨.assign (.c (.int .i64 0)), (some 5), none⟩] k75_11 st := goC_ops
def k75_13 : ACode :=
  .ops [⟨.assign (.c (.slice .nil 0 1 [])), (some 4), none⟩] k75_12
@[simp] theorem xk75_13 : GoC fns Q s k75_13 st ↔ GoO fns Q s [⟨.assign (.c (.slice .nil 0 1 [])), (some 4), none⟩] k75_12 st := goC_ops
def af75 : AFunc := ⟨18, k75_13, [.tmp 4], fun _ _ => none⟩

theorem ok75 : ∃ hs, pFunc Tryz.prog sg hs Tryz.f75 = some af75 := ⟨fun i => 0, by kernel_rfl⟩
def q72_0 : List AOper :=
  [⟨.move .take (.t 0), (some 5), none⟩,
    ⟨.move .look (.p 1), (some 6), none⟩,
    ⟨.convInt .u8 (.p 6), (some 7), none⟩,
    ⟨.move .look (.p 1), (some 8), none⟩,
    ⟨.bin .shr 1 true (.p 8) (.c (.int .u64 8)), (some 9), none⟩,
    ⟨.convInt .u8 (.p 9), (some 10), none⟩,
    ⟨.move .look (.p 1), (some 11), none⟩,
    ⟨.bin .shr 1 true (.p 11) (.c (.int .u64 16)), (some 12), none⟩,
    ⟨.convInt .u8 (.p 12), (some 13), none⟩,
    ⟨.move .look (.p 1), (some 14), none⟩,
    ⟨.bin .shr 1 true (.p 14) (.c (.int .u64 24)), (some 15), none⟩,
    ⟨.convInt .u8 (.p 15), (some 16), none⟩,
    ⟨.buildSl 5 1 [.int .u8 0, .int .u8 0, .int .u8 0, .int .u8 0] [(0, 1, .p 7), (1, 1, .p 10), (2, 1, .p 13), (3, 1, .p 16)], (some 17), none⟩,
    ⟨.append 5 1 1 false (.t 5) (.p 17), (some 18), none⟩,
    ⟨.assign (.t 18), (some 4), none⟩]
@[simp] def eq72_0 := id q72_0.eq_1
def k72_0 : ACode :=
  .ops q72_0 .ret
@[simp] theorem xk72_0 : GoC fns Q s k72_0 st ↔ GoO fns Q s q72_0 .ret st := goC_ops
def k72_1 : ACode :=
  .ops [⟨.assign (.c (.slice .nil 0 1 [])), (some 4), none⟩] k72_0
@[simp] theorem xk72_1 : GoC fns Q s k72_1 st ↔ GoO fns Q s [⟨.assign (.c (.slice .nil 0 1 [])), (some 4), none⟩] k72_0 st := goC_ops
def af72 : AFunc := ⟨19, k72_1, [.tmp 4], fun _ _ => none⟩

theorem ok72 : ∃ hs, pFunc Tryz.prog sg hs Tryz.f72 = some af72 := ⟨fun i => 0, by kernel_rfl⟩
def q76_0 : List AOper :=
  [⟨.move .take (.t 0), (some 13), none⟩,
    ⟨.buildSl 5 1 [.int .u8 0] [(0, 1, .c (.int .u8 0))], (some 14), none⟩,
    ⟨.append 5 1 1 false (.t 13) (.p 14), (some 15), none⟩,
    ⟨.assign (.t 15), (some 4), none⟩]
@[simp] def eq76_0 := id q76_0.eq_1
def q76_1 : List AOper :=
  [⟨.move .take (.t 0), (some 10), none⟩,
    ⟨.move .look (.p 1), (some 11), none⟩,
    ⟨.append 5 1 1 true (.t 10) (.p 11), (some 12), none⟩,
    ⟨.assign (.t 12), (some 0), none⟩]
@[simp] def eq76_1 := id q76_1.eq_1
def q76_2 : List AOper :=
  [⟨.move .take (.t 0), (some 5), none⟩,
    ⟨.move .head (.p 1), (some 6), none⟩,
    ⟨.len true (.p 6), (some 7), none⟩,
    ⟨.bin .add 1 true (.p 7) (.c (.int .i64 1)), (some 8), none⟩,
    ⟨.call 72 [(.t 5, true), (.p 8, false)], (some 9), none⟩,
    ⟨.assign (.t 9), (some 0), none⟩]
@[simp] def eq76_2 := id q76_2.eq_1
def k76_0 : ACode :=
  .ops q76_0 .ret
@[simp] theorem xk76_0 : GoC fns Q s k76_0 st ↔ GoO fns Q s q76_0 .ret st := goC_ops
def k76_1 : ACode :=
  .ops q76_1 k76_0
@[simp] theorem xk76_1 : GoC fns Q s k76_1 st ↔ GoO fns Q s q76_1 k76_0 st := goC_ops
def k76_2 : ACode :=
  .ops q76_2 k76_1
@[simp] theorem xk76_2 : GoC fns Q s k76_2 st ↔ GoO fns Q s q76_2 k76_1 st := goC_ops
def k76_3 : ACode :=
  .ops [⟨.assign (.c (.slice .nil 0 1 [])), (some 4), none⟩] k76_2
@[simp] theorem xk76_3 : GoC fns Q s k76_3 st ↔ GoO fns Q s [⟨.assign (.c (.slice .nil 0 1 [])), (some 4), none⟩] k76_2 st := goC_ops
def af76 : AFunc := ⟨16, k76_3, [.tmp 4], fun _ _ => none⟩

theorem ok76 : ∃ hs, pFunc Tryz.prog sg hs Tryz.f76 = some af76 := ⟨fun i => 0, by kernel_rfl⟩
def q26_0 : List AOper :=
  [⟨.move .take (.t 3), (some 147), none⟩,
    ⟨.assign (.t 147), (some 2), none⟩]
@[simp] def eq26_0 := id q26_0.eq_1
def q26_1 : List AOper :=
  [⟨.move .take (.t 3), (some 12), none⟩,
    ⟨.fieldAddr 4 (.p 1), (some 13), none⟩,
    ⟨.load .look false 1 (.p 13), (some 14), none⟩,
    ⟨.call 75 [(.t 12, true), (.p 14, false)], (some 15), none⟩,
    ⟨.assign (.t 15), (some 3), none⟩]
@[simp] def eq26_1 := id q26_1.eq_1
def q26_2 : List AOper :=
  [⟨.move .take (.t 3), (some 20), none⟩,
    ⟨.fieldAddr 1 (.p 1), (some 21), none⟩,
    ⟨.load .look false 1 (.p 21), (some 22), none⟩,
    ⟨.call 76 [(.t 20, true), (.p 22, false)], (some 23), none⟩,
    ⟨.assign (.t 23), (some 3), none⟩]
@[simp] def eq26_2 := id q26_2.eq_1
def q26_3 : List AOper :=
  [⟨.fieldAddr 7 (.p 1), (some 27), none⟩,
    ⟨.load .look false 1 (.p 27), (some 28), none⟩,
    ⟨.call 24 [(.t 28, false)], (some 29), none⟩,
    ⟨.assign (.t 29), (some 3), none⟩]
@[simp] def eq26_3 := id q26_3.eq_1
def q26_4 : List AOper :=
  [⟨.move .take (.t 3), (some 57), none⟩,
    ⟨.fieldAddr 6 (.p 1), (some 58), none⟩,
    ⟨.load .look false 1 (.p 58), (some 59), none⟩,
    ⟨.append 5 1 1 false (.t 57) (.p 59), (some 60), none⟩,
    ⟨.assign (.t 60), (some 3), none⟩]
@[simp] def eq26_4 := id q26_4.eq_1
def q26_5 : List AOper :=
  [⟨.move .take (.t 3), (some 45), none⟩,
    ⟨.move .look (.p 4), (some 46), none⟩,
    ⟨.call 72 [(.t 45, true), (.p 46, false)], (some 47), none⟩,
    ⟨.assign (.t 47), (some 3), none⟩]
@[simp] def eq26_5 := id q26_5.eq_1
def q26_6 : List AOper :=
  [⟨.move .take (.t 3), (some 42), none⟩,
    ⟨.buildSl 5 1 [.int .u8 0] [(0, 1, .c (.int .u8 2))], (some 43), none⟩,
    ⟨.append 5 1 1 false (.t 42) (.p 43), (some 44), none⟩,
    ⟨.assign (.t 44), (some 3), none⟩]
@[simp] def eq26_6 := id q26_6.eq_1
def q26_7 : List AOper :=
  [⟨.move .take (.t 3), (some 38), none⟩,
    ⟨.move .look (.p 4), (some 39), none⟩,
    ⟨.bin .add 1 true (.p 39) (.c (.int .i64 4)), (some 40), none⟩,
    ⟨.call 72 [(.t 38, true), (.p 40, false)], (some 41), none⟩,
    ⟨.assign (.t 41), (some 3), none⟩]
@[simp] def eq26_7 := id q26_7.eq_1
def q26_8 : List AOper :=
  [⟨.move .take (.t 3), (some 51), none⟩,
    ⟨.fieldAddr 3 (.p 1), (some 52), none⟩,
    ⟨.load .look false 1 (.p 52), (some 53), none⟩,
    ⟨.convInt .u8 (.p 53), (some 54), none⟩,
    ⟨.buildSl 5 1 [.int .u8 0] [(0, 1, .p 54)], (some 55), none⟩,
    ⟨.append 5 1 1 false (.t 51) (.p 55), (some 56), none⟩,
    ⟨.assign (.t 56), (some 3), none⟩]
@[simp] def eq26_8 := id q26_8.eq_1
def q26_9 : List AOper :=
  [⟨.move .take (.t 3), (some 48), none⟩,
    ⟨.move .look (.p 4), (some 49), none⟩,
    ⟨.call 72 [(.t 48, true), (.p 49, false)], (some 50), none⟩,
    ⟨.assign (.t 50), (some 3), none⟩]
@[simp] def eq26_9 := id q26_9.eq_1
def q26_10 : List AOper :=
  [⟨.fieldAddr 3 (.p 1), (some 35), none⟩,
    ⟨.load .head false 1 (.p 35), (some 36), none⟩,
    ⟨.bin .eql 1 true (.p 36) (.c (.int .i64 2)), (some 37), none⟩]
@[simp] def eq26_10 := id q26_10.eq_1
def q26_11 : List AOper :=
  [⟨.fieldAddr 6 (.p 1), (some 32), none⟩,
    ⟨.load .head false 1 (.p 32), (some 33), none⟩,
    ⟨.len false (.p 33), (some 34), none⟩,
    ⟨.assign (.p 34), (some 4), none⟩]
@[simp] def eq26_11 := id q26_11.eq_1
def q26_12 : List AOper :=
  [⟨.move .take (.t 3), (some 63), none⟩,
    ⟨.fieldAddr 6 (.p 1), (some 64), none⟩,
    ⟨.load .look false 1 (.p 64), (some 65), none⟩,
    ⟨.append 5 1 1 false (.t 63) (.p 65), (some 66), none⟩,
    ⟨.assign (.t 66), (some 3), none⟩]
@[simp] def eq26_12 := id q26_12.eq_1
def q26_13 : List AOper :=
  [⟨.move .take (.t 3), (some 69), none⟩,
    ⟨.fieldAddr 3 (.p 1), (some 70), none⟩,
    ⟨.load .look false 1 (.p 70), (some 71), none⟩,
    ⟨.convInt .u8 (.p 71), (some 72), none⟩,
    ⟨.buildSl 5 1 [.int .u8 0] [(0, 1, .p 72)], (some 73), none⟩,
    ⟨.append 5 1 1 false (.t 69) (.p 73), (some 74), none⟩,
    ⟨.assign (.t 74), (some 3), none⟩]
@[simp] def eq26_13 := id q26_13.eq_1
def q26_14 : List AOper :=
  [⟨.move .take (.t 3), (some 78), none⟩,
    ⟨.fieldAddr 3 (.p 1), (some 79), none⟩,
    ⟨.load .look false 1 (.p 79), (some 80), none⟩,
    ⟨.convInt .u64 (.p 80), (some 81), none⟩,
    ⟨.call 75 [(.t 78, true), (.p 81, false)], (some 82), none⟩,
    ⟨.assign (.t 82), (some 3), none⟩]
@[simp] def eq26_14 := id q26_14.eq_1
def q26_15 : List AOper :=
  [⟨.move .take (.t 3), (some 85), none⟩,
    ⟨.fieldAddr 3 (.p 1), (some 86), none⟩,
    ⟨.load .look false 1 (.p 86), (some 87), none⟩,
    ⟨.call 72 [(.t 85, true), (.p 87, false)], (some 88), none⟩,
    ⟨.assign (.t 88), (some 3), none⟩]
@[simp] def eq26_15 := id q26_15.eq_1
def q26_16 : List AOper :=
  [⟨.move .take (.t 3), (some 102), none⟩,
    ⟨.buildSl 5 1 [.int .u8 0] [(0, 1, .c (.int .u8 0))], (some 103), none⟩,
    ⟨.append 5 1 1 false (.t 102) (.p 103), (some 104), none⟩,
    ⟨.assign (.t 104), (some 3), none⟩]
@[simp] def eq26_16 := id q26_16.eq_1
def q26_17 : List AOper :=
  [⟨.move .take (.t 3), (some 98), none⟩,
    ⟨.fieldAddr 2 (.p 1), (some 99), none⟩,
    ⟨.load .look false 1 (.p 99), (some 100), none⟩,
    ⟨.append 5 1 1 true (.t 98) (.p 100), (some 101), none⟩,
    ⟨.assign (.t 101), (some 3), none⟩]
@[simp] def eq26_17 := id q26_17.eq_1
def q26_18 : List AOper :=
  [⟨.move .take (.t 3), (some 95), none⟩,
    ⟨.buildSl 5 1 [.int .u8 0] [(0, 1, .c (.int .u8 0))], (some 96), none⟩,
    ⟨.append 5 1 1 false (.t 95) (.p 96), (some 97), none⟩,
    ⟨.assign (.t 97), (some 3), none⟩]
@[simp] def eq26_18 := id q26_18.eq_1
def q26_19 : List AOper :=
  [⟨.move .take (.t 3), (some 91), none⟩,
    ⟨.fieldAddr 1 (.p 1), (some 92), none⟩,
    ⟨.load .look false 1 (.p 92), (some 93), none⟩,
    ⟨.append 5 1 1 true (.t 91) (.p 93), (some 94), none⟩,
    ⟨.assign (.t 94), (some 3), none⟩]
@[simp] def eq26_19 := id q26_19.eq_1
def q26_20 : List AOper :=
  [⟨.move .take (.t 3), (some 111), none⟩,
    ⟨.fieldAddr 6 (.p 1), (some 112), none⟩,
    ⟨.load .look false 1 (.p 112), (some 113), none⟩,
    ⟨.append 5 1 1 false (.t 111) (.p 113), (some 114), none⟩,
    ⟨.assign (.t 114), (some 3), none⟩]
@[simp] def eq26_20 := id q26_20.eq_1
def q26_21 : List AOper :=
  [⟨.move .take (.t 3), (some 107), none⟩,
    ⟨.fieldAddr 1 (.p 1), (some 108), none⟩,
    ⟨.load .look false 1 (.p 108), (some 109), none⟩,
    ⟨.call 76 [(.t 107, true), (.p 109, false)], (some 110), none⟩,
    ⟨.assign (.t 110), (some 3), none⟩]
@[simp] def eq26_21 := id q26_21.eq_1
def q26_22 : List AOper :=
  [⟨.move .take (.t 3), (some 134), none⟩,
    ⟨.move .look (.t 6), (some 135), none⟩,
    ⟨.append 5 1 1 false (.t 134) (.p 135), (some 136), none⟩,
    ⟨.assign (.t 136), (some 3), none⟩]
@[simp] def eq26_22 := id q26_22.eq_1
def q26_23 : List AOper :=
  [⟨.move .take (.t 3), (some 131), none⟩,
    ⟨.move .look (.t 5), (some 132), none⟩,
    ⟨.append 5 1 1 false (.t 131) (.p 132), (some 133), none⟩,
    ⟨.assign (.t 133), (some 3), none⟩]
@[simp] def eq26_23 := id q26_23.eq_1
def q26_24 : List AOper :=
  [⟨.move .take (.t 3), (some 123), none⟩,
    ⟨.move .head (.t 5), (some 124), none⟩,
    ⟨.len false (.p 124), (some 125), none⟩,
    ⟨.bin .add 1 true (.c (.int .i64 4)) (.p 125), (some 126), none⟩,
    ⟨.move .head (.t 6), (some 127), none⟩,
    ⟨.len false (.p 127), (some 128), none⟩,
    ⟨.bin .add 1 false (.p 126) (.p 128), (some 129), none⟩,
    ⟨.call 72 [(.t 123, true), (.p 129, false)], (some 130), none⟩,
    ⟨.assign (.t 130), (some 3), none⟩]
@[simp] def eq26_24 := id q26_24.eq_1
def q26_25 : List AOper :=
  [⟨.fieldAddr 7 (.p 1), (some 120), none⟩,
    ⟨.load .look false 1 (.p 120), (some 121), none⟩,
    ⟨.call 24 [(.t 121, false)], (some 122), none⟩,
    ⟨.assign (.t 122), (some 6), none⟩]
@[simp] def eq26_25 := id q26_25.eq_1
def q26_26 : List AOper :=
  [⟨.fieldAddr 1 (.p 1), (some 117), none⟩,
    ⟨.load .look false 1 (.p 117), (some 118), none⟩,
    ⟨.call 76 [(.c (.slice .nil 0 1 []), true), (.p 118, false)], (some 119), none⟩,
    ⟨.assign (.t 119), (some 5), none⟩]
@[simp] def eq26_26 := id q26_26.eq_1
def q26_27 : List AOper :=
  [⟨.move .take (.t 3), (some 143), none⟩,
    ⟨.fieldAddr 5 (.p 1), (some 144), none⟩,
    ⟨.load .look false 1 (.p 144), (some 145), none⟩,
    ⟨.call 75 [(.t 143, true), (.p 145, false)], (some 146), none⟩,
    ⟨.assign (.t 146), (some 3), none⟩]
@[simp] def eq26_27 := id q26_27.eq_1
def q26_28 : List AOper :=
  [⟨.move .take (.t 3), (some 139), none⟩,
    ⟨.fieldAddr 4 (.p 1), (some 140), none⟩,
    ⟨.load .look false 1 (.p 140), (some 141), none⟩,
    ⟨.call 75 [(.t 139, true), (.p 141, false)], (some 142), none⟩,
    ⟨.assign (.t 142), (some 3), none⟩]
@[simp] def eq26_28 := id q26_28.eq_1
def q26_29 : List AOper :=
  [⟨.bin .eql 1 true (.p 8) (.c (.int .i64 19)), (some 138), none⟩,
    ⟨.assign (.p 138), (some 137), none⟩]
@[simp] def eq26_29 := id q26_29.eq_1
def q26_30 : List AOper :=
  [⟨.bin .eql 1 true (.p 8) (.c (.int .i64 15)), (some 116), none⟩,
    ⟨.assign (.p 116), (some 115), none⟩]
@[simp] def eq26_30 := id q26_30.eq_1
def q26_31 : List AOper :=
  [⟨.bin .eql 1 true (.p 8) (.c (.int .i64 12)), (some 106), none⟩,
    ⟨.assign (.p 106), (some 105), none⟩]
@[simp] def eq26_31 := id q26_31.eq_1
def q26_32 : List AOper :=
  [⟨.bin .eql 1 true (.p 8) (.c (.int .i64 11)), (some 90), none⟩,
    ⟨.assign (.p 90), (some 89), none⟩]
@[simp] def eq26_32 := id q26_32.eq_1
def q26_33 : List AOper :=
  [⟨.bin .eql 1 true (.p 8) (.c (.int .i64 16)), (some 84), none⟩,
    ⟨.assign (.p 84), (some 83), none⟩]
@[simp] def eq26_33 := id q26_33.eq_1
def q26_34 : List AOper :=
  [⟨.bin .eql 1 true (.p 8) (.c (.int .i64 18)), (some 77), none⟩,
    ⟨.assign (.p 77), (some 75), none⟩]
@[simp] def eq26_34 := id q26_34.eq_1
def q26_35 : List AOper :=
  [⟨.bin .eql 1 true (.p 8) (.c (.int .i64 9)), (some 76), none⟩,
    ⟨.assign (.p 76), (some 75), none⟩]
@[simp] def eq26_35 := id q26_35.eq_1
def q26_36 : List AOper :=
  [⟨.bin .eql 1 true (.p 8) (.c (.int .i64 8)), (some 68), none⟩,
    ⟨.assign (.p 68), (some 67), none⟩]
@[simp] def eq26_36 := id q26_36.eq_1
def q26_37 : List AOper :=
  [⟨.bin .eql 1 true (.p 8) (.c (.int .i64 7)), (some 62), none⟩,
    ⟨.assign (.p 62), (some 61), none⟩]
@[simp] def eq26_37 := id q26_37.eq_1
def q26_38 : List AOper :=
  [⟨.bin .eql 1 true (.p 8) (.c (.int .i64 5)), (some 31), none⟩,
    ⟨.assign (.p 31), (some 30), none⟩]
@[simp] def eq26_38 := id q26_38.eq_1
def q26_39 : List AOper :=
  [⟨.bin .eql 1 true (.p 8) (.c (.int .i64 4)), (some 26), none⟩,
    ⟨.assign (.p 26), (some 24), none⟩]
@[simp] def eq26_39 := id q26_39.eq_1
def q26_40 : List AOper :=
  [⟨.bin .eql 1 true (.p 8) (.c (.int .i64 3)), (some 25), none⟩,
    ⟨.assign (.p 25), (some 24), none⟩]
@[simp] def eq26_40 := id q26_40.eq_1
def q26_41 : List AOper :=
  [⟨.bin .eql 1 true (.p 8) (.c (.int .i64 14)), (some 19), none⟩,
    ⟨.assign (.p 19), (some 16), none⟩]
@[simp] def eq26_41 := id q26_41.eq_1
def q26_42 : List AOper :=
  [⟨.bin .eql 1 true (.p 8) (.c (.int .i64 13)), (some 18), none⟩,
    ⟨.assign (.p 18), (some 16), none⟩]
@[simp] def eq26_42 := id q26_42.eq_1
def q26_43 : List AOper :=
  [⟨.bin .eql 1 true (.p 8) (.c (.int .i64 2)), (some 17), none⟩,
    ⟨.assign (.p 17), (some 16), none⟩]
@[simp] def eq26_43 := id q26_43.eq_1
def q26_44 : List AOper :=
  [⟨.bin .eql 1 true (.p 8) (.c (.int .i64 17)), (some 11), none⟩,
    ⟨.assign (.p 11), (some 9), none⟩]
@[simp] def eq26_44 := id q26_44.eq_1
def q26_45 : List AOper :=
  [⟨.bin .eql 1 true (.p 8) (.c (.int .i64 1)), (some 10), none⟩,
    ⟨.assign (.p 10), (some 9), none⟩]
@[simp] def eq26_45 := id q26_45.eq_1
def q26_46 : List AOper :=
  [⟨.fieldAddr 0 (.p 1), (some 7), none⟩,
    ⟨.load .head false 1 (.p 7), (some 8), none⟩]
@[simp] def eq26_46 := id q26_46.eq_1
def q26_47 : List AOper :=
  [⟨.box 1 (.p 0), (some 1), none⟩,
    ⟨.assign (.c (.slice .nil 0 1 [])), (some 2), none⟩]
@[simp] def eq26_47 := id q26_47.eq_1
def k26_0 : ACode :=
  .ops q26_0 .ret
@[simp] theorem xk26_0 : GoC fns Q s k26_0 st ↔ GoO fns Q s q26_0 .ret st := goC_ops
def k26_1 : ACode :=
  .ops q26_1 .skip
@[simp] theorem xk26_1 : GoC fns Q s k26_1 st ↔ GoO fns Q s q26_1 .skip st := goC_ops
def k26_2 : ACode :=
  .ops q26_2 .skip
@[simp] theorem xk26_2 : GoC fns Q s k26_2 st ↔ GoO fns Q s q26_2 .skip st := goC_ops
def k26_3 : ACode :=
  .ops q26_3 .skip
@[simp] theorem xk26_3 : GoC fns Q s k26_3 st ↔ GoO fns Q s q26_3 .skip st := goC_ops
def k26_4 : ACode :=
  .ops q26_4 .skip
@[simp] theorem xk26_4 : GoC fns Q s k26_4 st ↔ GoO fns Q s q26_4 .skip st := goC_ops
def k26_5 : ACode :=
  .ops q26_5 .skip
@[simp] theorem xk26_5 : GoC fns Q s k26_5 st ↔ GoO fns Q s q26_5 .skip st := goC_ops
def k26_6 : ACode :=
  .ops q26_6 k26_5
@[simp] theorem xk26_6 : GoC fns Q s k26_6 st ↔ GoO fns Q s q26_6 k26_5 st := goC_ops
def k26_7 : ACode :=
  .ops q26_7 k26_6
@[simp] theorem xk26_7 : GoC fns Q s k26_7 st ↔ GoO fns Q s q26_7 k26_6 st := goC_ops
def k26_8 : ACode :=
  .ops q26_8 .skip
@[simp] theorem xk26_8 : GoC fns Q s k26_8 st ↔ GoO fns Q s q26_8 .skip st := goC_ops
def k26_9 : ACode :=
  .ops q26_9 k26_8
@[simp] theorem xk26_9 : GoC fns Q s k26_9 st ↔ GoO fns Q s q26_9 k26_8 st := goC_ops
def k26_10 : ACode :=
  .cond (.p 37) k26_7 k26_9
@[simp] theorem xk26_10 : GoC fns Q s k26_10 st ↔ GB fns Q s (peek st (.p 37)) k26_7 k26_9 st := goC_cond
def k26_11 : ACode :=
  .seq k26_10 k26_4
@[simp] theorem xk26_11 : GoC fns Q s k26_11 st ↔ GoC fns Q (.sq k26_4 :: s) k26_10 st := goC_seq
def k26_12 : ACode :=
  .ops q26_10 k26_11
@[simp] theorem xk26_12 : GoC fns Q s k26_12 st ↔ GoO fns Q s q26_10 k26_11 st := goC_ops
def k26_13 : ACode :=
  .ops q26_11 k26_12
@[simp] theorem xk26_13 : GoC fns Q s k26_13 st ↔ GoO fns Q s q26_11 k26_12 st := goC_ops
def k26_14 : ACode :=
  .ops q26_12 .skip
@[simp] theorem xk26_14 : GoC fns Q s k26_14 st ↔ GoO fns Q s q26_12 .skip st := goC_ops
def k26_15 : ACode :=
  .ops q26_13 .skip
@[simp] theorem xk26_15 : GoC fns Q s k26_15 st ↔ GoO fns Q s q26_13 .skip st := goC_ops
def k26_16 : ACode :=
  .ops q26_14 .skip
@[simp] theorem xk26_16 : GoC fns Q s k26_16 st ↔ GoO fns Q s q26_14 .skip st := goC_ops
def k26_17 : ACode :=
  .ops q26_15 .skip
@[simp] theorem xk26_17 : GoC fns Q s k26_17 st ↔ GoO fns Q s q26_15 .skip st := goC_ops
def k26_18 : ACode :=
  .ops q26_16 .skip
@[simp] theorem xk26_18 : GoC fns Q s k26_18 st ↔ GoO fns Q s q26_16 .skip st := goC_ops
def k26_19 : ACode :=
  .ops q26_17 k26_18
@[simp] theorem xk26_19 : GoC fns Q s k26_19 st ↔ GoO fns Q s q26_17 k26_18 st := goC_ops
def k26_20 : ACode :=
  .ops q26_18 k26_19
@[simp] theorem xk26_20 : GoC fns Q s k26_20 st ↔ GoO fns Q s q26_18 k26_19 st := goC_ops
def k26_21 : ACode :=
  .ops q26_19 k26_20
@[simp] theorem xk26_21 : GoC fns Q s k26_21 st ↔ GoO fns Q s q26_19 k26_20 st := goC_ops
def k26_22 : ACode :=
  .ops q26_20 .skip
@[simp] theorem xk26_22 : GoC fns Q s k26_22 st ↔ GoO fns Q s q26_20 .skip st := goC_ops
def k26_23 : ACode :=
  .ops q26_21 k26_22
@[simp] theorem xk26_23 : GoC fns Q s k26_23 st ↔ GoO fns Q s q26_21 k26_22 st := goC_ops
def k26_24 : ACode :=
  .ops q26_22 .skip
@[simp] theorem xk26_24 : GoC fns Q s k26_24 st ↔ GoO fns Q s q26_22 .skip st := goC_ops
def k26_25 : ACode :=
  .ops q26_23 k26_24
@[simp] theorem xk26_25 : GoC fns Q s k26_25 st ↔ GoO fns Q s q26_23 k26_24 st := goC_ops
def k26_26 : ACode :=
  .ops q26_24 k26_25
@[simp] theorem xk26_26 : GoC fns Q s k26_26 st ↔ GoO fns Q s q26_24 k26_25 st := goC_ops
def k26_27 : ACode :=
  .ops q26_25 k26_26
@[simp] theorem xk26_27 : GoC fns Q s k26_27 st ↔ GoO fns Q s q26_25 k26_26 st := goC_ops
def k26_28 : ACode :=
  .ops q26_26 k26_27
@[simp] theorem xk26_28 : GoC fns Q s k26_28 st ↔ GoO fns Q s q26_26 k26_27 st := goC_ops
def k26_29 : ACode :=
  .ops q26_27 .skip
@[simp] theorem xk26_29 : GoC fns Q s k26_29 st ↔ GoO fns Q s q26_27 .skip st := goC_ops
def k26_30 : ACode :=
  .ops q26_28 k26_29
@[simp] theorem xk26_30 : GoC fns Q s k26_30 st ↔ GoO fns Q s q26_28 k26_29 st := goC_ops
def k26_31 : ACode :=
  .cond (.p 137) k26_30 .skip
@[simp] theorem xk26_31 : GoC fns Q s k26_31 st ↔ GB fns Q s (peek st (.p 137)) k26_30 .skip st := goC_cond
def k26_32 : ACode :=
  .ops q26_29 k26_31
@[simp] theorem xk26_32 : GoC fns Q s k26_32 st ↔ GoO fns Q s q26_29 k26_31 st := goC_ops
def k26_33 : ACode :=
  .cond (.p 115) k26_28 k26_32
@[simp] theorem xk26_33 : GoC fns Q s k26_33 st ↔ GB fns Q s (peek st (.p 115)) k26_28 k26_32 st := goC_cond
def k26_34 : ACode :=
  .ops q26_30 k26_33
@[simp] theorem xk26_34 : GoC fns Q s k26_34 st ↔ GoO fns Q s q26_30 k26_33 st := goC_ops
def k26_35 : ACode :=
  .cond (.p 105) k26_23 k26_34
@[simp] theorem xk26_35 : GoC fns Q s k26_35 st ↔ GB fns Q s (peek st (.p 105)) k26_23 k26_34 st := goC_cond
def k26_36 : ACode :=
  .ops q26_31 k26_35
@[simp] theorem xk26_36 : GoC fns Q s k26_36 st ↔ GoO fns Q s q26_31 k26_35 st := goC_ops
def k26_37 : ACode :=
  .cond (.p 89) k26_21 k26_36
@[simp] theorem xk26_37 : GoC fns Q s k26_37 st ↔ GB fns Q s (peek st (.p 89)) k26_21 k26_36 st := goC_cond
def k26_38 : ACode :=
  .ops q26_32 k26_37
@[simp] theorem xk26_38 : GoC fns Q s k26_38 st ↔ GoO fns Q s q26_32 k26_37 st := goC_ops
def k26_39 : ACode :=
  .cond (.p 83) k26_17 k26_38
@[simp] theorem xk26_39 : GoC fns Q s k26_39 st ↔ GB fns Q s (peek st (.p 83)) k26_17 k26_38 st := goC_cond
def k26_40 : ACode :=
  .ops q26_33 k26_39
@[simp] theorem xk26_40 : GoC fns Q s k26_40 st ↔ GoO fns Q s q26_33 k26_39 st := goC_ops
def k26_41 : ACode :=
  .cond (.p 75) k26_16 k26_40
@[simp] theorem xk26_41 : GoC fns Q s k26_41 st ↔ GB fns Q s (peek st (.p 75)) k26_16 k26_40 st := goC_cond
def k26_42 : ACode :=
  .ops q26_34 .skip
@[simp] theorem xk26_42 : GoC fns Q s k26_42 st ↔ GoO fns Q s q26_34 .skip st := goC_ops
def k26_43 : ACode :=
  .cond (.p 75) .skip k26_42
@[simp] theorem xk26_43 : GoC fns Q s k26_43 st ↔ GB fns Q s (peek st (.p 75)) .skip k26_42 st := goC_cond
def k26_44 : ACode :=
  .seq k26_43 k26_41
@[simp] theorem xk26_44 : GoC fns Q s k26_44 st ↔ GoC fns Q (.sq k26_41 :: s) k26_43 st := goC_seq
def k26_45 : ACode :=
  .ops q26_35 k26_44
@[simp] theorem xk26_45 : GoC fns Q s k26_45 st ↔ GoO fns Q s q26_35 k26_44 st := goC_ops
def k26_46 : ACode :=
  .cond (.p 67) k26_15 k26_45
@[simp] theorem xk26_46 : GoC fns Q s k26_46 st ↔ GB fns Q s (peek st (.p 67)) k26_15 k26_45 st := goC_cond
def k26_47 : ACode :=
  .ops q26_36 k26_46
@[simp] theorem xk26_47 : GoC fns Q s k26_47 st ↔ GoO fns Q s q26_36 k26_46 st := goC_ops
def k26_48 : ACode :=
  .cond (.p 61) k26_14 k26_47
@[simp] theorem xk26_48 : GoC fns Q s k26_48 st ↔ GB fns Q s (peek st (.p 61)) k26_14 k26_47 st := goC_cond
def k26_49 : ACode :=
  .ops q26_37 k26_48
@[simp] theorem xk26_49 : GoC fns Q s k26_49 st ↔ GoO fns Q s q26_37 k26_48 st := goC_ops
def k26_50 : ACode :=
  .cond (.p 30) k26_13 k26_49
@[simp] theorem xk26_50 : GoC fns Q s k26_50 st ↔ GB fns Q s (peek st (.p 30)) k26_13 k26_49 st := goC_cond
def k26_51 : ACode :=
  .ops q26_38 k26_50
@[simp] theorem xk26_51 : GoC fns Q s k26_51 st ↔ GoO fns Q s q26_38 k26_50 st := goC_ops
def k26_52 : ACode :=
  .cond (.p 24) k26_3 k26_51
@[simp] theorem xk26_52 : GoC fns Q s k26_52 st ↔ GB fns Q s (peek st (.p 24)) k26_3 k26_51 st := goC_cond
def k26_53 : ACode :=
  .ops q26_39 .skip
@[simp] theorem xk26_53 : GoC fns Q s k26_53 st ↔ GoO fns Q s q26_39 .skip st := goC_ops
def k26_54 : ACode :=
  .cond (.p 24) .skip k26_53
@[simp] theorem xk26_54 : GoC fns Q s k26_54 st ↔ GB fns Q s (peek st (.p 24)) .skip k26_53 st := goC_cond
def k26_55 : ACode :=
  .seq k26_54 k26_52
@[simp] theorem xk26_55 : GoC fns Q s k26_55 st ↔ GoC fns Q (.sq k26_52 :: s) k26_54 st := goC_seq
def k26_56 : ACode :=
  .ops q26_40 k26_55
@[simp] theorem xk26_56 : GoC fns Q s k26_56 st ↔ GoO fns Q s q26_40 k26_55 st := goC_ops
def k26_57 : ACode :=
  .cond (.p 16) k26_2 k26_56
@[simp] theorem xk26_57 : GoC fns Q s k26_57 st ↔ GB fns Q s (peek st (.p 16)) k26_2 k26_56 st := goC_cond
def k26_58 : ACode :=
  .ops q26_41 .skip
@[simp] theorem xk26_58 : GoC fns Q s k26_58 st ↔ GoO fns Q s q26_41 .skip st := goC_ops
def k26_59 : ACode :=
  .cond (.p 16) .skip k26_58
@[simp] theorem xk26_59 : GoC fns Q s k26_59 st ↔ GB fns Q s (peek st (.p 16)) .skip k26_58 st := goC_cond
def k26_60 : ACode :=
  .ops q26_42 k26_59
@[simp] theorem xk26_60 : GoC fns Q s k26_60 st ↔ GoO fns Q s q26_42 k26_59 st := goC_ops
def k26_61 : ACode :=
  .cond (.p 16) .skip k26_60
@[simp] theorem xk26_61 : GoC fns Q s k26_61 st ↔ GB fns Q s (peek st (.p 16)) .skip k26_60 st := goC_cond
def k26_62 : ACode :=
  .seq k26_61 k26_57
@[simp] theorem xk26_62 : GoC fns Q s k26_62 st ↔ GoC fns Q (.sq k26_57 :: s) k26_61 st := goC_seq
def k26_63 : ACode :=
  .ops q26_43 k26_62
@[simp] theorem xk26_63 : GoC fns Q s k26_63 st ↔ GoO fns Q s q26_43 k26_62 st := goC_ops
def k26_64 : ACode :=
  .cond (.p 9) k26_1 k26_63
@[simp] theorem xk26_64 : GoC fns Q s k26_64 st ↔ GB fns Q s (peek st (.p 9)) k26_1 k26_63 st := goC_cond
def k26_65 : ACode :=
  .ops q26_44 .skip
@[simp] theorem xk26_65 : GoC fns Q s k26_65 st ↔ GoO fns Q s q26_44 .skip st := goC_ops
def k26_66 : ACode :=
  .cond (.p 9) .skip k26_65
@[simp] theorem xk26_66 : GoC fns Q s k26_66 st ↔ GB fns Q s (peek st (.p 9)) .skip k26_65 st := goC_cond
def k26_67 : ACode :=
  .seq k26_66 k26_64
@[simp] theorem xk26_67 : GoC fns Q s k26_67 st ↔ GoC fns Q (.sq k26_64 :: s) k26_66 st := goC_seq
def k26_68 : ACode :=
  .ops q26_45 k26_67
@[simp] theorem xk26_68 : GoC fns Q s k26_68 st ↔ GoO fns Q s q26_45 k26_67 st := goC_ops
def k26_69 : ACode :=
  .block 0 k26_68
@[simp] theorem xk26_69 : GoC fns Q s k26_69 st ↔ GoC fns Q (.bl 0 :: s) k26_68 st := goC_block
def k26_70 : ACode :=
  .seq k26_69 k26_0
@[simp] theorem xk26_70 : GoC fns Q s k26_70 st ↔ GoC fns Q (.sq k26_0 :: s) k26_69 st := goC_seq
def k26_71 : ACode :=
  .ops q26_46 k26_70
@[simp] theorem xk26_71 : GoC fns Q s k26_71 st ↔ GoO fns Q s q26_46 k26_70 st := goC_ops
def k26_72 : ACode :=
  .ops [⟨.assign (.c (.slice .nil 0 1 [])), (some 3), none⟩] k26_71
@[simp] theorem xk26_72 : GoC fns Q s k26_72 st ↔ GoO fns Q s [⟨.assign (.c (.slice .nil 0 1 [])), (some 3), none⟩] k26_71 st := goC_ops
def k26_73 : ACode :=
  .ops q26_47 k26_72
@[simp] theorem xk26_73 : GoC fns Q s k26_73 st ↔ GoO fns Q s q26_47 k26_72 st := goC_ops
def af26 : AFunc := ⟨148, k26_73, [.tmp 2], fun _ _ => none⟩

theorem ok26 : ∃ hs, pFunc Tryz.prog sg hs Tryz.f26 = some af26 := ⟨fun i => 0, by kernel_rfl⟩
def q32_0 : List AOper :=
  [⟨.fieldAddr 1 (.p 1), (some 3), none⟩,
    ⟨.fieldAddr 0 (.p 3), (some 4), none⟩,
    ⟨.load .look false 1 (.p 4), (some 5), none⟩,
    ⟨.fieldAddr 0 (.p 1), (some 6), none⟩,
    ⟨.load .look false 1 (.p 6), (some 7), none⟩,
    ⟨.fieldAddr 1 (.p 1), (some 9), none⟩,
    ⟨.load .look true 8 (.p 9), (some 10), none⟩,
    ⟨.call 82 [(.p 5, false), (.p 7, false)], (some 8), none⟩,
    ⟨.call 26 [(.p 10, false)], (some 11), none⟩,
    ⟨.append 5 1 1 false (.t 8) (.p 11), (some 12), none⟩,
    ⟨.assign (.t 12), (some 2), none⟩]
@[simp] def eq32_0 := id q32_0.eq_1
def q32_1 : List AOper :=
  [⟨.box 1 (.p 0), (some 1), none⟩,
    ⟨.assign (.c (.slice .nil 0 1 [])), (some 2), none⟩]
@[simp] def eq32_1 := id q32_1.eq_1
def k32_0 : ACode :=
  .ops q32_0 .ret
@[simp] theorem xk32_0 : GoC fns Q s k32_0 st ↔ GoO fns Q s q32_0 .ret st := goC_ops
def k32_1 : ACode :=
  .ops q32_1 k32_0
@[simp] theorem xk32_1 : GoC fns Q s k32_1 st ↔ GoO fns Q s q32_1 k32_0 st := goC_ops
def af32 : AFunc := ⟨13, k32_1, [.tmp 2], fun _ _ => none⟩

theorem ok32 : ∃ hs, pFunc Tryz.prog sg hs Tryz.f32 = some af32 := ⟨fun i => 0, by kernel_rfl⟩
def q24_0 : List AOper :=
  [⟨.move .take (.t 5), (some 26), none⟩,
    ⟨.buildSl 5 1 [.int .u8 0] [(0, 1, .c (.int .u8 0))], (some 27), none⟩,
    ⟨.append 5 1 1 false (.t 26) (.p 27), (some 28), none⟩,
    ⟨.assign (.t 28), (some 2), none⟩]
@[simp] def eq24_0 := id q24_0.eq_1
def q24_1 : List AOper :=
  [⟨.move .take (.t 5), (some 23), none⟩,
    ⟨.move .look (.t 3), (some 24), none⟩,
    ⟨.append 5 1 1 false (.t 23) (.p 24), (some 25), none⟩,
    ⟨.assign (.t 25), (some 5), none⟩]
@[simp] def eq24_1 := id q24_1.eq_1
def q24_2 : List AOper :=
  [⟨.move .head (.t 3), (some 19), none⟩,
    ⟨.len false (.p 19), (some 20), none⟩,
    ⟨.bin .add 1 true (.p 20) (.c (.int .i64 5)), (some 21), none⟩,
    ⟨.call 72 [(.c (.slice .nil 0 1 []), true), (.p 21, false)], (some 22), none⟩,
    ⟨.assign (.t 22), (some 5), none⟩]
@[simp] def eq24_2 := id q24_2.eq_1
def q24_3 : List AOper :=
  [⟨.move .look (.p 4), (some 10), none⟩,
    ⟨.bin .add 1 true (.p 10) (.c (.int .i64 1)), (some 11), none⟩,
    ⟨.assign (.p 11), (some 4), none⟩]
@[simp] def eq24_3 := id q24_3.eq_1
def q24_4 : List AOper :=
  [⟨.move .take (.t 3), (some 12), none⟩,
    ⟨.move .look (.t 0), (some 13), none⟩,
    ⟨.move .look (.p 4), (some 14), none⟩,
    ⟨.indexAddr 9 (.t 13) (.p 14), (some 15), none⟩,
    ⟨.load .look true 9 (.p 15), (some 16), none⟩,
    ⟨.call 32 [(.p 16, false)], (some 17), none⟩,
    ⟨.append 5 1 1 false (.t 12) (.p 17), (some 18), none⟩,
    ⟨.assign (.t 18), (some 3), none⟩]
@[simp] def eq24_4 := id q24_4.eq_1
def q24_5 : List AOper :=
  [⟨.move .look (.p 4), (some 6), none⟩,
    ⟨.move .head (.t 0), (some 7), none⟩,
    ⟨.len false (.p 7), (some 8), none⟩,
    ⟨.bin .lss 1 false (.p 6) (.p 8), (some 9), none⟩]
@[simp] def eq24_5 := id q24_5.eq_1
def k24_0 : ACode :=
  .ops q24_0 .ret
@[simp] theorem xk24_0 : GoC fns Q s k24_0 st ↔ GoO fns Q s q24_0 .ret st := goC_ops
def k24_1 : ACode :=
  .ops q24_1 k24_0
@[simp] theorem xk24_1 : GoC fns Q s k24_1 st ↔ GoO fns Q s q24_1 k24_0 st := goC_ops
def k24_2 : ACode :=
  .ops q24_2 k24_1
@[simp] theorem xk24_2 : GoC fns Q s k24_2 st ↔ GoO fns Q s q24_2 k24_1 st := goC_ops
def k24_3 : ACode :=
  .ops q24_3 .skip
@[simp] theorem xk24_3 : GoC fns Q s k24_3 st ↔ GoO fns Q s q24_3 .skip st := goC_ops
def k24_4 : ACode :=
  .ops q24_4 .skip
@[simp] theorem xk24_4 : GoC fns Q s k24_4 st ↔ GoO fns Q s q24_4 .skip st := goC_ops
def k24_5 : ACode :=
  .block 1 k24_4
@[simp] theorem xk24_5 : GoC fns Q s k24_5 st ↔ GoC fns Q (.bl 1 :: s) k24_4 st := goC_block
def k24_6 : ACode :=
  .seq k24_5 k24_3
@[simp] theorem xk24_6 : GoC fns Q s k24_6 st ↔ GoC fns Q (.sq k24_3 :: s) k24_5 st := goC_seq
def k24_7 : ACode :=
  .cond (.p 9) .skip (.exit 0)
@[simp] theorem xk24_7 : GoC fns Q s k24_7 st ↔ GB fns Q s (peek st (.p 9)) .skip (.exit 0) st := goC_cond
def k24_8 : ACode :=
  .seq k24_7 k24_6
@[simp] theorem xk24_8 : GoC fns Q s k24_8 st ↔ GoC fns Q (.sq k24_6 :: s) k24_7 st := goC_seq
def k24_9 : ACode :=
  .ops q24_5 k24_8
@[simp] theorem xk24_9 : GoC fns Q s k24_9 st ↔ GoO fns Q s q24_5 k24_8 st := goC_ops
def lc24_0 : ACode :=
  k24_9
@[simp] theorem xlc24_0 : GoC fns Q s lc24_0 st ↔ GoC fns Q s k24_9 st := Iff.rfl
def k24_11 : ACode :=
  .loop lc24_0
@[simp] theorem xk24_11 : GoC fns Q s k24_11 st ↔ (LoopR fns lc24_0 st fun r => GoE fns Q s r.1 r.2) := goC_loop
def k24_12 : ACode :=
  .block 0 k24_11
@[simp] theorem xk24_12 : GoC fns Q s k24_12 st ↔ GoC fns Q (.bl 0 :: s) k24_11 st := goC_block
def k24_13 : ACode :=
  .seq k24_12 k24_2
@[simp] theorem xk24_13 : GoC fns Q s k24_13 st ↔ GoC fns Q (.sq k24_2 :: s) k24_12 st := goC_seq
def k24_14 : ACode :=
  .ops [⟨.assign (.c (.int .i64 0)), (some 4), none⟩] k24_13
@[simp] theorem xk24_14 : GoC fns Q s k24_14 st ↔ GoO fns Q s [⟨.assign (.c (.int .i64 0)), (some 4), none⟩] k24_13 st := goC_ops
def k24_15 : ACode :=
  .ops [⟨.assign (.c (.slice .nil 0 1 [])), (some 3), none⟩] k24_14
@[simp] theorem xk24_15 : GoC fns Q s k24_15 st ↔ GoO fns Q s [⟨.assign (.c (.slice .nil 0 1 [])), (some 3), none⟩] k24_14 st := goC_ops
def k24_16 : ACode :=
  .ops [⟨.assign (.c (.slice .nil 0 1 [])), (some 2), none⟩] k24_15
@[simp] theorem xk24_16 : GoC fns Q s k24_16 st ↔ GoO fns Q s [⟨.assign (.c (.slice .nil 0 1 [])), (some 2), none⟩] k24_15 st := goC_ops
def af24 : AFunc := ⟨29, k24_16, [.tmp 2], fun _ _ => none⟩

theorem ok24 : ∃ hs, pFunc Tryz.prog sg hs Tryz.f24 = some af24 := ⟨fun i => 0, by kernel_rfl⟩
def q140_0 : List AOper :=
  [⟨.move .take (.p 5), (some 35), none⟩,
    ⟨.move .look (.t 0), (some 36), none⟩,
    ⟨.sliceSl 1 (.t 36) (some (.c (.int .i64 4))) none, (some 37), none⟩,
    ⟨.assign (.p 35), (some 2), none⟩,
    ⟨.assign (.t 37), (some 3), none⟩,
    ⟨.assign (.c (.bool true)), (some 4), none⟩]
@[simp] def eq140_0 := id q140_0.eq_1
def q140_1 : List AOper :=
  [⟨.move .look (.t 0), (some 13), none⟩,
    ⟨.indexAddr 1 (.t 13) (.c (.int .i64 0)), (some 14), none⟩,
    ⟨.load .look false 1 (.p 14), (some 15), none⟩,
    ⟨.convInt .i32 (.p 15), (some 16), none⟩,
    ⟨.move .look (.t 0), (some 17), none⟩,
    ⟨.indexAddr 1 (.t 17) (.c (.int .i64 1)), (some 18), none⟩,
    ⟨.load .look false 1 (.p 18), (some 19), none⟩,
    ⟨.convInt .i32 (.p 19), (some 20), none⟩,
    ⟨.bin .shl 1 true (.p 20) (.c (.int .u64 8)), (some 21), none⟩,
    ⟨.bin .or 1 false (.p 16) (.p 21), (some 22), none⟩,
    ⟨.move .look (.t 0), (some 23), none⟩,
    ⟨.indexAddr 1 (.t 23) (.c (.int .i64 2)), (some 24), none⟩,
    ⟨.load .look false 1 (.p 24), (some 25), none⟩,
    ⟨.convInt .i32 (.p 25), (some 26), none⟩,
    ⟨.bin .shl 1 true (.p 26) (.c (.int .u64 16)), (some 27), none⟩,
    ⟨.bin .or 1 false (.p 22) (.p 27), (some 28), none⟩,
    ⟨.move .look (.t 0), (some 29), none⟩,
    ⟨.indexAddr 1 (.t 29) (.c (.int .i64 3)), (some 30), none⟩,
    ⟨.load .look false 1 (.p 30), (some 31), none⟩,
    ⟨.convInt .i32 (.p 31), (some 32), none⟩,
    ⟨.bin .shl 1 true (.p 32) (.c (.int .u64 24)), (some 33), none⟩,
    ⟨.bin .or 1 false (.p 28) (.p 33), (some 34), none⟩,
    ⟨.assign (.p 34), (some 5), none⟩]
@[simp] def eq140_1 := id q140_1.eq_1
def q140_2 : List AOper :=
  [⟨.move .look (.t 0), (some 10), none⟩,
    ⟨.indexAddr 1 (.t 10) (.c (.int .i64 3)), (some 11), none⟩,
    ⟨.load .head false 1 (.p 11), (some 12), none⟩]
@[simp] def eq140_2 := id q140_2.eq_1
def q140_3 : List AOper :=
  [⟨.move .take (.t 0), (some 9), none⟩,
    ⟨.assign (.c (.int .i32 0)), (some 2), none⟩,
    ⟨.assign (.t 9), (some 3), none⟩,
    ⟨.assign (.c (.bool false)), (some 4), none⟩]
@[simp] def eq140_3 := id q140_3.eq_1
def q140_4 : List AOper :=
  [⟨.move .head (.t 0), (some 6), none⟩,
    ⟨.len false (.p 6), (some 7), none⟩,
    ⟨.bin .lss 1 true (.p 7) (.c (.int .i64 4)), (some 8), none⟩]
@[simp] def eq140_4 := id q140_4.eq_1
def q140_5 : List AOper :=
  [⟨.assign (.c (.int .i32 0)), (some 2), none⟩,
    ⟨.assign (.c (.slice .nil 0 1 [])), (some 3), none⟩,
    ⟨.assign (.c (.bool false)), (some 4), none⟩]
@[simp] def eq140_5 := id q140_5.eq_1
def k140_0 : ACode :=
  .ops q140_0 .ret
@[simp] theorem xk140_0 : GoC fns Q s k140_0 st ↔ GoO fns Q s q140_0 .ret st := goC_ops
def k140_1 : ACode :=
  .ops q140_1 k140_0
@[simp] theorem xk140_1 : GoC fns Q s k140_1 st ↔ GoO fns Q s q140_1 k140_0 st := goC_ops
def k140_2 : ACode :=
  .ops q140_2 k140_1
@[simp] theorem xk140_2 : GoC fns Q s k140_2 st ↔ GoO fns Q s q140_2 k140_1 st := goC_ops
def k140_3 : ACode :=
  .ops q140_3 .ret
@[simp] theorem xk140_3 : GoC fns Q s k140_3 st ↔ GoO fns Q s q140_3 .ret st := goC_ops
def k140_4 : ACode :=
  .cond (.p 8) k140_3 .skip
@[simp] theorem xk140_4 : GoC fns Q s k140_4 st ↔ GB fns Q s (peek st (.p 8)) k140_3 .skip st := goC_cond
def k140_5 : ACode :=
  .seq k140_4 k140_2
@[simp] theorem xk140_5 : GoC fns Q s k140_5 st ↔ GoC fns Q (.sq k140_2 :: s) k140_4 st := goC_seq
def k140_6 : ACode :=
  .ops q140_4 k140_5
@[simp] theorem xk140_6 : GoC fns Q s k140_6 st ↔ GoO fns Q s q140_4 k140_5 st := goC_ops
def k140_7 : ACode :=
  .ops q140_5 k140_6
@[simp] theorem xk140_7 : GoC fns Q s k140_7 st ↔ GoO fns Q s q140_5 k140_6 st := goC_ops
def af140 : AFunc := ⟨38, k140_7, [.tmp 2, .tmp 3, .tmp 4], fun _ _ => none⟩

theorem ok140 : ∃ hs, pFunc Tryz.prog sg hs Tryz.f140 = some af140 := ⟨fun i => 0, by kernel_rfl⟩
def q54_0 : List AOper :=
  [⟨.move .take (.p 5), (some 17), none⟩,
    ⟨.move .take (.t 0), (some 18), none⟩,
    ⟨.move .take (.p 6), (some 19), none⟩,
    ⟨.assign (.p 17), (some 2), none⟩,
    ⟨.assign (.t 18), (some 3), none⟩,
    ⟨.assign (.p 19), (some 4), none⟩]
@[simp] def eq54_0 := id q54_0.eq_1
def q54_1 : List AOper :=
  [⟨.move .take (.p 5), (some 15), none⟩,
    ⟨.move .take (.t 0), (some 16), none⟩,
    ⟨.assign (.p 15), (some 2), none⟩,
    ⟨.assign (.t 16), (some 3), none⟩,
    ⟨.assign (.c (.bool false)), (some 4), none⟩]
@[simp] def eq54_1 := id q54_1.eq_1
def q54_2 : List AOper :=
  [⟨.move .look (.p 5), (some 13), none⟩,
    ⟨.bin .lss 1 true (.p 13) (.c (.int .i32 0)), (some 14), none⟩]
@[simp] def eq54_2 := id q54_2.eq_1
def q54_3 : List AOper :=
  [⟨.move .look (.t 0), (some 8), none⟩,
    ⟨.call 140 [(.t 8, false)], (some 9), none⟩,
    ⟨.move .look (.t 9), (some 7), none⟩,
    ⟨.extract 7 0, (some 10), none⟩,
    ⟨.extract 7 1, (some 11), none⟩,
    ⟨.extract 7 2, (some 12), none⟩,
    ⟨.assign (.p 10), (some 5), none⟩,
    ⟨.assign (.t 11), (some 0), none⟩,
    ⟨.assign (.p 12), (some 6), none⟩]
@[simp] def eq54_3 := id q54_3.eq_1
def q54_4 : List AOper :=
  [⟨.assign (.c (.int .i32 0)), (some 2), none⟩,
    ⟨.assign (.c (.slice .nil 0 1 [])), (some 3), none⟩,
    ⟨.assign (.c (.bool false)), (some 4), none⟩]
@[simp] def eq54_4 := id q54_4.eq_1
def k54_0 : ACode :=
  .ops q54_0 .ret
@[simp] theorem xk54_0 : GoC fns Q s k54_0 st ↔ GoO fns Q s q54_0 .ret st := goC_ops
def k54_1 : ACode :=
  .ops q54_1 .ret
@[simp] theorem xk54_1 : GoC fns Q s k54_1 st ↔ GoO fns Q s q54_1 .ret st := goC_ops
def k54_2 : ACode :=
  .cond (.p 14) k54_1 .skip
@[simp] theorem xk54_2 : GoC fns Q s k54_2 st ↔ GB fns Q s (peek st (.p 14)) k54_1 .skip st := goC_cond
def k54_3 : ACode :=
  .seq k54_2 k54_0
@[simp] theorem xk54_3 : GoC fns Q s k54_3 st ↔ GoC fns Q (.sq k54_0 :: s) k54_2 st := goC_seq
def k54_4 : ACode :=
  .ops q54_2 k54_3
@[simp] theorem xk54_4 : GoC fns Q s k54_4 st ↔ GoO fns Q s q54_2 k54_3 st := goC_ops
def k54_5 : ACode :=
  .ops q54_3 k54_4
@[simp] theorem xk54_5 : GoC fns Q s k54_5 st ↔ GoO fns Q s q54_3 k54_4 st := goC_ops
def k54_6 : ACode :=
  .ops q54_4 k54_5
@[simp] theorem xk54_6 : GoC fns Q s k54_6 st ↔ GoO fns Q s q54_4 k54_5 st := goC_ops
def af54 : AFunc := ⟨20, k54_6, [.tmp 2, .tmp 3, .tmp 4], fun _ _ => none⟩

theorem ok54 : ∃ hs, pFunc Tryz.prog sg hs Tryz.f54 = some af54 := ⟨fun i => 0, by kernel_rfl⟩
def q220_0 : List AOper :=
  [⟨.move .look (.t 0), (some 5), none⟩,
    ⟨.move .look (.p 1), (some 6), none⟩,
    ⟨.px .idxB [.p 5, .p 6], (some 7), none⟩,
    ⟨.assign (.p 7), (some 4), none⟩]
@[simp] def eq220_0 := id q220_0.eq_1
def k220_0 : ACode :=
  .ops q220_0 .ret
@[simp] theorem xk220_0 : GoC fns Q s k220_0 st ↔ GoO fns Q s q220_0 .ret st := goC_ops
def k220_1 : ACode :=
  .ops [⟨.assign (.c (.int .i64 0)), (some 4), none⟩] k220_0
@[simp] theorem xk220_1 : GoC fns Q s k220_1 st ↔ GoO fns Q s [⟨.assign (.c (.int .i64 0)), (some 4), none⟩] k220_0 st := goC_ops
def af220 : AFunc := ⟨8, k220_1, [.tmp 4], fun _ _ => none⟩

theorem ok220 : ∃ hs, pFunc Tryz.prog sg hs Tryz.f220 = some af220 := ⟨fun i => 0, by kernel_rfl⟩
def q164_0 : List AOper :=
  [⟨.move .take (.p 6), (some 92), none⟩,
    ⟨.move .take (.p 7), (some 93), none⟩,
    ⟨.assign (.p 92), (some 4), none⟩,
    ⟨.assign (.p 93), (some 5), none⟩]
@[simp] def eq164_0 := id q164_0.eq_1
def q164_1 : List AOper :=
  [⟨.move .look (.p 6), (some 90), none⟩,
    ⟨.bin .lss 1 true (.p 90) (.c (.int .i32 0)), (some 91), none⟩]
@[simp] def eq164_1 := id q164_1.eq_1
def q164_2 : List AOper :=
  [⟨.move .look (.t 0), (some 16), none⟩,
    ⟨.call 54 [(.t 16, false)], (some 17), none⟩,
    ⟨.move .look (.t 17), (some 15), none⟩,
    ⟨.extract 15 0, (some 18), none⟩,
    ⟨.extract 15 1, (some 19), none⟩,
    ⟨.extract 15 2, (some 20), none⟩,
    ⟨.assign (.p 18), (some 6), none⟩,
    ⟨.assign (.p 20), (some 7), none⟩]
@[simp] def eq164_2 := id q164_2.eq_1
def q164_3 : List AOper :=
  [⟨.move .look (.p 6), (some 29), none⟩,
    ⟨.bin .add 1 true (.p 29) (.c (.int .i32 5)), (some 30), none⟩,
    ⟨.assign (.p 30), (some 6), none⟩]
@[simp] def eq164_3 := id q164_3.eq_1
def q164_4 : List AOper :=
  [⟨.move .look (.t 0), (some 24), none⟩,
    ⟨.call 54 [(.t 24, false)], (some 25), none⟩,
    ⟨.move .look (.t 25), (some 23), none⟩,
    ⟨.extract 23 0, (some 26), none⟩,
    ⟨.extract 23 1, (some 27), none⟩,
    ⟨.extract 23 2, (some 28), none⟩,
    ⟨.assign (.p 26), (some 6), none⟩,
    ⟨.assign (.p 28), (some 7), none⟩]
@[simp] def eq164_4 := id q164_4.eq_1
def q164_5 : List AOper :=
  [⟨.move .look (.p 6), (some 41), none⟩,
    ⟨.bin .add 1 true (.p 41) (.c (.int .i32 16)), (some 42), none⟩,
    ⟨.assign (.p 42), (some 6), none⟩]
@[simp] def eq164_5 := id q164_5.eq_1
def q164_6 : List AOper :=
  [⟨.move .look (.t 0), (some 36), none⟩,
    ⟨.call 54 [(.t 36, false)], (some 37), none⟩,
    ⟨.move .look (.t 37), (some 35), none⟩,
    ⟨.extract 35 0, (some 38), none⟩,
    ⟨.extract 35 1, (some 39), none⟩,
    ⟨.extract 35 2, (some 40), none⟩,
    ⟨.assign (.p 38), (some 6), none⟩,
    ⟨.assign (.p 40), (some 7), none⟩]
@[simp] def eq164_6 := id q164_6.eq_1
def q164_7 : List AOper :=
  [⟨.move .look (.p 6), (some 62), none⟩,
    ⟨.bin .add 1 true (.p 62) (.c (.int .i32 4)), (some 63), none⟩,
    ⟨.assign (.p 63), (some 6), none⟩]
@[simp] def eq164_7 := id q164_7.eq_1
def q164_8 : List AOper :=
  [⟨.move .look (.t 0), (some 57), none⟩,
    ⟨.call 54 [(.t 57, false)], (some 58), none⟩,
    ⟨.move .look (.t 58), (some 56), none⟩,
    ⟨.extract 56 0, (some 59), none⟩,
    ⟨.extract 56 1, (some 60), none⟩,
    ⟨.extract 56 2, (some 61), none⟩,
    ⟨.assign (.p 59), (some 6), none⟩,
    ⟨.assign (.p 61), (some 7), none⟩]
@[simp] def eq164_8 := id q164_8.eq_1
def q164_9 : List AOper :=
  [⟨.move .look (.p 8), (some 84), none⟩,
    ⟨.bin .add 1 true (.p 84) (.c (.int .i64 1)), (some 85), none⟩,
    ⟨.move .look (.p 9), (some 86), none⟩,
    ⟨.bin .add 1 false (.p 85) (.p 86), (some 87), none⟩,
    ⟨.bin .add 1 true (.p 87) (.c (.int .i64 1)), (some 88), none⟩,
    ⟨.convInt .i32 (.p 88), (some 89), none⟩,
    ⟨.assign (.p 89), (some 6), none⟩]
@[simp] def eq164_9 := id q164_9.eq_1
def q164_10 : List AOper :=
  [⟨.move .look (.p 9), (some 82), none⟩,
    ⟨.bin .lss 1 true (.p 82) (.c (.int .i64 0)), (some 83), none⟩]
@[simp] def eq164_10 := id q164_10.eq_1
def q164_11 : List AOper :=
  [⟨.move .look (.t 0), (some 77), none⟩,
    ⟨.move .look (.p 8), (some 78), none⟩,
    ⟨.bin .add 1 true (.p 78) (.c (.int .i64 1)), (some 79), none⟩,
    ⟨.sliceSl 1 (.t 77) (some (.p 79)) none, (some 80), none⟩,
    ⟨.call 220 [(.t 80, false), (.c (.int .u8 0), false)], (some 81), none⟩,
    ⟨.assign (.p 81), (some 9), none⟩]
@[simp] def eq164_11 := id q164_11.eq_1
def q164_12 : List AOper :=
  [⟨.move .look (.p 8), (some 75), none⟩,
    ⟨.bin .lss 1 true (.p 75) (.c (.int .i64 0)), (some 76), none⟩]
@[simp] def eq164_12 := id q164_12.eq_1
def q164_13 : List AOper :=
  [⟨.move .look (.t 0), (some 73), none⟩,
    ⟨.call 220 [(.t 73, false), (.c (.int .u8 0), false)], (some 74), none⟩,
    ⟨.assign (.p 74), (some 8), none⟩]
@[simp] def eq164_13 := id q164_13.eq_1
def q164_14 : List AOper :=
  [⟨.bin .eql 1 true (.p 10) (.c (.int .u8 11)), (some 72), none⟩,
    ⟨.assign (.p 72), (some 71), none⟩]
@[simp] def eq164_14 := id q164_14.eq_1
def q164_15 : List AOper :=
  [⟨.bin .eql 1 true (.p 10) (.c (.int .u8 7)), (some 70), none⟩,
    ⟨.assign (.p 70), (some 69), none⟩]
@[simp] def eq164_15 := id q164_15.eq_1
def q164_16 : List AOper :=
  [⟨.bin .eql 1 true (.p 10) (.c (.int .u8 6)), (some 68), none⟩,
    ⟨.assign (.p 68), (some 64), none⟩]
@[simp] def eq164_16 := id q164_16.eq_1
def q164_17 : List AOper :=
  [⟨.bin .eql 1 true (.p 10) (.c (.int .u8 10)), (some 67), none⟩,
    ⟨.assign (.p 67), (some 64), none⟩]
@[simp] def eq164_17 := id q164_17.eq_1
def q164_18 : List AOper :=
  [⟨.bin .eql 1 true (.p 10) (.c (.int .u8 255)), (some 66), none⟩,
    ⟨.assign (.p 66), (some 64), none⟩]
@[simp] def eq164_18 := id q164_18.eq_1
def q164_19 : List AOper :=
  [⟨.bin .eql 1 true (.p 10) (.c (.int .u8 127)), (some 65), none⟩,
    ⟨.assign (.p 65), (some 64), none⟩]
@[simp] def eq164_19 := id q164_19.eq_1
def q164_20 : List AOper :=
  [⟨.bin .eql 1 true (.p 10) (.c (.int .u8 14)), (some 55), none⟩,
    ⟨.assign (.p 55), (some 52), none⟩]
@[simp] def eq164_20 := id q164_20.eq_1
def q164_21 : List AOper :=
  [⟨.bin .eql 1 true (.p 10) (.c (.int .u8 2)), (some 54), none⟩,
    ⟨.assign (.p 54), (some 52), none⟩]
@[simp] def eq164_21 := id q164_21.eq_1
def q164_22 : List AOper :=
  [⟨.bin .eql 1 true (.p 10) (.c (.int .u8 13)), (some 53), none⟩,
    ⟨.assign (.p 53), (some 52), none⟩]
@[simp] def eq164_22 := id q164_22.eq_1
def q164_23 : List AOper :=
  [⟨.bin .eql 1 true (.p 10) (.c (.int .u8 16)), (some 51), none⟩,
    ⟨.assign (.p 51), (some 50), none⟩]
@[simp] def eq164_23 := id q164_23.eq_1
def q164_24 : List AOper :=
  [⟨.bin .eql 1 true (.p 10) (.c (.int .u8 19)), (some 49), none⟩,
    ⟨.assign (.p 49), (some 48), none⟩]
@[simp] def eq164_24 := id q164_24.eq_1
def q164_25 : List AOper :=
  [⟨.bin .eql 1 true (.p 10) (.c (.int .u8 17)), (some 47), none⟩,
    ⟨.assign (.p 47), (some 43), none⟩]
@[simp] def eq164_25 := id q164_25.eq_1
def q164_26 : List AOper :=
  [⟨.bin .eql 1 true (.p 10) (.c (.int .u8 18)), (some 46), none⟩,
    ⟨.assign (.p 46), (some 43), none⟩]
@[simp] def eq164_26 := id q164_26.eq_1
def q164_27 : List AOper :=
  [⟨.bin .eql 1 true (.p 10) (.c (.int .u8 1)), (some 45), none⟩,
    ⟨.assign (.p 45), (some 43), none⟩]
@[simp] def eq164_27 := id q164_27.eq_1
def q164_28 : List AOper :=
  [⟨.bin .eql 1 true (.p 10) (.c (.int .u8 9)), (some 44), none⟩,
    ⟨.assign (.p 44), (some 43), none⟩]
@[simp] def eq164_28 := id q164_28.eq_1
def q164_29 : List AOper :=
  [⟨.bin .eql 1 true (.p 10) (.c (.int .u8 12)), (some 34), none⟩,
    ⟨.assign (.p 34), (some 33), none⟩]
@[simp] def eq164_29 := id q164_29.eq_1
def q164_30 : List AOper :=
  [⟨.bin .eql 1 true (.p 10) (.c (.int .u8 8)), (some 32), none⟩,
    ⟨.assign (.p 32), (some 31), none⟩]
@[simp] def eq164_30 := id q164_30.eq_1
def q164_31 : List AOper :=
  [⟨.bin .eql 1 true (.p 10) (.c (.int .u8 5)), (some 22), none⟩,
    ⟨.assign (.p 22), (some 21), none⟩]
@[simp] def eq164_31 := id q164_31.eq_1
def q164_32 : List AOper :=
  [⟨.bin .eql 1 true (.p 10) (.c (.int .u8 15)), (some 14), none⟩,
    ⟨.assign (.p 14), (some 11), none⟩]
@[simp] def eq164_32 := id q164_32.eq_1
def q164_33 : List AOper :=
  [⟨.bin .eql 1 true (.p 10) (.c (.int .u8 3)), (some 13), none⟩,
    ⟨.assign (.p 13), (some 11), none⟩]
@[simp] def eq164_33 := id q164_33.eq_1
def q164_34 : List AOper :=
  [⟨.bin .eql 1 true (.p 10) (.c (.int .u8 4)), (some 12), none⟩,
    ⟨.assign (.p 12), (some 11), none⟩]
@[simp] def eq164_34 := id q164_34.eq_1
def q164_35 : List AOper :=
  [⟨.assign (.c (.int .i32 0)), (some 4), none⟩,
    ⟨.assign (.c (.bool false)), (some 5), none⟩]
@[simp] def eq164_35 := id q164_35.eq_1
def k164_0 : ACode :=
  .ops q164_0 .ret
@[simp] theorem xk164_0 : GoC fns Q s k164_0 st ↔ GoO fns Q s q164_0 .ret st := goC_ops
def k164_1 : ACode :=
  .ops [⟨.assign (.c (.bool false)), (some 7), none⟩] .skip
@[simp] theorem xk164_1 : GoC fns Q s k164_1 st ↔ GoO fns Q s [⟨.assign (.c (.bool false)), (some 7), none⟩] .skip st := goC_ops
def k164_2 : ACode :=
  .cond (.p 91) k164_1 .skip
@[simp] theorem xk164_2 : GoC fns Q s k164_2 st ↔ GB fns Q s (peek st (.p 91)) k164_1 .skip st := goC_cond
def k164_3 : ACode :=
  .seq k164_2 k164_0
@[simp] theorem xk164_3 : GoC fns Q s k164_3 st ↔ GoC fns Q (.sq k164_0 :: s) k164_2 st := goC_seq
def k164_4 : ACode :=
  .ops q164_1 k164_3
@[simp] theorem xk164_4 : GoC fns Q s k164_4 st ↔ GoO fns Q s q164_1 k164_3 st := goC_ops
def k164_5 : ACode :=
  .ops q164_2 .skip
@[simp] theorem xk164_5 : GoC fns Q s k164_5 st ↔ GoO fns Q s q164_2 .skip st := goC_ops
def k164_6 : ACode :=
  .ops q164_3 .skip
@[simp] theorem xk164_6 : GoC fns Q s k164_6 st ↔ GoO fns Q s q164_3 .skip st := goC_ops
def k164_7 : ACode :=
  .ops q164_4 k164_6
@[simp] theorem xk164_7 : GoC fns Q s k164_7 st ↔ GoO fns Q s q164_4 k164_6 st := goC_ops
def k164_8 : ACode :=
  .ops [⟨.assign (.c (.int .i32 1)), (some 6), none⟩] .skip
@[simp] theorem xk164_8 : GoC fns Q s k164_8 st ↔ GoO fns Q s [⟨.assign (.c (.int .i32 1)), (some 6), none⟩] .skip st := goC_ops
def k164_9 : ACode :=
  .ops q164_5 .skip
@[simp] theorem xk164_9 : GoC fns Q s k164_9 st ↔ GoO fns Q s q164_5 .skip st := goC_ops
def k164_10 : ACode :=
  .ops q164_6 k164_9
@[simp] theorem xk164_10 : GoC fns Q s k164_10 st ↔ GoO fns Q s q164_6 k164_9 st := goC_ops
def k164_11 : ACode :=
  .ops [⟨.assign (.c (.int .i32 8)), (some 6), none⟩] .skip
@[simp] theorem xk164_11 : GoC fns Q s k164_11 st ↔ GoO fns Q s [⟨.assign (.c (.int .i32 8)), (some 6), none⟩] .skip st := goC_ops
def k164_12 : ACode :=
  .ops [⟨.assign (.c (.int .i32 16)), (some 6), none⟩] .skip
@[simp] theorem xk164_12 : GoC fns Q s k164_12 st ↔ GoO fns Q s [⟨.assign (.c (.int .i32 16)), (some 6), none⟩] .skip st := goC_ops
def k164_13 : ACode :=
  .ops [⟨.assign (.c (.int .i32 4)), (some 6), none⟩] .skip
@[simp] theorem xk164_13 : GoC fns Q s k164_13 st ↔ GoO fns Q s [⟨.assign (.c (.int .i32 4)), (some 6), none⟩] .skip st := goC_ops
def k164_14 : ACode :=
  .ops q164_7 .skip
@[simp] theorem xk164_14 : GoC fns Q s k164_14 st ↔ GoO fns Q s q164_7 .skip st := goC_ops
def k164_15 : ACode :=
  .ops q164_8 k164_14
@[simp] theorem xk164_15 : GoC fns Q s k164_15 st ↔ GoO fns Q s q164_8 k164_14 st := goC_ops
def k164_16 : ACode :=
  .ops [⟨.assign (.c (.int .i32 0)), (some 6), none⟩] .skip
@[simp] theorem xk164_16 : GoC fns Q s k164_16 st ↔ GoO fns Q s [⟨.assign (.c (.int .i32 0)), (some 6), none⟩] .skip st := goC_ops
def k164_17 : ACode :=
  .ops [⟨.assign (.c (.int .i32 12)), (some 6), none⟩] .skip
@[simp] theorem xk164_17 : GoC fns Q s k164_17 st ↔ GoO fns Q s [⟨.assign (.c (.int .i32 12)), (some 6), none⟩] .skip st := goC_ops
def k164_18 : ACode :=
  .ops q164_9 .skip
@[simp] theorem xk164_18 : GoC fns Q s k164_18 st ↔ GoO fns Q s q164_9 .skip st := goC_ops
def k164_19 : ACode :=
  .ops [⟨.assign (.c (.bool false)), (some 7), none⟩] (.exit 0)
@[simp] theorem xk164_19 : GoC fns Q s k164_19 st ↔ GoO fns Q s [⟨.assign (.c (.bool false)), (some 7), none⟩] (.exit 0) st := goC_ops
def k164_20 : ACode :=
  .cond (.p 83) k164_19 .skip
@[simp] theorem xk164_20 : GoC fns Q s k164_20 st ↔ GB fns Q s (peek st (.p 83)) k164_19 .skip st := goC_cond
def k164_21 : ACode :=
  .seq k164_20 k164_18
@[simp] theorem xk164_21 : GoC fns Q s k164_21 st ↔ GoC fns Q (.sq k164_18 :: s) k164_20 st := goC_seq
def k164_22 : ACode :=
  .ops q164_10 k164_21
@[simp] theorem xk164_22 : GoC fns Q s k164_22 st ↔ GoO fns Q s q164_10 k164_21 st := goC_ops
def k164_23 : ACode :=
  .ops q164_11 k164_22
@[simp] theorem xk164_23 : GoC fns Q s k164_23 st ↔ GoO fns Q s q164_11 k164_22 st := goC_ops
def k164_24 : ACode :=
  .ops [⟨.assign (.c (.bool false)), (some 7), none⟩] (.exit 0)
@[simp] theorem xk164_24 : GoC fns Q s k164_24 st ↔ GoO fns Q s [⟨.assign (.c (.bool false)), (some 7), none⟩] (.exit 0) st := goC_ops
def k164_25 : ACode :=
  .cond (.p 76) k164_24 .skip
@[simp] theorem xk164_25 : GoC fns Q s k164_25 st ↔ GB fns Q s (peek st (.p 76)) k164_24 .skip st := goC_cond
def k164_26 : ACode :=
  .seq k164_25 k164_23
@[simp] theorem xk164_26 : GoC fns Q s k164_26 st ↔ GoC fns Q (.sq k164_23 :: s) k164_25 st := goC_seq
def k164_27 : ACode :=
  .ops q164_12 k164_26
@[simp] theorem xk164_27 : GoC fns Q s k164_27 st ↔ GoO fns Q s q164_12 k164_26 st := goC_ops
def k164_28 : ACode :=
  .ops q164_13 k164_27
@[simp] theorem xk164_28 : GoC fns Q s k164_28 st ↔ GoO fns Q s q164_13 k164_27 st := goC_ops
def k164_29 : ACode :=
  .ops [⟨.assign (.c (.bool false)), (some 7), none⟩] .skip
@[simp] theorem xk164_29 : GoC fns Q s k164_29 st ↔ GoO fns Q s [⟨.assign (.c (.bool false)), (some 7), none⟩] .skip st := goC_ops
def k164_30 : ACode :=
  .cond (.p 71) k164_28 k164_29
@[simp] theorem xk164_30 : GoC fns Q s k164_30 st ↔ GB fns Q s (peek st (.p 71)) k164_28 k164_29 st := goC_cond
def k164_31 : ACode :=
  .ops q164_14 k164_30
@[simp] theorem xk164_31 : GoC fns Q s k164_31 st ↔ GoO fns Q s q164_14 k164_30 st := goC_ops
def k164_32 : ACode :=
  .cond (.p 69) k164_17 k164_31
@[simp] theorem xk164_32 : GoC fns Q s k164_32 st ↔ GB fns Q s (peek st (.p 69)) k164_17 k164_31 st := goC_cond
def k164_33 : ACode :=
  .ops q164_15 k164_32
@[simp] theorem xk164_33 : GoC fns Q s k164_33 st ↔ GoO fns Q s q164_15 k164_32 st := goC_ops
def k164_34 : ACode :=
  .cond (.p 64) k164_16 k164_33
@[simp] theorem xk164_34 : GoC fns Q s k164_34 st ↔ GB fns Q s (peek st (.p 64)) k164_16 k164_33 st := goC_cond
def k164_35 : ACode :=
  .ops q164_16 .skip
@[simp] theorem xk164_35 : GoC fns Q s k164_35 st ↔ GoO fns Q s q164_16 .skip st := goC_ops
def k164_36 : ACode :=
  .cond (.p 64) .skip k164_35
@[simp] theorem xk164_36 : GoC fns Q s k164_36 st ↔ GB fns Q s (peek st (.p 64)) .skip k164_35 st := goC_cond
def k164_37 : ACode :=
  .ops q164_17 k164_36
@[simp] theorem xk164_37 : GoC fns Q s k164_37 st ↔ GoO fns Q s q164_17 k164_36 st := goC_ops
def k164_38 : ACode :=
  .cond (.p 64) .skip k164_37
@[simp] theorem xk164_38 : GoC fns Q s k164_38 st ↔ GB fns Q s (peek st (.p 64)) .skip k164_37 st := goC_cond
def k164_39 : ACode :=
  .ops q164_18 k164_38
@[simp] theorem xk164_39 : GoC fns Q s k164_39 st ↔ GoO fns Q s q164_18 k164_38 st := goC_ops
def k164_40 : ACode :=
  .cond (.p 64) .skip k164_39
@[simp] theorem xk164_40 : GoC fns Q s k164_40 st ↔ GB fns Q s (peek st (.p 64)) .skip k164_39 st := goC_cond
def k164_41 : ACode :=
  .seq k164_40 k164_34
@[simp] theorem xk164_41 : GoC fns Q s k164_41 st ↔ GoC fns Q (.sq k164_34 :: s) k164_40 st := goC_seq
def k164_42 : ACode :=
  .ops q164_19 k164_41
@[simp] theorem xk164_42 : GoC fns Q s k164_42 st ↔ GoO fns Q s q164_19 k164_41 st := goC_ops
def k164_43 : ACode :=
  .cond (.p 52) k164_15 k164_42
@[simp] theorem xk164_43 : GoC fns Q s k164_43 st ↔ GB fns Q s (peek st (.p 52)) k164_15 k164_42 st := goC_cond
def k164_44 : ACode :=
  .ops q164_20 .skip
@[simp] theorem xk164_44 : GoC fns Q s k164_44 st ↔ GoO fns Q s q164_20 .skip st := goC_ops
def k164_45 : ACode :=
  .cond (.p 52) .skip k164_44
@[simp] theorem xk164_45 : GoC fns Q s k164_45 st ↔ GB fns Q s (peek st (.p 52)) .skip k164_44 st := goC_cond
def k164_46 : ACode :=
  .ops q164_21 k164_45
@[simp] theorem xk164_46 : GoC fns Q s k164_46 st ↔ GoO fns Q s q164_21 k164_45 st := goC_ops
def k164_47 : ACode :=
  .cond (.p 52) .skip k164_46
@[simp] theorem xk164_47 : GoC fns Q s k164_47 st ↔ GB fns Q s (peek st (.p 52)) .skip k164_46 st := goC_cond
def k164_48 : ACode :=
  .seq k164_47 k164_43
@[simp] theorem xk164_48 : GoC fns Q s k164_48 st ↔ GoC fns Q (.sq k164_43 :: s) k164_47 st := goC_seq
def k164_49 : ACode :=
  .ops q164_22 k164_48
@[simp] theorem xk164_49 : GoC fns Q s k164_49 st ↔ GoO fns Q s q164_22 k164_48 st := goC_ops
def k164_50 : ACode :=
  .cond (.p 50) k164_13 k164_49
@[simp] theorem xk164_50 : GoC fns Q s k164_50 st ↔ GB fns Q s (peek st (.p 50)) k164_13 k164_49 st := goC_cond
def k164_51 : ACode :=
  .ops q164_23 k164_50
@[simp] theorem xk164_51 : GoC fns Q s k164_51 st ↔ GoO fns Q s q164_23 k164_50 st := goC_ops
def k164_52 : ACode :=
  .cond (.p 48) k164_12 k164_51
@[simp] theorem xk164_52 : GoC fns Q s k164_52 st ↔ GB fns Q s (peek st (.p 48)) k164_12 k164_51 st := goC_cond
def k164_53 : ACode :=
  .ops q164_24 k164_52
@[simp] theorem xk164_53 : GoC fns Q s k164_53 st ↔ GoO fns Q s q164_24 k164_52 st := goC_ops
def k164_54 : ACode :=
  .cond (.p 43) k164_11 k164_53
@[simp] theorem xk164_54 : GoC fns Q s k164_54 st ↔ GB fns Q s (peek st (.p 43)) k164_11 k164_53 st := goC_cond
def k164_55 : ACode :=
  .ops q164_25 .skip
@[simp] theorem xk164_55 : GoC fns Q s k164_55 st ↔ GoO fns Q s q164_25 .skip st := goC_ops
def k164_56 : ACode :=
  .cond (.p 43) .skip k164_55
@[simp] theorem xk164_56 : GoC fns Q s k164_56 st ↔ GB fns Q s (peek st (.p 43)) .skip k164_55 st := goC_cond
def k164_57 : ACode :=
  .ops q164_26 k164_56
@[simp] theorem xk164_57 : GoC fns Q s k164_57 st ↔ GoO fns Q s q164_26 k164_56 st := goC_ops
def k164_58 : ACode :=
  .cond (.p 43) .skip k164_57
@[simp] theorem xk164_58 : GoC fns Q s k164_58 st ↔ GB fns Q s (peek st (.p 43)) .skip k164_57 st := goC_cond
def k164_59 : ACode :=
  .ops q164_27 k164_58
@[simp] theorem xk164_59 : GoC fns Q s k164_59 st ↔ GoO fns Q s q164_27 k164_58 st := goC_ops
def k164_60 : ACode :=
  .cond (.p 43) .skip k164_59
@[simp] theorem xk164_60 : GoC fns Q s k164_60 st ↔ GB fns Q s (peek st (.p 43)) .skip k164_59 st := goC_cond
def k164_61 : ACode :=
  .seq k164_60 k164_54
@[simp] theorem xk164_61 : GoC fns Q s k164_61 st ↔ GoC fns Q (.sq k164_54 :: s) k164_60 st := goC_seq
def k164_62 : ACode :=
  .ops q164_28 k164_61
@[simp] theorem xk164_62 : GoC fns Q s k164_62 st ↔ GoO fns Q s q164_28 k164_61 st := goC_ops
def k164_63 : ACode :=
  .cond (.p 33) k164_10 k164_62
@[simp] theorem xk164_63 : GoC fns Q s k164_63 st ↔ GB fns Q s (peek st (.p 33)) k164_10 k164_62 st := goC_cond
def k164_64 : ACode :=
  .ops q164_29 k164_63
@[simp] theorem xk164_64 : GoC fns Q s k164_64 st ↔ GoO fns Q s q164_29 k164_63 st := goC_ops
def k164_65 : ACode :=
  .cond (.p 31) k164_8 k164_64
@[simp] theorem xk164_65 : GoC fns Q s k164_65 st ↔ GB fns Q s (peek st (.p 31)) k164_8 k164_64 st := goC_cond
def k164_66 : ACode :=
  .ops q164_30 k164_65
@[simp] theorem xk164_66 : GoC fns Q s k164_66 st ↔ GoO fns Q s q164_30 k164_65 st := goC_ops
def k164_67 : ACode :=
  .cond (.p 21) k164_7 k164_66
@[simp] theorem xk164_67 : GoC fns Q s k164_67 st ↔ GB fns Q s (peek st (.p 21)) k164_7 k164_66 st := goC_cond
def k164_68 : ACode :=
  .ops q164_31 k164_67
@[simp] theorem xk164_68 : GoC fns Q s k164_68 st ↔ GoO fns Q s q164_31 k164_67 st := goC_ops
def k164_69 : ACode :=
  .cond (.p 11) k164_5 k164_68
@[simp] theorem xk164_69 : GoC fns Q s k164_69 st ↔ GB fns Q s (peek st (.p 11)) k164_5 k164_68 st := goC_cond
def k164_70 : ACode :=
  .ops q164_32 .skip
@[simp] theorem xk164_70 : GoC fns Q s k164_70 st ↔ GoO fns Q s q164_32 .skip st := goC_ops
def k164_71 : ACode :=
  .cond (.p 11) .skip k164_70
@[simp] theorem xk164_71 : GoC fns Q s k164_71 st ↔ GB fns Q s (peek st (.p 11)) .skip k164_70 st := goC_cond
def k164_72 : ACode :=
  .ops q164_33 k164_71
@[simp] theorem xk164_72 : GoC fns Q s k164_72 st ↔ GoO fns Q s q164_33 k164_71 st := goC_ops
def k164_73 : ACode :=
  .cond (.p 11) .skip k164_72
@[simp] theorem xk164_73 : GoC fns Q s k164_73 st ↔ GB fns Q s (peek st (.p 11)) .skip k164_72 st := goC_cond
def k164_74 : ACode :=
  .seq k164_73 k164_69
@[simp] theorem xk164_74 : GoC fns Q s k164_74 st ↔ GoC fns Q (.sq k164_69 :: s) k164_73 st := goC_seq
def k164_75 : ACode :=
  .ops q164_34 k164_74
@[simp] theorem xk164_75 : GoC fns Q s k164_75 st ↔ GoO fns Q s q164_34 k164_74 st := goC_ops
def k164_76 : ACode :=
  .block 0 k164_75
@[simp] theorem xk164_76 : GoC fns Q s k164_76 st ↔ GoC fns Q (.bl 0 :: s) k164_75 st := goC_block
def k164_77 : ACode :=
  .seq k164_76 k164_4
@[simp] theorem xk164_77 : GoC fns Q s k164_77 st ↔ GoC fns Q (.sq k164_4 :: s) k164_76 st := goC_seq
def k164_78 : ACode :=
  .ops [⟨.move .head (.p 1), (some 10), none⟩] k164_77
@[simp] theorem xk164_78 : GoC fns Q s k164_78 st ↔ GoO fns Q s [⟨.move .head (.p 1), (some 10), none⟩] k164_77 st := goC_ops
def k164_79 : ACode :=
  .ops [⟨.assign (.c (.bool true)), (some 7), none⟩] k164_78
@[simp] theorem xk164_79 : GoC fns Q s k164_79 st ↔ GoO fns Q s [⟨.assign (.c (.bool true)), (some 7), none⟩] k164_78 st := goC_ops
def k164_80 : ACode :=
  .ops [⟨.assign (.c (.int .i32 0)), (some 6), none⟩] k164_79
@[simp] theorem xk164_80 : GoC fns Q s k164_80 st ↔ GoO fns Q s [⟨.assign (.c (.int .i32 0)), (some 6), none⟩] k164_79 st := goC_ops
def k164_81 : ACode :=
  .ops q164_35 k164_80
@[simp] theorem xk164_81 : GoC fns Q s k164_81 st ↔ GoO fns Q s q164_35 k164_80 st := goC_ops
def af164 : AFunc := ⟨94, k164_81, [.tmp 4, .tmp 5], fun _ _ => none⟩

theorem ok164 : ∃ hs, pFunc Tryz.prog sg hs Tryz.f164 = some af164 := ⟨fun i => 0, by kernel_rfl⟩
def q64_0 : List AOper :=
  [⟨.move .look (.t 0), (some 57), none⟩,
    ⟨.move .head (.p 9), (some 58), none⟩,
    ⟨.sliceSl 1 (.t 57) none (some (.p 58)), (some 59), none⟩,
    ⟨.move .look (.t 0), (some 60), none⟩,
    ⟨.move .head (.p 9), (some 61), none⟩,
    ⟨.sliceSl 1 (.t 60) (some (.p 61)) none, (some 62), none⟩,
    ⟨.assign (.t 59), (some 2), none⟩,
    ⟨.assign (.t 62), (some 3), none⟩,
    ⟨.assign (.c (.bool true)), (some 4), none⟩]
@[simp] def eq64_0 := id q64_0.eq_1
def q64_1 : List AOper :=
  [⟨.move .take (.t 0), (some 56), none⟩,
    ⟨.assign (.c (.slice .nil 0 1 [])), (some 2), none⟩,
    ⟨.assign (.t 56), (some 3), none⟩,
    ⟨.assign (.c (.bool false)), (some 4), none⟩]
@[simp] def eq64_1 := id q64_1.eq_1
def q64_2 : List AOper :=
  [⟨.move .look (.p 9), (some 52), none⟩,
    ⟨.move .head (.t 0), (some 53), none⟩,
    ⟨.len false (.p 53), (some 54), none⟩,
    ⟨.bin .gtr 1 false (.p 52) (.p 54), (some 55), none⟩]
@[simp] def eq64_2 := id q64_2.eq_1
def q64_3 : List AOper :=
  [⟨.move .look (.p 6), (some 48), none⟩,
    ⟨.move .look (.p 7), (some 49), none⟩,
    ⟨.convInt .i64 (.p 49), (some 50), none⟩,
    ⟨.bin .add 1 false (.p 48) (.p 50), (some 51), none⟩,
    ⟨.assign (.p 51), (some 9), none⟩]
@[simp] def eq64_3 := id q64_3.eq_1
def q64_4 : List AOper :=
  [⟨.move .take (.t 0), (some 47), none⟩,
    ⟨.assign (.c (.slice .nil 0 1 [])), (some 2), none⟩,
    ⟨.assign (.t 47), (some 3), none⟩,
    ⟨.assign (.c (.bool false)), (some 4), none⟩]
@[simp] def eq64_4 := id q64_4.eq_1
def q64_5 : List AOper :=
  [⟨.move .look (.p 8), (some 45), none⟩,
    ⟨.un .not (.p 45), (some 46), none⟩]
@[simp] def eq64_5 := id q64_5.eq_1
def q64_6 : List AOper :=
  [⟨.move .look (.t 0), (some 38), none⟩,
    ⟨.move .head (.p 6), (some 39), none⟩,
    ⟨.sliceSl 1 (.t 38) (some (.p 39)) none, (some 40), none⟩,
    ⟨.move .look (.p 5), (some 41), none⟩,
    ⟨.call 164 [(.t 40, false), (.p 41, false)], (some 42), none⟩,
    ⟨.move .look (.t 42), (some 37), none⟩,
    ⟨.extract 37 0, (some 43), none⟩,
    ⟨.extract 37 1, (some 44), none⟩,
    ⟨.assign (.p 43), (some 7), none⟩,
    ⟨.assign (.p 44), (some 8), none⟩]
@[simp] def eq64_6 := id q64_6.eq_1
def q64_7 : List AOper :=
  [⟨.move .look (.p 6), (some 35), none⟩,
    ⟨.bin .add 1 true (.p 35) (.c (.int .i64 1)), (some 36), none⟩,
    ⟨.assign (.p 36), (some 6), none⟩]
@[simp] def eq64_7 := id q64_7.eq_1
def q64_8 : List AOper :=
  [⟨.move .take (.t 0), (some 34), none⟩,
    ⟨.assign (.c (.slice .nil 0 1 [])), (some 2), none⟩,
    ⟨.assign (.t 34), (some 3), none⟩,
    ⟨.assign (.c (.bool false)), (some 4), none⟩]
@[simp] def eq64_8 := id q64_8.eq_1
def q64_9 : List AOper :=
  [⟨.move .look (.p 6), (some 30), none⟩,
    ⟨.move .head (.t 0), (some 31), none⟩,
    ⟨.len false (.p 31), (some 32), none⟩,
    ⟨.bin .geq 1 false (.p 30) (.p 32), (some 33), none⟩]
@[simp] def eq64_9 := id q64_9.eq_1
def q64_10 : List AOper :=
  [⟨.move .look (.p 6), (some 28), none⟩,
    ⟨.bin .add 1 true (.p 28) (.c (.int .i64 1)), (some 29), none⟩,
    ⟨.assign (.p 29), (some 6), none⟩]
@[simp] def eq64_10 := id q64_10.eq_1
def q64_11 : List AOper :=
  [⟨.move .look (.p 6), (some 17), none⟩,
    ⟨.move .head (.t 0), (some 18), none⟩,
    ⟨.len false (.p 18), (some 19), none⟩,
    ⟨.bin .lss 1 false (.p 17) (.p 19), (some 20), none⟩,
    ⟨.move .look (.p 20), (some 21), none⟩,
    ⟨.move .look (.t 0), (some 22), (some (21, true))⟩,
    ⟨.move .look (.p 6), (some 23), (some (21, true))⟩,
    ⟨.indexAddr 1 (.t 22) (.p 23), (some 24), (some (21, true))⟩,
    ⟨.load .head false 1 (.p 24), (some 25), (some (21, true))⟩,
    ⟨.bin .neq 1 true (.p 25) (.c (.int .u8 0)), (some 26), (some (21, true))⟩,
    ⟨.pick (.p 21) (.p 26) (.c (.bool false)), (some 27), none⟩]
@[simp] def eq64_11 := id q64_11.eq_1
def q64_12 : List AOper :=
  [⟨.move .look (.t 0), (some 14), none⟩,
    ⟨.indexAddr 1 (.t 14) (.c (.int .i64 0)), (some 15), none⟩,
    ⟨.load .take false 1 (.p 15), (some 16), none⟩,
    ⟨.assign (.p 16), (some 5), none⟩]
@[simp] def eq64_12 := id q64_12.eq_1
def q64_13 : List AOper :=
  [⟨.move .take (.t 0), (some 13), none⟩,
    ⟨.assign (.c (.slice .nil 0 1 [])), (some 2), none⟩,
    ⟨.assign (.t 13), (some 3), none⟩,
    ⟨.assign (.c (.bool false)), (some 4), none⟩]
@[simp] def eq64_13 := id q64_13.eq_1
def q64_14 : List AOper :=
  [⟨.move .head (.t 0), (some 10), none⟩,
    ⟨.len false (.p 10), (some 11), none⟩,
    ⟨.bin .lss 1 true (.p 11) (.c (.int .i64 1)), (some 12), none⟩]
@[simp] def eq64_14 := id q64_14.eq_1
def q64_15 : List AOper :=
  [⟨.assign (.c (.slice .nil 0 1 [])), (some 2), none⟩,
    ⟨.assign (.c (.slice .nil 0 1 [])), (some 3), none⟩,
    ⟨.assign (.c (.bool false)), (some 4), none⟩]
@[simp] def eq64_15 := id q64_15.eq_1
def k64_0 : ACode :=
  .ops q64_0 .ret
@[simp] theorem xk64_0 : GoC fns Q s k64_0 st ↔ GoO fns Q s q64_0 .ret st := goC_ops
def k64_1 : ACode :=
  .ops q64_1 .ret
@[simp] theorem xk64_1 : GoC fns Q s k64_1 st ↔ GoO fns Q s q64_1 .ret st := goC_ops
def k64_2 : ACode :=
  .cond (.p 55) k64_1 .skip
@[simp] theorem xk64_2 : GoC fns Q s k64_2 st ↔ GB fns Q s (peek st (.p 55)) k64_1 .skip st := goC_cond
def k64_3 : ACode :=
  .seq k64_2 k64_0
@[simp] theorem xk64_3 : GoC fns Q s k64_3 st ↔ GoC fns Q (.sq k64_0 :: s) k64_2 st := goC_seq
def k64_4 : ACode :=
  .ops q64_2 k64_3
@[simp] theorem xk64_4 : GoC fns Q s k64_4 st ↔ GoO fns Q s q64_2 k64_3 st := goC_ops
def k64_5 : ACode :=
  .ops q64_3 k64_4
@[simp] theorem xk64_5 : GoC fns Q s k64_5 st ↔ GoO fns Q s q64_3 k64_4 st := goC_ops
def k64_6 : ACode :=
  .ops q64_4 .ret
@[simp] theorem xk64_6 : GoC fns Q s k64_6 st ↔ GoO fns Q s q64_4 .ret st := goC_ops
def k64_7 : ACode :=
  .cond (.p 46) k64_6 .skip
@[simp] theorem xk64_7 : GoC fns Q s k64_7 st ↔ GB fns Q s (peek st (.p 46)) k64_6 .skip st := goC_cond
def k64_8 : ACode :=
  .seq k64_7 k64_5
@[simp] theorem xk64_8 : GoC fns Q s k64_8 st ↔ GoC fns Q (.sq k64_5 :: s) k64_7 st := goC_seq
def k64_9 : ACode :=
  .ops q64_5 k64_8
@[simp] theorem xk64_9 : GoC fns Q s k64_9 st ↔ GoO fns Q s q64_5 k64_8 st := goC_ops
def k64_10 : ACode :=
  .ops q64_6 k64_9
@[simp] theorem xk64_10 : GoC fns Q s k64_10 st ↔ GoO fns Q s q64_6 k64_9 st := goC_ops
def k64_11 : ACode :=
  .ops q64_7 k64_10
@[simp] theorem xk64_11 : GoC fns Q s k64_11 st ↔ GoO fns Q s q64_7 k64_10 st := goC_ops
def k64_12 : ACode :=
  .ops q64_8 .ret
@[simp] theorem xk64_12 : GoC fns Q s k64_12 st ↔ GoO fns Q s q64_8 .ret st := goC_ops
def k64_13 : ACode :=
  .cond (.p 33) k64_12 .skip
@[simp] theorem xk64_13 : GoC fns Q s k64_13 st ↔ GB fns Q s (peek st (.p 33)) k64_12 .skip st := goC_cond
def k64_14 : ACode :=
  .seq k64_13 k64_11
@[simp] theorem xk64_14 : GoC fns Q s k64_14 st ↔ GoC fns Q (.sq k64_11 :: s) k64_13 st := goC_seq
def k64_15 : ACode :=
  .ops q64_9 k64_14
@[simp] theorem xk64_15 : GoC fns Q s k64_15 st ↔ GoO fns Q s q64_9 k64_14 st := goC_ops
def k64_16 : ACode :=
  .ops q64_10 .skip
@[simp] theorem xk64_16 : GoC fns Q s k64_16 st ↔ GoO fns Q s q64_10 .skip st := goC_ops
def k64_17 : ACode :=
  .block 1 k64_16
@[simp] theorem xk64_17 : GoC fns Q s k64_17 st ↔ GoC fns Q (.bl 1 :: s) k64_16 st := goC_block
def k64_18 : ACode :=
  .cond (.p 27) .skip (.exit 0)
@[simp] theorem xk64_18 : GoC fns Q s k64_18 st ↔ GB fns Q s (peek st (.p 27)) .skip (.exit 0) st := goC_cond
def k64_19 : ACode :=
  .seq k64_18 k64_17
@[simp] theorem xk64_19 : GoC fns Q s k64_19 st ↔ GoC fns Q (.sq k64_17 :: s) k64_18 st := goC_seq
def k64_20 : ACode :=
  .ops q64_11 k64_19
@[simp] theorem xk64_20 : GoC fns Q s k64_20 st ↔ GoO fns Q s q64_11 k64_19 st := goC_ops
def lc64_0 : ACode :=
  k64_20
@[simp] theorem xlc64_0 : GoC fns Q s lc64_0 st ↔ GoC fns Q s k64_20 st := Iff.rfl
def k64_22 : ACode :=
  .loop lc64_0
@[simp] theorem xk64_22 : GoC fns Q s k64_22 st ↔ (LoopR fns lc64_0 st fun r => GoE fns Q s r.1 r.2) := goC_loop
def k64_23 : ACode :=
  .block 0 k64_22
@[simp] theorem xk64_23 : GoC fns Q s k64_23 st ↔ GoC fns Q (.bl 0 :: s) k64_22 st := goC_block
def k64_24 : ACode :=
  .seq k64_23 k64_15
@[simp] theorem xk64_24 : GoC fns Q s k64_24 st ↔ GoC fns Q (.sq k64_15 :: s) k64_23 st := goC_seq
def k64_25 : ACode :=
  .ops [⟨.assign (.c (.int .i64 1)), (some 6), none⟩] k64_24
@[simp] theorem xk64_25 : GoC fns Q s k64_25 st ↔ GoO fns Q s [⟨.assign (.c (.int .i64 1)), (some 6), none⟩] k64_24 st := goC_ops
def k64_26 : ACode :=
  .ops q64_12 k64_25
@[simp] theorem xk64_26 : GoC fns Q s k64_26 st ↔ GoO fns Q s q64_12 k64_25 st := goC_ops
def k64_27 : ACode :=
  .ops q64_13 .ret
@[simp] theorem xk64_27 : GoC fns Q s k64_27 st ↔ GoO fns Q s q64_13 .ret st := goC_ops
def k64_28 : ACode :=
  .cond (.p 12) k64_27 .skip
@[simp] theorem xk64_28 : GoC fns Q s k64_28 st ↔ GB fns Q s (peek st (.p 12)) k64_27 .skip st := goC_cond
def k64_29 : ACode :=
  .seq k64_28 k64_26
@[simp] theorem xk64_29 : GoC fns Q s k64_29 st ↔ GoC fns Q (.sq k64_26 :: s) k64_28 st := goC_seq
def k64_30 : ACode :=
  .ops q64_14 k64_29
@[simp] theorem xk64_30 : GoC fns Q s k64_30 st ↔ GoO fns Q s q64_14 k64_29 st := goC_ops
def k64_31 : ACode :=
  .ops q64_15 k64_30
@[simp] theorem xk64_31 : GoC fns Q s k64_31 st ↔ GoO fns Q s q64_15 k64_30 st := goC_ops
def af64 : AFunc := ⟨63, k64_31, [.tmp 2, .tmp 3, .tmp 4], fun _ _ => none⟩

theorem ok64 : ∃ hs, pFunc Tryz.prog sg hs Tryz.f64 = some af64 := ⟨fun i => 0, by kernel_rfl⟩
def q163_0 : List AOper :=
  [⟨.move .look (.t 0), (some 25), none⟩,
    ⟨.move .head (.p 7), (some 26), none⟩,
    ⟨.sliceSl 1 (.t 25) none (some (.p 26)), (some 27), none⟩,
    ⟨.move .look (.t 0), (some 28), none⟩,
    ⟨.move .head (.p 7), (some 29), none⟩,
    ⟨.sliceSl 1 (.t 28) (some (.p 29)) none, (some 30), none⟩,
    ⟨.assign (.t 27), (some 4), none⟩,
    ⟨.assign (.t 30), (some 5), none⟩,
    ⟨.assign (.c (.bool true)), (some 6), none⟩]
@[simp] def eq163_0 := id q163_0.eq_1
def q163_1 : List AOper :=
  [⟨.move .take (.t 0), (some 24), none⟩,
    ⟨.assign (.c (.slice .nil 0 1 [])), (some 4), none⟩,
    ⟨.assign (.t 24), (some 5), none⟩,
    ⟨.assign (.c (.bool false)), (some 6), none⟩]
@[simp] def eq163_1 := id q163_1.eq_1
def q163_2 : List AOper :=
  [⟨.move .look (.p 8), (some 15), none⟩,
    ⟨.un .not (.p 15), (some 16), none⟩,
    ⟨.move .look (.p 16), (some 17), none⟩,
    ⟨.move .look (.p 7), (some 18), (some (17, false))⟩,
    ⟨.convInt .i64 (.p 18), (some 19), (some (17, false))⟩,
    ⟨.move .head (.t 0), (some 20), (some (17, false))⟩,
    ⟨.len false (.p 20), (some 21), (some (17, false))⟩,
    ⟨.bin .gtr 1 false (.p 19) (.p 21), (some 22), (some (17, false))⟩,
    ⟨.pick (.p 17) (.c (.bool true)) (.p 22), (some 23), none⟩]
@[simp] def eq163_2 := id q163_2.eq_1
def q163_3 : List AOper :=
  [⟨.move .look (.t 0), (some 10), none⟩,
    ⟨.move .look (.p 1), (some 11), none⟩,
    ⟨.call 164 [(.t 10, false), (.p 11, false)], (some 12), none⟩,
    ⟨.move .look (.t 12), (some 9), none⟩,
    ⟨.extract 9 0, (some 13), none⟩,
    ⟨.extract 9 1, (some 14), none⟩,
    ⟨.assign (.p 13), (some 7), none⟩,
    ⟨.assign (.p 14), (some 8), none⟩]
@[simp] def eq163_3 := id q163_3.eq_1
def q163_4 : List AOper :=
  [⟨.assign (.c (.slice .nil 0 1 [])), (some 4), none⟩,
    ⟨.assign (.c (.slice .nil 0 1 [])), (some 5), none⟩,
    ⟨.assign (.c (.bool false)), (some 6), none⟩]
@[simp] def eq163_4 := id q163_4.eq_1
def k163_0 : ACode :=
  .ops q163_0 .ret
@[simp] theorem xk163_0 : GoC fns Q s k163_0 st ↔ GoO fns Q s q163_0 .ret st := goC_ops
def k163_1 : ACode :=
  .ops q163_1 .ret
@[simp] theorem xk163_1 : GoC fns Q s k163_1 st ↔ GoO fns Q s q163_1 .ret st := goC_ops
def k163_2 : ACode :=
  .cond (.p 23) k163_1 .skip
@[simp] theorem xk163_2 : GoC fns Q s k163_2 st ↔ GB fns Q s (peek st (.p 23)) k163_1 .skip st := goC_cond
def k163_3 : ACode :=
  .seq k163_2 k163_0
@[simp] theorem xk163_3 : GoC fns Q s k163_3 st ↔ GoC fns Q (.sq k163_0 :: s) k163_2 st := goC_seq
def k163_4 : ACode :=
  .ops q163_2 k163_3
@[simp] theorem xk163_4 : GoC fns Q s k163_4 st ↔ GoO fns Q s q163_2 k163_3 st := goC_ops
def k163_5 : ACode :=
  .ops q163_3 k163_4
@[simp] theorem xk163_5 : GoC fns Q s k163_5 st ↔ GoO fns Q s q163_3 k163_4 st := goC_ops
def k163_6 : ACode :=
  .ops q163_4 k163_5
@[simp] theorem xk163_6 : GoC fns Q s k163_6 st ↔ GoO fns Q s q163_4 k163_5 st := goC_ops
def af163 : AFunc := ⟨31, k163_6, [.tmp 4, .tmp 5, .tmp 6], fun _ _ => none⟩

theorem ok163 : ∃ hs, pFunc Tryz.prog sg hs Tryz.f163 = some af163 := ⟨fun i => 0, by kernel_rfl⟩
def q61_0 : List AOper :=
  [⟨.move .look (.p 1), (some 21), none⟩,
    ⟨.move .look (.t 7), (some 22), none⟩,
    ⟨.build [.int .u8 0, .slice .nil 0 1 []] [(0, 1, .p 21), (1, 1, .t 22)], (some 23), none⟩,
    ⟨.move .take (.t 8), (some 24), none⟩,
    ⟨.store 2 (.p 4) (.p 23), none, none⟩,
    ⟨.assign (.t 24), (some 5), none⟩,
    ⟨.assign (.c (.bool true)), (some 6), none⟩]
@[simp] def eq61_0 := id q61_0.eq_1
def q61_1 : List AOper :=
  [⟨.build [.int .u8 0, .slice .nil 0 1 []] [], (some 19), none⟩,
    ⟨.move .take (.t 0), (some 20), none⟩,
    ⟨.store 2 (.p 4) (.p 19), none, none⟩,
    ⟨.assign (.t 20), (some 5), none⟩,
    ⟨.assign (.c (.bool false)), (some 6), none⟩]
@[simp] def eq61_1 := id q61_1.eq_1
def q61_2 : List AOper :=
  [⟨.move .look (.p 9), (some 17), none⟩,
    ⟨.un .not (.p 17), (some 18), none⟩]
@[simp] def eq61_2 := id q61_2.eq_1
def q61_3 : List AOper :=
  [⟨.move .look (.t 0), (some 11), none⟩,
    ⟨.move .look (.p 1), (some 12), none⟩,
    ⟨.call 163 [(.t 11, false), (.p 12, false)], (some 13), none⟩,
    ⟨.move .look (.t 13), (some 10), none⟩,
    ⟨.extract 10 0, (some 14), none⟩,
    ⟨.extract 10 1, (some 15), none⟩,
    ⟨.extract 10 2, (some 16), none⟩,
    ⟨.assign (.t 14), (some 7), none⟩,
    ⟨.assign (.t 15), (some 8), none⟩,
    ⟨.assign (.p 16), (some 9), none⟩]
@[simp] def eq61_3 := id q61_3.eq_1
def q61_4 : List AOper :=
  [⟨.newbox 4 [.int .u8 0, .slice .nil 0 1 []], (some 4), none⟩,
    ⟨.assign (.c (.slice .nil 0 1 [])), (some 5), none⟩,
    ⟨.assign (.c (.bool false)), (some 6), none⟩]
@[simp] def eq61_4 := id q61_4.eq_1
def k61_0 : ACode :=
  .ops q61_0 .ret
@[simp] theorem xk61_0 : GoC fns Q s k61_0 st ↔ GoO fns Q s q61_0 .ret st := goC_ops
def k61_1 : ACode :=
  .ops q61_1 .ret
@[simp] theorem xk61_1 : GoC fns Q s k61_1 st ↔ GoO fns Q s q61_1 .ret st := goC_ops
def k61_2 : ACode :=
  .cond (.p 18) k61_1 .skip
@[simp] theorem xk61_2 : GoC fns Q s k61_2 st ↔ GB fns Q s (peek st (.p 18)) k61_1 .skip st := goC_cond
def k61_3 : ACode :=
  .seq k61_2 k61_0
@[simp] theorem xk61_3 : GoC fns Q s k61_3 st ↔ GoC fns Q (.sq k61_0 :: s) k61_2 st := goC_seq
def k61_4 : ACode :=
  .ops q61_2 k61_3
@[simp] theorem xk61_4 : GoC fns Q s k61_4 st ↔ GoO fns Q s q61_2 k61_3 st := goC_ops
def k61_5 : ACode :=
  .ops q61_3 k61_4
@[simp] theorem xk61_5 : GoC fns Q s k61_5 st ↔ GoO fns Q s q61_3 k61_4 st := goC_ops
def k61_6 : ACode :=
  .ops q61_4 k61_5
@[simp] theorem xk61_6 : GoC fns Q s k61_6 st ↔ GoO fns Q s q61_4 k61_5 st := goC_ops
def af61 : AFunc := ⟨25, k61_6, [.cell 4 true 2, .tmp 5, .tmp 6], fun _ _ => none⟩

theorem ok61 : ∃ hs, pFunc Tryz.prog sg hs Tryz.f61 = some af61 := ⟨fun i => 0, by kernel_rfl⟩
def q166_0 : List AOper :=
  [⟨.move .look (.t 0), (some 5), none⟩,
    ⟨.move .look (.t 1), (some 6), none⟩,
    ⟨.build [.slice .nil 0 1 [], .slice .nil 0 1 []] [(0, 1, .t 5), (1, 1, .t 6)], (some 7), none⟩,
    ⟨.store 2 (.p 4) (.p 7), none, none⟩]
@[simp] def eq166_0 := id q166_0.eq_1
def k166_0 : ACode :=
  .ops q166_0 .ret
@[simp] theorem xk166_0 : GoC fns Q s k166_0 st ↔ GoO fns Q s q166_0 .ret st := goC_ops
def k166_1 : ACode :=
  .ops [⟨.newbox 4 [.slice .nil 0 1 [], .slice .nil 0 1 []], (some 4), none⟩] k166_0
@[simp] theorem xk166_1 : GoC fns Q s k166_1 st ↔ GoO fns Q s [⟨.newbox 4 [.slice .nil 0 1 [], .slice .nil 0 1 []], (some 4), none⟩] k166_0 st := goC_ops
def af166 : AFunc := ⟨8, k166_1, [.cell 4 true 2], fun _ _ => none⟩

theorem ok166 : ∃ hs, pFunc Tryz.prog sg hs Tryz.f166 = some af166 := ⟨fun i => 0, by kernel_rfl⟩
def q218_0 : List AOper :=
  [⟨.load .take true 2 (.p 5), (some 39), none⟩,
    ⟨.store 2 (.p 2) (.p 39), none, none⟩,
    ⟨.assign (.c (.nilI)), (some 3), none⟩]
@[simp] def eq218_0 := id q218_0.eq_1
def q218_1 : List AOper :=
  [⟨.build [.int .u8 0, .slice .nil 0 1 []] [], (some 34), none⟩,
    ⟨.move .look (.t 0), (some 35), none⟩,
    ⟨.move .look (.t 6), (some 36), none⟩,
    ⟨.call 166 [(.t 35, false), (.t 36, false)], (some 37), none⟩,
    ⟨.mkIface 239 (.p 37), (some 38), none⟩,
    ⟨.store 2 (.p 2) (.p 34), none, none⟩,
    ⟨.assign (.p 38), (some 3), none⟩]
@[simp] def eq218_1 := id q218_1.eq_1
def q218_2 : List AOper :=
  [⟨.move .look (.p 7), (some 32), none⟩,
    ⟨.un .not (.p 32), (some 33), none⟩]
@[simp] def eq218_2 := id q218_2.eq_1
def q218_3 : List AOper :=
  [⟨.move .look (.t 0), (some 21), none⟩,
    ⟨.move .look (.p 4), (some 22), none⟩,
    ⟨.bin .add 1 true (.p 22) (.c (.int .i64 2)), (some 23), none⟩,
    ⟨.sliceSl 1 (.t 21) (some (.p 23)) none, (some 24), none⟩,
    ⟨.move .look (.t 0), (some 25), none⟩,
    ⟨.indexAddr 1 (.t 25) (.c (.int .i64 0)), (some 26), none⟩,
    ⟨.load .look false 1 (.p 26), (some 27), none⟩,
    ⟨.call 61 [(.t 24, false), (.p 27, false)], (some 28), none⟩,
    ⟨.move .look (.t 28), (some 20), none⟩,
    ⟨.extract 20 0, (some 29), none⟩,
    ⟨.extract 20 1, (some 30), none⟩,
    ⟨.extract 20 2, (some 31), none⟩,
    ⟨.newbox1 5 [.int .u8 0, .slice .nil 0 1 []], (some 5), none⟩,
    ⟨.store 2 (.p 5) (.p 29), none, none⟩,
    ⟨.assign (.t 30), (some 6), none⟩,
    ⟨.assign (.p 31), (some 7), none⟩]
@[simp] def eq218_3 := id q218_3.eq_1
def q218_4 : List AOper :=
  [⟨.build [.int .u8 0, .slice .nil 0 1 []] [], (some 18), none⟩,
    ⟨.mkIface 241 (.c (.str [101, 108, 101, 109, 101, 110, 116, 32, 105, 115, 32, 109, 105, 115, 115, 105, 110, 103, 32, 107, 101, 121])), (some 19), none⟩,
    ⟨.store 2 (.p 2) (.p 18), none, none⟩,
    ⟨.assign (.p 19), (some 3), none⟩]
@[simp] def eq218_4 := id q218_4.eq_1
def q218_5 : List AOper :=
  [⟨.move .head (.p 4), (some 16), none⟩,
    ⟨.bin .eql 1 true (.p 16) (.c (.int .i64 (-1))), (some 17), none⟩]
@[simp] def eq218_5 := id q218_5.eq_1
def q218_6 : List AOper :=
  [⟨.move .look (.t 0), (some 13), none⟩,
    ⟨.sliceSl 1 (.t 13) (some (.c (.int .i64 1))) none, (some 14), none⟩,
    ⟨.call 220 [(.t 14, false), (.c (.int .u8 0), false)], (some 15), none⟩,
    ⟨.assign (.p 15), (some 4), none⟩]
@[simp] def eq218_6 := id q218_6.eq_1
def q218_7 : List AOper :=
  [⟨.build [.int .u8 0, .slice .nil 0 1 []] [], (some 11), none⟩,
    ⟨.mkIface 241 (.c (.str [101, 108, 101, 109, 101, 110, 116, 32, 105, 115, 32, 109, 105, 115, 115, 105, 110, 103, 32, 116, 121, 112, 101])), (some 12), none⟩,
    ⟨.store 2 (.p 2) (.p 11), none, none⟩,
    ⟨.assign (.p 12), (some 3), none⟩]
@[simp] def eq218_7 := id q218_7.eq_1
def q218_8 : List AOper :=
  [⟨.move .head (.t 0), (some 8), none⟩,
    ⟨.len false (.p 8), (some 9), none⟩,
    ⟨.bin .eql 1 true (.p 9) (.c (.int .i64 0)), (some 10), none⟩]
@[simp] def eq218_8 := id q218_8.eq_1
def q218_9 : List AOper :=
  [⟨.newbox 2 [.int .u8 0, .slice .nil 0 1 []], (some 2), none⟩,
    ⟨.assign (.c (.nilI)), (some 3), none⟩]
@[simp] def eq218_9 := id q218_9.eq_1
def k218_0 : ACode :=
  .ops q218_0 .ret
@[simp] theorem xk218_0 : GoC fns Q s k218_0 st ↔ GoO fns Q s q218_0 .ret st := goC_ops
def k218_1 : ACode :=
  .ops q218_1 .ret
@[simp] theorem xk218_1 : GoC fns Q s k218_1 st ↔ GoO fns Q s q218_1 .ret st := goC_ops
def k218_2 : ACode :=
  .cond (.p 33) k218_1 .skip
@[simp] theorem xk218_2 : GoC fns Q s k218_2 st ↔ GB fns Q s (peek st (.p 33)) k218_1 .skip st := goC_cond
def k218_3 : ACode :=
  .seq k218_2 k218_0
@[simp] theorem xk218_3 : GoC fns Q s k218_3 st ↔ GoC fns Q (.sq k218_0 :: s) k218_2 st := goC_seq
def k218_4 : ACode :=
  .ops q218_2 k218_3
@[simp] theorem xk218_4 : GoC fns Q s k218_4 st ↔ GoO fns Q s q218_2 k218_3 st := goC_ops
def k218_5 : ACode :=
  .ops q218_3 k218_4
@[simp] theorem xk218_5 : GoC fns Q s k218_5 st ↔ GoO fns Q s q218_3 k218_4 st := goC_ops
def k218_6 : ACode :=
  .ops q218_4 .ret
@[simp] theorem xk218_6 : GoC fns Q s k218_6 st ↔ GoO fns Q s q218_4 .ret st := goC_ops
def k218_7 : ACode :=
  .cond (.p 17) k218_6 .skip
@[simp] theorem xk218_7 : GoC fns Q s k218_7 st ↔ GB fns Q s (peek st (.p 17)) k218_6 .skip st := goC_cond
def k218_8 : ACode :=
  .seq k218_7 k218_5
@[simp] theorem xk218_8 : GoC fns Q s k218_8 st ↔ GoC fns Q (.sq k218_5 :: s) k218_7 st := goC_seq
def k218_9 : ACode :=
  .ops q218_5 k218_8
@[simp] theorem xk218_9 : GoC fns Q s k218_9 st ↔ GoO fns Q s q218_5 k218_8 st := goC_ops
def k218_10 : ACode :=
  .ops q218_6 k218_9
@[simp] theorem xk218_10 : GoC fns Q s k218_10 st ↔ GoO fns Q s q218_6 k218_9 st := goC_ops
def k218_11 : ACode :=
  .ops q218_7 .ret
@[simp] theorem xk218_11 : GoC fns Q s k218_11 st ↔ GoO fns Q s q218_7 .ret st := goC_ops
def k218_12 : ACode :=
  .cond (.p 10) k218_11 .skip
@[simp] theorem xk218_12 : GoC fns Q s k218_12 st ↔ GB fns Q s (peek st (.p 10)) k218_11 .skip st := goC_cond
def k218_13 : ACode :=
  .seq k218_12 k218_10
@[simp] theorem xk218_13 : GoC fns Q s k218_13 st ↔ GoC fns Q (.sq k218_10 :: s) k218_12 st := goC_seq
def k218_14 : ACode :=
  .ops q218_8 k218_13
@[simp] theorem xk218_14 : GoC fns Q s k218_14 st ↔ GoO fns Q s q218_8 k218_13 st := goC_ops
def k218_15 : ACode :=
  .ops q218_9 k218_14
@[simp] theorem xk218_15 : GoC fns Q s k218_15 st ↔ GoO fns Q s q218_9 k218_14 st := goC_ops
def af218 : AFunc := ⟨40, k218_15, [.cell 2 true 2, .tmp 3], fun _ _ => none⟩

theorem ok218 : ∃ hs, pFunc Tryz.prog sg hs Tryz.f218 = some af218 := ⟨fun i => if i == 5 then 4 else 0, by kernel_rfl⟩
def q170_0 : List AOper :=
  [⟨.load .take true 2 (.p 3), (some 10), none⟩,
    ⟨.store 2 (.p 2) (.p 10), none, none⟩]
@[simp] def eq170_0 := id q170_0.eq_1
def q170_1 : List AOper :=
  [⟨.move .look (.t 0), (some 6), none⟩,
    ⟨.call 218 [(.t 6, false)], (some 7), none⟩,
    ⟨.move .look (.t 7), (some 5), none⟩,
    ⟨.extract 5 0, (some 8), none⟩,
    ⟨.extract 5 1, (some 9), none⟩,
    ⟨.newbox 3 [.int .u8 0, .slice .nil 0 1 []], (some 3), none⟩,
    ⟨.store 2 (.p 3) (.p 8), none, none⟩,
    ⟨.assign (.p 9), (some 4), none⟩]
@[simp] def eq170_1 := id q170_1.eq_1
def k170_0 : ACode :=
  .ops q170_0 .ret
@[simp] theorem xk170_0 : GoC fns Q s k170_0 st ↔ GoO fns Q s q170_0 .ret st := goC_ops
def k170_1 : ACode :=
  .ops q170_1 k170_0
@[simp] theorem xk170_1 : GoC fns Q s k170_1 st ↔ GoO fns Q s q170_1 k170_0 st := goC_ops
def k170_2 : ACode :=
  .ops [⟨.newbox 2 [.int .u8 0, .slice .nil 0 1 []], (some 2), none⟩] k170_1
@[simp] theorem xk170_2 : GoC fns Q s k170_2 st ↔ GoO fns Q s [⟨.newbox 2 [.int .u8 0, .slice .nil 0 1 []], (some 2), none⟩] k170_1 st := goC_ops
def af170 : AFunc := ⟨11, k170_2, [.cell 2 true 2], fun _ _ => none⟩

theorem ok170 : ∃ hs, pFunc Tryz.prog sg hs Tryz.f170 = some af170 := ⟨fun i => 0, by kernel_rfl⟩
def q84_0 : List AOper :=
  [⟨.assign (.p 8), (some 2), none⟩,
    ⟨.assign (.c (.nilI)), (some 3), none⟩]
@[simp] def eq84_0 := id q84_0.eq_1
def q84_1 : List AOper :=
  [⟨.move .look (.t 5), (some 76), none⟩,
    ⟨.call 170 [(.t 76, false)], (some 77), none⟩,
    ⟨.newobj [.int .u8 0, .slice .nil 0 1 []], (some 8), none⟩,
    ⟨.store 2 (.p 8) (.p 77), none, none⟩]
@[simp] def eq84_1 := id q84_1.eq_1
def q84_2 : List AOper :=
  [⟨.move .look (.p 0), (some 67), none⟩,
    ⟨.nilCheck (.p 67), (some 68), none⟩,
    ⟨.fieldAddr 1 (.p 68), (some 69), none⟩,
    ⟨.load .look false 1 (.p 69), (some 70), none⟩,
    ⟨.move .head (.t 5), (some 71), none⟩,
    ⟨.len false (.p 71), (some 72), none⟩,
    ⟨.bin .add 1 false (.p 70) (.p 72), (some 73), none⟩,
    ⟨.nilCheck (.p 67), (some 74), none⟩,
    ⟨.fieldAddr 1 (.p 74), (some 75), none⟩,
    ⟨.store 1 (.p 75) (.p 73), none, none⟩]
@[simp] def eq84_2 := id q84_2.eq_1
def q84_3 : List AOper :=
  [⟨.load .take false 1 (.c (.gl 4)), (some 66), none⟩,
    ⟨.assign (.c (.nilptr)), (some 2), none⟩,
    ⟨.assign (.p 66), (some 3), none⟩]
@[simp] def eq84_3 := id q84_3.eq_1
def q84_4 : List AOper :=
  [⟨.move .look (.p 7), (some 64), none⟩,
    ⟨.un .not (.p 64), (some 65), none⟩]
@[simp] def eq84_4 := id q84_4.eq_1
def q84_5 : List AOper :=
  [⟨.move .look (.t 4), (some 59), none⟩,
    ⟨.call 64 [(.t 59, false)], (some 60), none⟩,
    ⟨.move .look (.t 60), (some 58), none⟩,
    ⟨.extract 58 0, (some 61), none⟩,
    ⟨.extract 58 1, (some 62), none⟩,
    ⟨.extract 58 2, (some 63), none⟩,
    ⟨.assign (.t 61), (some 5), none⟩,
    ⟨.assign (.t 62), (some 6), none⟩,
    ⟨.assign (.p 63), (some 7), none⟩]
@[simp] def eq84_5 := id q84_5.eq_1
def q84_6 : List AOper :=
  [⟨.load .take false 1 (.c (.gl 3)), (some 57), none⟩,
    ⟨.assign (.c (.nilptr)), (some 2), none⟩,
    ⟨.assign (.p 57), (some 3), none⟩]
@[simp] def eq84_6 := id q84_6.eq_1
def q84_7 : List AOper :=
  [⟨.move .head (.t 4), (some 48), none⟩,
    ⟨.len false (.p 48), (some 49), none⟩,
    ⟨.bin .eql 1 true (.p 49) (.c (.int .i64 1)), (some 50), none⟩,
    ⟨.move .look (.p 50), (some 51), none⟩,
    ⟨.move .look (.t 4), (some 52), (some (51, true))⟩,
    ⟨.indexAddr 1 (.t 52) (.c (.int .i64 0)), (some 53), (some (51, true))⟩,
    ⟨.load .head false 1 (.p 53), (some 54), (some (51, true))⟩,
    ⟨.bin .eql 1 true (.p 54) (.c (.int .u8 0)), (some 55), (some (51, true))⟩,
    ⟨.pick (.p 51) (.p 55) (.c (.bool false)), (some 56), none⟩]
@[simp] def eq84_7 := id q84_7.eq_1
def q84_8 : List AOper :=
  [⟨.move .look (.p 0), (some 39), none⟩,
    ⟨.nilCheck (.p 39), (some 40), none⟩,
    ⟨.fieldAddr 0 (.p 40), (some 41), none⟩,
    ⟨.load .look false 1 (.p 41), (some 42), none⟩,
    ⟨.move .look (.p 0), (some 43), none⟩,
    ⟨.nilCheck (.p 43), (some 44), none⟩,
    ⟨.fieldAddr 1 (.p 44), (some 45), none⟩,
    ⟨.load .head false 1 (.p 45), (some 46), none⟩,
    ⟨.sliceSl 1 (.t 42) (some (.p 46)) none, (some 47), none⟩,
    ⟨.assign (.t 47), (some 4), none⟩]
@[simp] def eq84_8 := id q84_8.eq_1
def q84_9 : List AOper :=
  [⟨.move .look (.p 0), (some 36), none⟩,
    ⟨.nilCheck (.p 36), (some 37), none⟩,
    ⟨.fieldAddr 1 (.p 37), (some 38), none⟩,
    ⟨.store 1 (.p 38) (.c (.int .i64 4)), none, none⟩]
@[simp] def eq84_9 := id q84_9.eq_1
def q84_10 : List AOper :=
  [⟨.load .take false 1 (.c (.gl 4)), (some 35), none⟩,
    ⟨.assign (.c (.nilptr)), (some 2), none⟩,
    ⟨.assign (.p 35), (some 3), none⟩]
@[simp] def eq84_10 := id q84_10.eq_1
def q84_11 : List AOper :=
  [⟨.move .look (.p 0), (some 29), none⟩,
    ⟨.nilCheck (.p 29), (some 30), none⟩,
    ⟨.fieldAddr 0 (.p 30), (some 31), none⟩,
    ⟨.load .head false 1 (.p 31), (some 32), none⟩,
    ⟨.len false (.p 32), (some 33), none⟩,
    ⟨.bin .lss 1 true (.p 33) (.c (.int .i64 4)), (some 34), none⟩]
@[simp] def eq84_11 := id q84_11.eq_1
def q84_12 : List AOper :=
  [⟨.move .look (.p 0), (some 24), none⟩,
    ⟨.nilCheck (.p 24), (some 25), none⟩,
    ⟨.fieldAddr 1 (.p 25), (some 26), none⟩,
    ⟨.load .look false 1 (.p 26), (some 27), none⟩,
    ⟨.bin .lss 1 true (.p 27) (.c (.int .i64 4)), (some 28), none⟩]
@[simp] def eq84_12 := id q84_12.eq_1
def q84_13 : List AOper :=
  [⟨.load .take false 1 (.c (.gl 3)), (some 23), none⟩,
    ⟨.assign (.c (.nilptr)), (some 2), none⟩,
    ⟨.assign (.p 23), (some 3), none⟩]
@[simp] def eq84_13 := id q84_13.eq_1
def q84_14 : List AOper :=
  [⟨.move .head (.p 0), (some 9), none⟩,
    ⟨.bin .eql 4 true (.p 9) (.c (.nilptr)), (some 10), none⟩,
    ⟨.move .look (.p 10), (some 11), none⟩,
    ⟨.move .look (.p 0), (some 12), (some (11, false))⟩,
    ⟨.nilCheck (.p 12), (some 13), (some (11, false))⟩,
    ⟨.fieldAddr 1 (.p 13), (some 14), (some (11, false))⟩,
    ⟨.load .look false 1 (.p 14), (some 15), (some (11, false))⟩,
    ⟨.move .look (.p 0), (some 16), (some (11, false))⟩,
    ⟨.nilCheck (.p 16), (some 17), (some (11, false))⟩,
    ⟨.fieldAddr 0 (.p 17), (some 18), (some (11, false))⟩,
    ⟨.load .head false 1 (.p 18), (some 19), (some (11, false))⟩,
    ⟨.len false (.p 19), (some 20), (some (11, false))⟩,
    ⟨.bin .geq 1 false (.p 15) (.p 20), (some 21), (some (11, false))⟩,
    ⟨.pick (.p 11) (.c (.bool true)) (.p 21), (some 22), none⟩]
@[simp] def eq84_14 := id q84_14.eq_1
def q84_15 : List AOper :=
  [⟨.assign (.c (.nilptr)), (some 2), none⟩,
    ⟨.assign (.c (.nilI)), (some 3), none⟩]
@[simp] def eq84_15 := id q84_15.eq_1
def k84_0 : ACode :=
  .ops q84_0 .ret
@[simp] theorem xk84_0 : GoC fns Q s k84_0 st ↔ GoO fns Q s q84_0 .ret st := goC_ops
def k84_1 : ACode :=
  .ops q84_1 k84_0
@[simp] theorem xk84_1 : GoC fns Q s k84_1 st ↔ GoO fns Q s q84_1 k84_0 st := goC_ops
def k84_2 : ACode :=
  .ops q84_2 k84_1
@[simp] theorem xk84_2 : GoC fns Q s k84_2 st ↔ GoO fns Q s q84_2 k84_1 st := goC_ops
def k84_3 : ACode :=
  .ops q84_3 .ret
@[simp] theorem xk84_3 : GoC fns Q s k84_3 st ↔ GoO fns Q s q84_3 .ret st := goC_ops
def k84_4 : ACode :=
  .cond (.p 65) k84_3 .skip
@[simp] theorem xk84_4 : GoC fns Q s k84_4 st ↔ GB fns Q s (peek st (.p 65)) k84_3 .skip st := goC_cond
def k84_5 : ACode :=
  .seq k84_4 k84_2
@[simp] theorem xk84_5 : GoC fns Q s k84_5 st ↔ GoC fns Q (.sq k84_2 :: s) k84_4 st := goC_seq
def k84_6 : ACode :=
  .ops q84_4 k84_5
@[simp] theorem xk84_6 : GoC fns Q s k84_6 st ↔ GoO fns Q s q84_4 k84_5 st := goC_ops
def k84_7 : ACode :=
  .ops q84_5 k84_6
@[simp] theorem xk84_7 : GoC fns Q s k84_7 st ↔ GoO fns Q s q84_5 k84_6 st := goC_ops
def k84_8 : ACode :=
  .ops q84_6 .ret
@[simp] theorem xk84_8 : GoC fns Q s k84_8 st ↔ GoO fns Q s q84_6 .ret st := goC_ops
def k84_9 : ACode :=
  .cond (.p 56) k84_8 .skip
@[simp] theorem xk84_9 : GoC fns Q s k84_9 st ↔ GB fns Q s (peek st (.p 56)) k84_8 .skip st := goC_cond
def k84_10 : ACode :=
  .seq k84_9 k84_7
@[simp] theorem xk84_10 : GoC fns Q s k84_10 st ↔ GoC fns Q (.sq k84_7 :: s) k84_9 st := goC_seq
def k84_11 : ACode :=
  .ops q84_7 k84_10
@[simp] theorem xk84_11 : GoC fns Q s k84_11 st ↔ GoO fns Q s q84_7 k84_10 st := goC_ops
def k84_12 : ACode :=
  .ops q84_8 k84_11
@[simp] theorem xk84_12 : GoC fns Q s k84_12 st ↔ GoO fns Q s q84_8 k84_11 st := goC_ops
def k84_13 : ACode :=
  .ops q84_9 .skip
@[simp] theorem xk84_13 : GoC fns Q s k84_13 st ↔ GoO fns Q s q84_9 .skip st := goC_ops
def k84_14 : ACode :=
  .ops q84_10 .ret
@[simp] theorem xk84_14 : GoC fns Q s k84_14 st ↔ GoO fns Q s q84_10 .ret st := goC_ops
def k84_15 : ACode :=
  .cond (.p 34) k84_14 .skip
@[simp] theorem xk84_15 : GoC fns Q s k84_15 st ↔ GB fns Q s (peek st (.p 34)) k84_14 .skip st := goC_cond
def k84_16 : ACode :=
  .seq k84_15 k84_13
@[simp] theorem xk84_16 : GoC fns Q s k84_16 st ↔ GoC fns Q (.sq k84_13 :: s) k84_15 st := goC_seq
def k84_17 : ACode :=
  .ops q84_11 k84_16
@[simp] theorem xk84_17 : GoC fns Q s k84_17 st ↔ GoO fns Q s q84_11 k84_16 st := goC_ops
def k84_18 : ACode :=
  .cond (.p 28) k84_17 .skip
@[simp] theorem xk84_18 : GoC fns Q s k84_18 st ↔ GB fns Q s (peek st (.p 28)) k84_17 .skip st := goC_cond
def k84_19 : ACode :=
  .seq k84_18 k84_12
@[simp] theorem xk84_19 : GoC fns Q s k84_19 st ↔ GoC fns Q (.sq k84_12 :: s) k84_18 st := goC_seq
def k84_20 : ACode :=
  .ops q84_12 k84_19
@[simp] theorem xk84_20 : GoC fns Q s k84_20 st ↔ GoO fns Q s q84_12 k84_19 st := goC_ops
def k84_21 : ACode :=
  .ops q84_13 .ret
@[simp] theorem xk84_21 : GoC fns Q s k84_21 st ↔ GoO fns Q s q84_13 .ret st := goC_ops
def k84_22 : ACode :=
  .cond (.p 22) k84_21 .skip
@[simp] theorem xk84_22 : GoC fns Q s k84_22 st ↔ GB fns Q s (peek st (.p 22)) k84_21 .skip st := goC_cond
def k84_23 : ACode :=
  .seq k84_22 k84_20
@[simp] theorem xk84_23 : GoC fns Q s k84_23 st ↔ GoC fns Q (.sq k84_20 :: s) k84_22 st := goC_seq
def k84_24 : ACode :=
  .ops q84_14 k84_23
@[simp] theorem xk84_24 : GoC fns Q s k84_24 st ↔ GoO fns Q s q84_14 k84_23 st := goC_ops
def k84_25 : ACode :=
  .ops q84_15 k84_24
@[simp] theorem xk84_25 : GoC fns Q s k84_25 st ↔ GoO fns Q s q84_15 k84_24 st := goC_ops
def af84 : AFunc := ⟨78, k84_25, [.tmp 2, .tmp 3], fun _ _ => none⟩

theorem ok84 : ∃ hs, pFunc Tryz.prog sg hs Tryz.f84 = some af84 := ⟨fun i => if i == 8 then 1 else 0, by kernel_rfl⟩
def q165_0 : List AOper :=
  [⟨.move .look (.p 0), (some 18), none⟩,
    ⟨.move .look (.p 1), (some 19), none⟩,
    ⟨.move .look (.p 5), (some 20), none⟩,
    ⟨.call 222 [(.p 18, false), (.p 19, false), (.p 20, false)], (some 21), none⟩,
    ⟨.assign (.p 21), (some 4), none⟩]
@[simp] def eq165_0 := id q165_0.eq_1
def q165_1 : List AOper :=
  [⟨.move .look (.p 1), (some 15), none⟩,
    ⟨.call 221 [(.p 15, false)], (some 16), none⟩,
    ⟨.dead, (some 17), none⟩,
    ⟨.assign (.p 17), (some 5), none⟩]
@[simp] def eq165_1 := id q165_1.eq_1
def q165_2 : List AOper :=
  [⟨.move .head (.p 0), (some 12), none⟩,
    ⟨.move .head (.p 1), (some 13), none⟩,
    ⟨.bin .eql 5 false (.p 12) (.p 13), (some 14), none⟩,
    ⟨.assign (.p 14), (some 4), none⟩]
@[simp] def eq165_2 := id q165_2.eq_1
def q165_3 : List AOper :=
  [⟨.move .head (.p 0), (some 6), none⟩,
    ⟨.bin .eql 5 true (.p 6) (.c (.nilI)), (some 7), none⟩,
    ⟨.move .look (.p 7), (some 8), none⟩,
    ⟨.move .head (.p 1), (some 9), (some (8, false))⟩,
    ⟨.bin .eql 5 true (.p 9) (.c (.nilI)), (some 10), (some (8, false))⟩,
    ⟨.pick (.p 8) (.c (.bool true)) (.p 10), (some 11), none⟩]
@[simp] def eq165_3 := id q165_3.eq_1
def k165_0 : ACode :=
  .ops q165_0 .ret
@[simp] theorem xk165_0 : GoC fns Q s k165_0 st ↔ GoO fns Q s q165_0 .ret st := goC_ops
def k165_1 : ACode :=
  .ops q165_1 k165_0
@[simp] theorem xk165_1 : GoC fns Q s k165_1 st ↔ GoO fns Q s q165_1 k165_0 st := goC_ops
def k165_2 : ACode :=
  .ops q165_2 .ret
@[simp] theorem xk165_2 : GoC fns Q s k165_2 st ↔ GoO fns Q s q165_2 .ret st := goC_ops
def k165_3 : ACode :=
  .cond (.p 11) k165_2 .skip
@[simp] theorem xk165_3 : GoC fns Q s k165_3 st ↔ GB fns Q s (peek st (.p 11)) k165_2 .skip st := goC_cond
def k165_4 : ACode :=
  .seq k165_3 k165_1
@[simp] theorem xk165_4 : GoC fns Q s k165_4 st ↔ GoC fns Q (.sq k165_1 :: s) k165_3 st := goC_seq
def k165_5 : ACode :=
  .ops q165_3 k165_4
@[simp] theorem xk165_5 : GoC fns Q s k165_5 st ↔ GoO fns Q s q165_3 k165_4 st := goC_ops
def k165_6 : ACode :=
  .ops [⟨.assign (.c (.bool false)), (some 4), none⟩] k165_5
@[simp] theorem xk165_6 : GoC fns Q s k165_6 st ↔ GoO fns Q s [⟨.assign (.c (.bool false)), (some 4), none⟩] k165_5 st := goC_ops
def af165 : AFunc := ⟨22, k165_6, [.tmp 4], isX⟩

theorem ok165 : ∃ hs, pFunc Tryz.prog sg hs Tryz.f165 = some ⟨af165.n, af165.code, af165.res, fun _ _ => none⟩ := ⟨fun i => if i == 17 then 3 else 0, by kernel_rfl⟩
def q65_0 : List AOper :=
  [⟨.move .look (.p 0), (some 39), none⟩,
    ⟨.load .look false 1 (.c (.gl 3)), (some 40), none⟩,
    ⟨.hcall 165 [(.p 39, false), (.p 40, false)], (some 41), none⟩,
    ⟨.assign (.p 41), (some 38), none⟩]
@[simp] def eq65_0 := id q65_0.eq_1
def q65_1 : List AOper :=
  [⟨.move .look (.p 0), (some 35), none⟩,
    ⟨.load .look false 1 (.c (.gl 2)), (some 36), none⟩,
    ⟨.hcall 165 [(.p 35, false), (.p 36, false)], (some 37), none⟩,
    ⟨.assign (.p 37), (some 34), none⟩]
@[simp] def eq65_1 := id q65_1.eq_1
def q65_2 : List AOper :=
  [⟨.move .look (.p 0), (some 31), none⟩,
    ⟨.load .look false 1 (.c (.gl 1)), (some 32), none⟩,
    ⟨.hcall 165 [(.p 31, false), (.p 32, false)], (some 33), none⟩,
    ⟨.assign (.p 33), (some 27), none⟩]
@[simp] def eq65_2 := id q65_2.eq_1
def q65_3 : List AOper :=
  [⟨.move .look (.p 0), (some 28), none⟩,
    ⟨.load .look false 1 (.c (.gl 0)), (some 29), none⟩,
    ⟨.hcall 165 [(.p 28, false), (.p 29, false)], (some 30), none⟩,
    ⟨.assign (.p 30), (some 27), none⟩]
@[simp] def eq65_3 := id q65_3.eq_1
def q65_4 : List AOper :=
  [⟨.newbox 3 [.slice .nil 0 1 [], .slice .nil 0 1 []], (some 3), none⟩,
    ⟨.store 2 (.p 3) (.p 12), none, none⟩]
@[simp] def eq65_4 := id q65_4.eq_1
def q65_5 : List AOper :=
  [⟨.bin .eql 2 true (.p 16) (.c (.str [100, 111, 99, 117, 109, 101, 110, 116, 32, 111, 114, 32, 97, 114, 114, 97, 121, 32, 101, 110, 100, 32, 105, 115, 32, 109, 105, 115, 115, 105, 110, 103, 32, 110, 117, 108, 108, 32, 98, 121, 116, 101])), (some 20), none⟩,
    ⟨.assign (.p 20), (some 19), none⟩]
@[simp] def eq65_5 := id q65_5.eq_1
def q65_6 : List AOper :=
  [⟨.bin .eql 2 true (.p 16) (.c (.str [100, 111, 99, 117, 109, 101, 110, 116, 32, 111, 114, 32, 97, 114, 114, 97, 121, 32, 108, 101, 110, 103, 116, 104, 32, 105, 115, 32, 105, 110, 118, 97, 108, 105, 100])), (some 18), none⟩,
    ⟨.assign (.p 18), (some 17), none⟩]
@[simp] def eq65_6 := id q65_6.eq_1
def q65_7 : List AOper :=
  [⟨.newbox 6 [.str [], .int .u8 0], (some 6), none⟩,
    ⟨.store 2 (.p 6) (.p 26), none, none⟩]
@[simp] def eq65_7 := id q65_7.eq_1
def q65_8 : List AOper :=
  [⟨.px (.tassert 243 (.agg [.str [], .int .u8 0]) true) [.p 9], (some 24), none⟩,
    ⟨.extract 24 1, (some 25), none⟩,
    ⟨.extract 24 0, (some 26), none⟩]
@[simp] def eq65_8 := id q65_8.eq_1
def q65_9 : List AOper :=
  [⟨.px (.tassert 241 (.str []) true) [.p 9], (some 21), none⟩,
    ⟨.extract 21 1, (some 22), none⟩,
    ⟨.extract 21 0, (some 23), none⟩]
@[simp] def eq65_9 := id q65_9.eq_1
def q65_10 : List AOper :=
  [⟨.px (.tassert 240 (.str []) true) [.p 9], (some 13), none⟩,
    ⟨.extract 13 1, (some 14), none⟩,
    ⟨.extract 13 0, (some 15), none⟩]
@[simp] def eq65_10 := id q65_10.eq_1
def q65_11 : List AOper :=
  [⟨.px (.tassert 239 (.agg [.slice .nil 0 1 [], .slice .nil 0 1 []]) true) [.p 9], (some 10), none⟩,
    ⟨.extract 10 1, (some 11), none⟩,
    ⟨.extract 10 0, (some 12), none⟩]
@[simp] def eq65_11 := id q65_11.eq_1
def q65_12 : List AOper :=
  [⟨.move .head (.p 0), (some 7), none⟩,
    ⟨.bin .eql 5 true (.p 7) (.c (.nilI)), (some 8), none⟩]
@[simp] def eq65_12 := id q65_12.eq_1
def k65_0 : ACode :=
  .ops [⟨.assign (.c (.int .i64 9)), (some 2), none⟩] .ret
@[simp] theorem xk65_0 : GoC fns Q s k65_0 st ↔ GoO fns Q s [⟨.assign (.c (.int .i64 9)), (some 2), none⟩] .ret st := goC_ops
def k65_1 : ACode :=
  .ops [⟨.assign (.c (.int .i64 7)), (some 2), none⟩] .ret
@[simp] theorem xk65_1 : GoC fns Q s k65_1 st ↔ GoO fns Q s [⟨.assign (.c (.int .i64 7)), (some 2), none⟩] .ret st := goC_ops
def k65_2 : ACode :=
  .ops [⟨.assign (.c (.int .i64 8)), (some 2), none⟩] .ret
@[simp] theorem xk65_2 : GoC fns Q s k65_2 st ↔ GoO fns Q s [⟨.assign (.c (.int .i64 8)), (some 2), none⟩] .ret st := goC_ops
def k65_3 : ACode :=
  .ops [⟨.assign (.c (.int .i64 11)), (some 2), none⟩] .ret
@[simp] theorem xk65_3 : GoC fns Q s k65_3 st ↔ GoO fns Q s [⟨.assign (.c (.int .i64 11)), (some 2), none⟩] .ret st := goC_ops
def k65_4 : ACode :=
  .cond (.p 38) k65_3 .skip
@[simp] theorem xk65_4 : GoC fns Q s k65_4 st ↔ GB fns Q s (peek st (.p 38)) k65_3 .skip st := goC_cond
def k65_5 : ACode :=
  .ops q65_0 k65_4
@[simp] theorem xk65_5 : GoC fns Q s k65_5 st ↔ GoO fns Q s q65_0 k65_4 st := goC_ops
def k65_6 : ACode :=
  .cond (.p 34) k65_2 k65_5
@[simp] theorem xk65_6 : GoC fns Q s k65_6 st ↔ GB fns Q s (peek st (.p 34)) k65_2 k65_5 st := goC_cond
def k65_7 : ACode :=
  .ops q65_1 k65_6
@[simp] theorem xk65_7 : GoC fns Q s k65_7 st ↔ GoO fns Q s q65_1 k65_6 st := goC_ops
def k65_8 : ACode :=
  .cond (.p 27) k65_1 k65_7
@[simp] theorem xk65_8 : GoC fns Q s k65_8 st ↔ GB fns Q s (peek st (.p 27)) k65_1 k65_7 st := goC_cond
def k65_9 : ACode :=
  .ops q65_2 .skip
@[simp] theorem xk65_9 : GoC fns Q s k65_9 st ↔ GoO fns Q s q65_2 .skip st := goC_ops
def k65_10 : ACode :=
  .cond (.p 27) .skip k65_9
@[simp] theorem xk65_10 : GoC fns Q s k65_10 st ↔ GB fns Q s (peek st (.p 27)) .skip k65_9 st := goC_cond
def k65_11 : ACode :=
  .seq k65_10 k65_8
@[simp] theorem xk65_11 : GoC fns Q s k65_11 st ↔ GoC fns Q (.sq k65_8 :: s) k65_10 st := goC_seq
def k65_12 : ACode :=
  .ops q65_3 k65_11
@[simp] theorem xk65_12 : GoC fns Q s k65_12 st ↔ GoO fns Q s q65_3 k65_11 st := goC_ops
def k65_13 : ACode :=
  .block 2 k65_12
@[simp] theorem xk65_13 : GoC fns Q s k65_13 st ↔ GoC fns Q (.bl 2 :: s) k65_12 st := goC_block
def k65_14 : ACode :=
  .seq k65_13 k65_0
@[simp] theorem xk65_14 : GoC fns Q s k65_14 st ↔ GoC fns Q (.sq k65_0 :: s) k65_13 st := goC_seq
def k65_15 : ACode :=
  .ops [⟨.assign (.c (.int .i64 1)), (some 2), none⟩] .ret
@[simp] theorem xk65_15 : GoC fns Q s k65_15 st ↔ GoO fns Q s [⟨.assign (.c (.int .i64 1)), (some 2), none⟩] .ret st := goC_ops
def k65_16 : ACode :=
  .ops q65_4 k65_15
@[simp] theorem xk65_16 : GoC fns Q s k65_16 st ↔ GoO fns Q s q65_4 k65_15 st := goC_ops
def k65_17 : ACode :=
  .ops [⟨.assign (.c (.int .i64 4)), (some 2), none⟩] .ret
@[simp] theorem xk65_17 : GoC fns Q s k65_17 st ↔ GoO fns Q s [⟨.assign (.c (.int .i64 4)), (some 2), none⟩] .ret st := goC_ops
def k65_18 : ACode :=
  .ops [⟨.assign (.c (.int .i64 2)), (some 2), none⟩] .ret
@[simp] theorem xk65_18 : GoC fns Q s k65_18 st ↔ GoO fns Q s [⟨.assign (.c (.int .i64 2)), (some 2), none⟩] .ret st := goC_ops
def k65_19 : ACode :=
  .ops [⟨.assign (.c (.int .i64 3)), (some 2), none⟩] .ret
@[simp] theorem xk65_19 : GoC fns Q s k65_19 st ↔ GoO fns Q s [⟨.assign (.c (.int .i64 3)), (some 2), none⟩] .ret st := goC_ops
def k65_20 : ACode :=
  .cond (.p 19) k65_19 .skip
@[simp] theorem xk65_20 : GoC fns Q s k65_20 st ↔ GB fns Q s (peek st (.p 19)) k65_19 .skip st := goC_cond
def k65_21 : ACode :=
  .ops q65_5 k65_20
@[simp] theorem xk65_21 : GoC fns Q s k65_21 st ↔ GoO fns Q s q65_5 k65_20 st := goC_ops
def k65_22 : ACode :=
  .cond (.p 17) k65_18 k65_21
@[simp] theorem xk65_22 : GoC fns Q s k65_22 st ↔ GB fns Q s (peek st (.p 17)) k65_18 k65_21 st := goC_cond
def k65_23 : ACode :=
  .ops q65_6 k65_22
@[simp] theorem xk65_23 : GoC fns Q s k65_23 st ↔ GoO fns Q s q65_6 k65_22 st := goC_ops
def k65_24 : ACode :=
  .block 1 k65_23
@[simp] theorem xk65_24 : GoC fns Q s k65_24 st ↔ GoC fns Q (.bl 1 :: s) k65_23 st := goC_block
def k65_25 : ACode :=
  .seq k65_24 k65_17
@[simp] theorem xk65_25 : GoC fns Q s k65_25 st ↔ GoC fns Q (.sq k65_17 :: s) k65_24 st := goC_seq
def k65_26 : ACode :=
  .ops [⟨.move .head (.p 4), (some 16), none⟩] k65_25
@[simp] theorem xk65_26 : GoC fns Q s k65_26 st ↔ GoO fns Q s [⟨.move .head (.p 4), (some 16), none⟩] k65_25 st := goC_ops
def k65_27 : ACode :=
  .ops [⟨.assign (.p 15), (some 4), none⟩] k65_26
@[simp] theorem xk65_27 : GoC fns Q s k65_27 st ↔ GoO fns Q s [⟨.assign (.p 15), (some 4), none⟩] k65_26 st := goC_ops
def k65_28 : ACode :=
  .ops [⟨.assign (.c (.int .i64 5)), (some 2), none⟩] .ret
@[simp] theorem xk65_28 : GoC fns Q s k65_28 st ↔ GoO fns Q s [⟨.assign (.c (.int .i64 5)), (some 2), none⟩] .ret st := goC_ops
def k65_29 : ACode :=
  .ops [⟨.assign (.p 23), (some 5), none⟩] k65_28
@[simp] theorem xk65_29 : GoC fns Q s k65_29 st ↔ GoO fns Q s [⟨.assign (.p 23), (some 5), none⟩] k65_28 st := goC_ops
def k65_30 : ACode :=
  .ops [⟨.assign (.c (.int .i64 10)), (some 2), none⟩] .ret
@[simp] theorem xk65_30 : GoC fns Q s k65_30 st ↔ GoO fns Q s [⟨.assign (.c (.int .i64 10)), (some 2), none⟩] .ret st := goC_ops
def k65_31 : ACode :=
  .ops q65_7 k65_30
@[simp] theorem xk65_31 : GoC fns Q s k65_31 st ↔ GoO fns Q s q65_7 k65_30 st := goC_ops
def k65_32 : ACode :=
  .cond (.p 25) k65_31 .skip
@[simp] theorem xk65_32 : GoC fns Q s k65_32 st ↔ GB fns Q s (peek st (.p 25)) k65_31 .skip st := goC_cond
def k65_33 : ACode :=
  .ops q65_8 k65_32
@[simp] theorem xk65_33 : GoC fns Q s k65_33 st ↔ GoO fns Q s q65_8 k65_32 st := goC_ops
def k65_34 : ACode :=
  .cond (.p 22) k65_29 k65_33
@[simp] theorem xk65_34 : GoC fns Q s k65_34 st ↔ GB fns Q s (peek st (.p 22)) k65_29 k65_33 st := goC_cond
def k65_35 : ACode :=
  .ops q65_9 k65_34
@[simp] theorem xk65_35 : GoC fns Q s k65_35 st ↔ GoO fns Q s q65_9 k65_34 st := goC_ops
def k65_36 : ACode :=
  .cond (.p 14) k65_27 k65_35
@[simp] theorem xk65_36 : GoC fns Q s k65_36 st ↔ GB fns Q s (peek st (.p 14)) k65_27 k65_35 st := goC_cond
def k65_37 : ACode :=
  .ops q65_10 k65_36
@[simp] theorem xk65_37 : GoC fns Q s k65_37 st ↔ GoO fns Q s q65_10 k65_36 st := goC_ops
def k65_38 : ACode :=
  .cond (.p 11) k65_16 k65_37
@[simp] theorem xk65_38 : GoC fns Q s k65_38 st ↔ GB fns Q s (peek st (.p 11)) k65_16 k65_37 st := goC_cond
def k65_39 : ACode :=
  .ops q65_11 k65_38
@[simp] theorem xk65_39 : GoC fns Q s k65_39 st ↔ GoO fns Q s q65_11 k65_38 st := goC_ops
def k65_40 : ACode :=
  .block 0 k65_39
@[simp] theorem xk65_40 : GoC fns Q s k65_40 st ↔ GoC fns Q (.bl 0 :: s) k65_39 st := goC_block
def k65_41 : ACode :=
  .seq k65_40 k65_14
@[simp] theorem xk65_41 : GoC fns Q s k65_41 st ↔ GoC fns Q (.sq k65_14 :: s) k65_40 st := goC_seq
def k65_42 : ACode :=
  .ops [⟨.move .head (.p 0), (some 9), none⟩] k65_41
@[simp] theorem xk65_42 : GoC fns Q s k65_42 st ↔ GoO fns Q s [⟨.move .head (.p 0), (some 9), none⟩] k65_41 st := goC_ops
def k65_43 : ACode :=
  .ops [⟨.assign (.c (.int .i64 0)), (some 2), none⟩] .ret
@[simp] theorem xk65_43 : GoC fns Q s k65_43 st ↔ GoO fns Q s [⟨.assign (.c (.int .i64 0)), (some 2), none⟩] .ret st := goC_ops
def k65_44 : ACode :=
  .cond (.p 8) k65_43 .skip
@[simp] theorem xk65_44 : GoC fns Q s k65_44 st ↔ GB fns Q s (peek st (.p 8)) k65_43 .skip st := goC_cond
def k65_45 : ACode :=
  .seq k65_44 k65_42
@[simp] theorem xk65_45 : GoC fns Q s k65_45 st ↔ GoC fns Q (.sq k65_42 :: s) k65_44 st := goC_seq
def k65_46 : ACode :=
  .ops q65_12 k65_45
@[simp] theorem xk65_46 : GoC fns Q s k65_46 st ↔ GoO fns Q s q65_12 k65_45 st := goC_ops
def k65_47 : ACode :=
  .ops [⟨.assign (.c (.int .i64 0)), (some 2), none⟩] k65_46
@[simp] theorem xk65_47 : GoC fns Q s k65_47 st ↔ GoO fns Q s [⟨.assign (.c (.int .i64 0)), (some 2), none⟩] k65_46 st := goC_ops
def af65 : AFunc := ⟨42, k65_47, [.tmp 2], fun _ _ => none⟩

theorem ok65 : ∃ hs, pFunc Tryz.prog sg hs Tryz.f65 = some af65 := ⟨fun i => 0, by kernel_rfl⟩
def q55_0 : List AOper :=
  [⟨.move .look (.t 0), (some 3), none⟩,
    ⟨.append 5 1 1 false (.c (.slice .nil 0 1 [])) (.p 3), (some 4), none⟩,
    ⟨.assign (.t 4), (some 2), none⟩]
@[simp] def eq55_0 := id q55_0.eq_1
def k55_0 : ACode :=
  .ops q55_0 .ret
@[simp] theorem xk55_0 : GoC fns Q s k55_0 st ↔ GoO fns Q s q55_0 .ret st := goC_ops
def k55_1 : ACode :=
  .ops [⟨.assign (.c (.slice .nil 0 1 [])), (some 2), none⟩] k55_0
@[simp] theorem xk55_1 : GoC fns Q s k55_1 st ↔ GoO fns Q s [⟨.assign (.c (.slice .nil 0 1 [])), (some 2), none⟩] k55_0 st := goC_ops
def af55 : AFunc := ⟨5, k55_1, [.tmp 2], fun _ _ => none⟩

theorem ok55 : ∃ hs, pFunc Tryz.prog sg hs Tryz.f55 = some af55 := ⟨fun i => 0, by kernel_rfl⟩
def q85_0 : List AOper :=
  [⟨.move .look (.p 0), (some 2), none⟩,
    ⟨.nilCheck (.p 2), (some 3), none⟩,
    ⟨.fieldAddr 1 (.p 3), (some 4), none⟩,
    ⟨.store 1 (.p 4) (.c (.int .i64 0)), none, none⟩]
@[simp] def eq85_0 := id q85_0.eq_1
def k85_0 : ACode :=
  .ops q85_0 .ret
@[simp] theorem xk85_0 : GoC fns Q s k85_0 st ↔ GoO fns Q s q85_0 .ret st := goC_ops
def af85 : AFunc := ⟨5, k85_0, [], fun _ _ => none⟩

theorem ok85 : ∃ hs, pFunc Tryz.prog sg hs Tryz.f85 = some af85 := ⟨fun i => 0, by kernel_rfl⟩
def q86_0 : List AOper :=
  [⟨.move .take (.p 6), (some 33), none⟩,
    ⟨.assign (.p 33), (some 2), none⟩]
@[simp] def eq86_0 := id q86_0.eq_1
def q86_1 : List AOper :=
  [⟨.move .look (.p 6), (some 31), none⟩,
    ⟨.bin .add 1 true (.p 31) (.c (.int .i64 1)), (some 32), none⟩,
    ⟨.assign (.p 32), (some 6), none⟩]
@[simp] def eq86_1 := id q86_1.eq_1
def q86_2 : List AOper :=
  [⟨.move .look (.p 5), (some 29), none⟩,
    ⟨.un .not (.p 29), (some 30), none⟩]
@[simp] def eq86_2 := id q86_2.eq_1
def q86_3 : List AOper :=
  [⟨.move .look (.t 4), (some 24), none⟩,
    ⟨.call 64 [(.t 24, false)], (some 25), none⟩,
    ⟨.move .look (.t 25), (some 23), none⟩,
    ⟨.extract 23 0, (some 26), none⟩,
    ⟨.extract 23 1, (some 27), none⟩,
    ⟨.extract 23 2, (some 28), none⟩,
    ⟨.assign (.t 27), (some 4), none⟩,
    ⟨.assign (.p 28), (some 5), none⟩]
@[simp] def eq86_3 := id q86_3.eq_1
def q86_4 : List AOper :=
  [⟨.move .head (.t 4), (some 20), none⟩,
    ⟨.len false (.p 20), (some 21), none⟩,
    ⟨.bin .gtr 1 true (.p 21) (.c (.int .i64 1)), (some 22), none⟩]
@[simp] def eq86_4 := id q86_4.eq_1
def q86_5 : List AOper :=
  [⟨.move .look (.p 5), (some 18), none⟩,
    ⟨.un .not (.p 18), (some 19), none⟩]
@[simp] def eq86_5 := id q86_5.eq_1
def q86_6 : List AOper :=
  [⟨.move .look (.p 0), (some 10), none⟩,
    ⟨.nilCheck (.p 10), (some 11), none⟩,
    ⟨.fieldAddr 0 (.p 11), (some 12), none⟩,
    ⟨.load .look false 1 (.p 12), (some 13), none⟩,
    ⟨.call 54 [(.t 13, false)], (some 14), none⟩,
    ⟨.move .look (.t 14), (some 9), none⟩,
    ⟨.extract 9 0, (some 15), none⟩,
    ⟨.extract 9 1, (some 16), none⟩,
    ⟨.extract 9 2, (some 17), none⟩,
    ⟨.assign (.p 15), (some 3), none⟩,
    ⟨.assign (.t 16), (some 4), none⟩,
    ⟨.assign (.p 17), (some 5), none⟩]
@[simp] def eq86_6 := id q86_6.eq_1
def q86_7 : List AOper :=
  [⟨.move .head (.p 0), (some 7), none⟩,
    ⟨.bin .eql 4 true (.p 7) (.c (.nilptr)), (some 8), none⟩]
@[simp] def eq86_7 := id q86_7.eq_1
def k86_0 : ACode :=
  .ops q86_0 .ret
@[simp] theorem xk86_0 : GoC fns Q s k86_0 st ↔ GoO fns Q s q86_0 .ret st := goC_ops
def k86_1 : ACode :=
  .ops q86_1 .skip
@[simp] theorem xk86_1 : GoC fns Q s k86_1 st ↔ GoO fns Q s q86_1 .skip st := goC_ops
def k86_2 : ACode :=
  .ops [⟨.assign (.c (.int .i64 0)), (some 2), none⟩] .ret
@[simp] theorem xk86_2 : GoC fns Q s k86_2 st ↔ GoO fns Q s [⟨.assign (.c (.int .i64 0)), (some 2), none⟩] .ret st := goC_ops
def k86_3 : ACode :=
  .cond (.p 30) k86_2 .skip
@[simp] theorem xk86_3 : GoC fns Q s k86_3 st ↔ GB fns Q s (peek st (.p 30)) k86_2 .skip st := goC_cond
def k86_4 : ACode :=
  .seq k86_3 k86_1
@[simp] theorem xk86_4 : GoC fns Q s k86_4 st ↔ GoC fns Q (.sq k86_1 :: s) k86_3 st := goC_seq
def k86_5 : ACode :=
  .ops q86_2 k86_4
@[simp] theorem xk86_5 : GoC fns Q s k86_5 st ↔ GoO fns Q s q86_2 k86_4 st := goC_ops
def k86_6 : ACode :=
  .ops q86_3 k86_5
@[simp] theorem xk86_6 : GoC fns Q s k86_6 st ↔ GoO fns Q s q86_3 k86_5 st := goC_ops
def k86_7 : ACode :=
  .block 1 k86_6
@[simp] theorem xk86_7 : GoC fns Q s k86_7 st ↔ GoC fns Q (.bl 1 :: s) k86_6 st := goC_block
def k86_8 : ACode :=
  .cond (.p 22) .skip (.exit 0)
@[simp] theorem xk86_8 : GoC fns Q s k86_8 st ↔ GB fns Q s (peek st (.p 22)) .skip (.exit 0) st := goC_cond
def k86_9 : ACode :=
  .seq k86_8 k86_7
@[simp] theorem xk86_9 : GoC fns Q s k86_9 st ↔ GoC fns Q (.sq k86_7 :: s) k86_8 st := goC_seq
def k86_10 : ACode :=
  .ops q86_4 k86_9
@[simp] theorem xk86_10 : GoC fns Q s k86_10 st ↔ GoO fns Q s q86_4 k86_9 st := goC_ops
def lc86_0 : ACode :=
  k86_10
@[simp] theorem xlc86_0 : GoC fns Q s lc86_0 st ↔ GoC fns Q s k86_10 st := Iff.rfl
def k86_12 : ACode :=
  .loop lc86_0
@[simp] theorem xk86_12 : GoC fns Q s k86_12 st ↔ (LoopR fns lc86_0 st fun r => GoE fns Q s r.1 r.2) := goC_loop
def k86_13 : ACode :=
  .block 0 k86_12
@[simp] theorem xk86_13 : GoC fns Q s k86_13 st ↔ GoC fns Q (.bl 0 :: s) k86_12 st := goC_block
def k86_14 : ACode :=
  .seq k86_13 k86_0
@[simp] theorem xk86_14 : GoC fns Q s k86_14 st ↔ GoC fns Q (.sq k86_0 :: s) k86_13 st := goC_seq
def k86_15 : ACode :=
  .ops [⟨.assign (.c (.int .i64 0)), (some 6), none⟩] k86_14
@[simp] theorem xk86_15 : GoC fns Q s k86_15 st ↔ GoO fns Q s [⟨.assign (.c (.int .i64 0)), (some 6), none⟩] k86_14 st := goC_ops
def k86_16 : ACode :=
  .ops [⟨.assign (.c (.int .i64 0)), (some 2), none⟩] .ret
@[simp] theorem xk86_16 : GoC fns Q s k86_16 st ↔ GoO fns Q s [⟨.assign (.c (.int .i64 0)), (some 2), none⟩] .ret st := goC_ops
def k86_17 : ACode :=
  .cond (.p 19) k86_16 .skip
@[simp] theorem xk86_17 : GoC fns Q s k86_17 st ↔ GB fns Q s (peek st (.p 19)) k86_16 .skip st := goC_cond
def k86_18 : ACode :=
  .seq k86_17 k86_15
@[simp] theorem xk86_18 : GoC fns Q s k86_18 st ↔ GoC fns Q (.sq k86_15 :: s) k86_17 st := goC_seq
def k86_19 : ACode :=
  .ops q86_5 k86_18
@[simp] theorem xk86_19 : GoC fns Q s k86_19 st ↔ GoO fns Q s q86_5 k86_18 st := goC_ops
def k86_20 : ACode :=
  .ops q86_6 k86_19
@[simp] theorem xk86_20 : GoC fns Q s k86_20 st ↔ GoO fns Q s q86_6 k86_19 st := goC_ops
def k86_21 : ACode :=
  .ops [⟨.assign (.c (.int .i64 0)), (some 2), none⟩] .ret
@[simp] theorem xk86_21 : GoC fns Q s k86_21 st ↔ GoO fns Q s [⟨.assign (.c (.int .i64 0)), (some 2), none⟩] .ret st := goC_ops
def k86_22 : ACode :=
  .cond (.p 8) k86_21 .skip
@[simp] theorem xk86_22 : GoC fns Q s k86_22 st ↔ GB fns Q s (peek st (.p 8)) k86_21 .skip st := goC_cond
def k86_23 : ACode :=
  .seq k86_22 k86_20
@[simp] theorem xk86_23 : GoC fns Q s k86_23 st ↔ GoC fns Q (.sq k86_20 :: s) k86_22 st := goC_seq
def k86_24 : ACode :=
  .ops q86_7 k86_23
@[simp] theorem xk86_24 : GoC fns Q s k86_24 st ↔ GoO fns Q s q86_7 k86_23 st := goC_ops
def k86_25 : ACode :=
  .ops [⟨.assign (.c (.int .i64 0)), (some 2), none⟩] k86_24
@[simp] theorem xk86_25 : GoC fns Q s k86_25 st ↔ GoO fns Q s [⟨.assign (.c (.int .i64 0)), (some 2), none⟩] k86_24 st := goC_ops
def af86 : AFunc := ⟨34, k86_25, [.tmp 2], fun _ _ => none⟩

theorem ok86 : ∃ hs, pFunc Tryz.prog sg hs Tryz.f86 = some af86 := ⟨fun i => 0, by kernel_rfl⟩
def q88_0 : List AOper :=
  [⟨.move .look (.p 0), (some 3), none⟩,
    ⟨.nilCheck (.p 3), (some 4), none⟩,
    ⟨.fieldAddr 0 (.p 4), (some 5), none⟩,
    ⟨.load .head false 1 (.p 5), (some 6), none⟩,
    ⟨.len false (.p 6), (some 7), none⟩,
    ⟨.bin .leq 1 true (.p 7) (.c (.int .i64 5)), (some 8), none⟩,
    ⟨.assign (.p 8), (some 2), none⟩]
@[simp] def eq88_0 := id q88_0.eq_1
def k88_0 : ACode :=
  .ops q88_0 .ret
@[simp] theorem xk88_0 : GoC fns Q s k88_0 st ↔ GoO fns Q s q88_0 .ret st := goC_ops
def k88_1 : ACode :=
  .ops [⟨.assign (.c (.bool false)), (some 2), none⟩] k88_0
@[simp] theorem xk88_1 : GoC fns Q s k88_1 st ↔ GoO fns Q s [⟨.assign (.c (.bool false)), (some 2), none⟩] k88_0 st := goC_ops
def af88 : AFunc := ⟨9, k88_1, [.tmp 2], fun _ _ => none⟩

theorem ok88 : ∃ hs, pFunc Tryz.prog sg hs Tryz.f88 = some af88 := ⟨fun i => 0, by kernel_rfl⟩
def k87_0 : ACode :=
  .ops [⟨.assign (.c (.int .i64 0)), (some 2), none⟩] .ret
@[simp] theorem xk87_0 : GoC fns Q s k87_0 st ↔ GoO fns Q s [⟨.assign (.c (.int .i64 0)), (some 2), none⟩] .ret st := goC_ops
def k87_1 : ACode :=
  .ops [⟨.assign (.c (.int .i64 1)), (some 2), none⟩] .ret
@[simp] theorem xk87_1 : GoC fns Q s k87_1 st ↔ GoO fns Q s [⟨.assign (.c (.int .i64 1)), (some 2), none⟩] .ret st := goC_ops
def k87_2 : ACode :=
  .cond (.p 3) k87_1 .skip
@[simp] theorem xk87_2 : GoC fns Q s k87_2 st ↔ GB fns Q s (peek st (.p 3)) k87_1 .skip st := goC_cond
def k87_3 : ACode :=
  .seq k87_2 k87_0
@[simp] theorem xk87_3 : GoC fns Q s k87_3 st ↔ GoC fns Q (.sq k87_0 :: s) k87_2 st := goC_seq
def k87_4 : ACode :=
  .ops [⟨.move .head (.p 0), (some 3), none⟩] k87_3
@[simp] theorem xk87_4 : GoC fns Q s k87_4 st ↔ GoO fns Q s [⟨.move .head (.p 0), (some 3), none⟩] k87_3 st := goC_ops
def k87_5 : ACode :=
  .ops [⟨.assign (.c (.int .i64 0)), (some 2), none⟩] k87_4
@[simp] theorem xk87_5 : GoC fns Q s k87_5 st ↔ GoO fns Q s [⟨.assign (.c (.int .i64 0)), (some 2), none⟩] k87_4 st := goC_ops
def af87 : AFunc := ⟨4, k87_5, [.tmp 2], fun _ _ => none⟩

theorem ok87 : ∃ hs, pFunc Tryz.prog sg hs Tryz.f87 = some af87 := ⟨fun i => 0, by kernel_rfl⟩
def q67_0 : List AOper :=
  [⟨.fieldAddr 1 (.p 1), (some 17), none⟩,
    ⟨.load .look false 1 (.p 17), (some 18), none⟩,
    ⟨.fieldAddr 1 (.p 1), (some 19), none⟩,
    ⟨.load .look false 1 (.p 19), (some 20), none⟩,
    ⟨.call 166 [(.t 18, false), (.t 20, false)], (some 21), none⟩,
    ⟨.mkIface 239 (.p 21), (some 22), none⟩,
    ⟨.assign (.p 22), (some 2), none⟩]
@[simp] def eq67_0 := id q67_0.eq_1
def q67_1 : List AOper :=
  [⟨.move .look (.p 5), (some 15), none⟩,
    ⟨.un .not (.p 15), (some 16), none⟩]
@[simp] def eq67_1 := id q67_1.eq_1
def q67_2 : List AOper :=
  [⟨.fieldAddr 1 (.p 1), (some 7), none⟩,
    ⟨.load .look false 1 (.p 7), (some 8), none⟩,
    ⟨.fieldAddr 0 (.p 1), (some 9), none⟩,
    ⟨.load .look false 1 (.p 9), (some 10), none⟩,
    ⟨.call 163 [(.t 8, false), (.p 10, false)], (some 11), none⟩,
    ⟨.move .look (.t 11), (some 6), none⟩,
    ⟨.extract 6 0, (some 12), none⟩,
    ⟨.extract 6 1, (some 13), none⟩,
    ⟨.extract 6 2, (some 14), none⟩,
    ⟨.assign (.t 12), (some 3), none⟩,
    ⟨.assign (.t 13), (some 4), none⟩,
    ⟨.assign (.p 14), (some 5), none⟩]
@[simp] def eq67_2 := id q67_2.eq_1
def q67_3 : List AOper :=
  [⟨.box 1 (.p 0), (some 1), none⟩,
    ⟨.assign (.c (.nilI)), (some 2), none⟩]
@[simp] def eq67_3 := id q67_3.eq_1
def k67_0 : ACode :=
  .ops [⟨.assign (.c (.nilI)), (some 2), none⟩] .ret
@[simp] theorem xk67_0 : GoC fns Q s k67_0 st ↔ GoO fns Q s [⟨.assign (.c (.nilI)), (some 2), none⟩] .ret st := goC_ops
def k67_1 : ACode :=
  .ops q67_0 .ret
@[simp] theorem xk67_1 : GoC fns Q s k67_1 st ↔ GoO fns Q s q67_0 .ret st := goC_ops
def k67_2 : ACode :=
  .cond (.p 16) k67_1 .skip
@[simp] theorem xk67_2 : GoC fns Q s k67_2 st ↔ GB fns Q s (peek st (.p 16)) k67_1 .skip st := goC_cond
def k67_3 : ACode :=
  .seq k67_2 k67_0
@[simp] theorem xk67_3 : GoC fns Q s k67_3 st ↔ GoC fns Q (.sq k67_0 :: s) k67_2 st := goC_seq
def k67_4 : ACode :=
  .ops q67_1 k67_3
@[simp] theorem xk67_4 : GoC fns Q s k67_4 st ↔ GoO fns Q s q67_1 k67_3 st := goC_ops
def k67_5 : ACode :=
  .ops q67_2 k67_4
@[simp] theorem xk67_5 : GoC fns Q s k67_5 st ↔ GoO fns Q s q67_2 k67_4 st := goC_ops
def k67_6 : ACode :=
  .ops q67_3 k67_5
@[simp] theorem xk67_6 : GoC fns Q s k67_6 st ↔ GoO fns Q s q67_3 k67_5 st := goC_ops
def af67 : AFunc := ⟨23, k67_6, [.tmp 2], fun _ _ => none⟩

theorem ok67 : ∃ hs, pFunc Tryz.prog sg hs Tryz.f67 = some af67 := ⟨fun i => 0, by kernel_rfl⟩
def q168_0 : List AOper :=
  [⟨.move .take (.t 8), (some 56), none⟩,
    ⟨.assign (.t 56), (some 2), none⟩,
    ⟨.assign (.c (.nilI)), (some 3), none⟩]
@[simp] def eq168_0 := id q168_0.eq_1
def q168_1 : List AOper :=
  [⟨.move .take (.t 8), (some 51), none⟩,
    ⟨.move .look (.t 7), (some 52), none⟩,
    ⟨.call 170 [(.t 52, false)], (some 53), none⟩,
    ⟨.buildSl 102 2 [.int .u8 0, .slice .nil 0 1 []] [(0, 2, .p 53)], (some 54), none⟩,
    ⟨.append 102 2 32 false (.t 51) (.p 54), (some 55), none⟩,
    ⟨.assign (.t 55), (some 8), none⟩]
@[simp] def eq168_1 := id q168_1.eq_1
def q168_2 : List AOper :=
  [⟨.move .take (.t 8), (some 49), none⟩,
    ⟨.move .take (.p 9), (some 50), none⟩,
    ⟨.assign (.t 49), (some 2), none⟩,
    ⟨.assign (.p 50), (some 3), none⟩]
@[simp] def eq168_2 := id q168_2.eq_1
def q168_3 : List AOper :=
  [⟨.move .head (.p 9), (some 47), none⟩,
    ⟨.bin .neq 5 true (.p 47) (.c (.nilI)), (some 48), none⟩]
@[simp] def eq168_3 := id q168_3.eq_1
def q168_4 : List AOper :=
  [⟨.move .look (.t 7), (some 44), none⟩,
    ⟨.call 170 [(.t 44, false)], (some 45), none⟩,
    ⟨.call 67 [(.p 45, false)], (some 46), none⟩,
    ⟨.assign (.p 46), (some 9), none⟩]
@[simp] def eq168_4 := id q168_4.eq_1
def q168_5 : List AOper :=
  [⟨.move .take (.t 8), (some 39), none⟩,
    ⟨.move .look (.t 0), (some 40), none⟩,
    ⟨.move .look (.t 5), (some 41), none⟩,
    ⟨.call 166 [(.t 40, false), (.t 41, false)], (some 42), none⟩,
    ⟨.mkIface 239 (.p 42), (some 43), none⟩,
    ⟨.assign (.t 39), (some 2), none⟩,
    ⟨.assign (.p 43), (some 3), none⟩]
@[simp] def eq168_5 := id q168_5.eq_1
def q168_6 : List AOper :=
  [⟨.move .look (.p 6), (some 37), none⟩,
    ⟨.un .not (.p 37), (some 38), none⟩]
@[simp] def eq168_6 := id q168_6.eq_1
def q168_7 : List AOper :=
  [⟨.move .look (.p 4), (some 32), none⟩,
    ⟨.move .head (.t 7), (some 33), none⟩,
    ⟨.len false (.p 33), (some 34), none⟩,
    ⟨.convInt .i32 (.p 34), (some 35), none⟩,
    ⟨.bin .sub 1 false (.p 32) (.p 35), (some 36), none⟩,
    ⟨.assign (.p 36), (some 4), none⟩]
@[simp] def eq168_7 := id q168_7.eq_1
def q168_8 : List AOper :=
  [⟨.move .look (.t 5), (some 27), none⟩,
    ⟨.call 64 [(.t 27, false)], (some 28), none⟩,
    ⟨.move .look (.t 28), (some 26), none⟩,
    ⟨.extract 26 0, (some 29), none⟩,
    ⟨.extract 26 1, (some 30), none⟩,
    ⟨.extract 26 2, (some 31), none⟩,
    ⟨.assign (.t 29), (some 7), none⟩,
    ⟨.assign (.t 30), (some 5), none⟩,
    ⟨.assign (.p 31), (some 6), none⟩]
@[simp] def eq168_8 := id q168_8.eq_1
def q168_9 : List AOper :=
  [⟨.move .look (.p 4), (some 24), none⟩,
    ⟨.bin .gtr 1 true (.p 24) (.c (.int .i32 1)), (some 25), none⟩]
@[simp] def eq168_9 := id q168_9.eq_1
def q168_10 : List AOper :=
  [⟨.move .look (.p 4), (some 22), none⟩,
    ⟨.bin .sub 1 true (.p 22) (.c (.int .i32 4)), (some 23), none⟩,
    ⟨.assign (.p 23), (some 4), none⟩]
@[simp] def eq168_10 := id q168_10.eq_1
def q168_11 : List AOper :=
  [⟨.move .look (.t 0), (some 18), none⟩,
    ⟨.move .look (.t 5), (some 19), none⟩,
    ⟨.call 166 [(.t 18, false), (.t 19, false)], (some 20), none⟩,
    ⟨.mkIface 239 (.p 20), (some 21), none⟩,
    ⟨.assign (.c (.slice .nil 0 1 [])), (some 2), none⟩,
    ⟨.assign (.p 21), (some 3), none⟩]
@[simp] def eq168_11 := id q168_11.eq_1
def q168_12 : List AOper :=
  [⟨.move .look (.p 6), (some 16), none⟩,
    ⟨.un .not (.p 16), (some 17), none⟩]
@[simp] def eq168_12 := id q168_12.eq_1
def q168_13 : List AOper :=
  [⟨.move .look (.t 0), (some 11), none⟩,
    ⟨.call 54 [(.t 11, false)], (some 12), none⟩,
    ⟨.move .look (.t 12), (some 10), none⟩,
    ⟨.extract 10 0, (some 13), none⟩,
    ⟨.extract 10 1, (some 14), none⟩,
    ⟨.extract 10 2, (some 15), none⟩,
    ⟨.assign (.p 13), (some 4), none⟩,
    ⟨.assign (.t 14), (some 5), none⟩,
    ⟨.assign (.p 15), (some 6), none⟩]
@[simp] def eq168_13 := id q168_13.eq_1
def q168_14 : List AOper :=
  [⟨.assign (.c (.slice .nil 0 1 [])), (some 2), none⟩,
    ⟨.assign (.c (.nilI)), (some 3), none⟩]
@[simp] def eq168_14 := id q168_14.eq_1
def k168_0 : ACode :=
  .ops q168_0 .ret
@[simp] theorem xk168_0 : GoC fns Q s k168_0 st ↔ GoO fns Q s q168_0 .ret st := goC_ops
def k168_1 : ACode :=
  .ops q168_1 .skip
@[simp] theorem xk168_1 : GoC fns Q s k168_1 st ↔ GoO fns Q s q168_1 .skip st := goC_ops
def k168_2 : ACode :=
  .ops q168_2 .ret
@[simp] theorem xk168_2 : GoC fns Q s k168_2 st ↔ GoO fns Q s q168_2 .ret st := goC_ops
def k168_3 : ACode :=
  .cond (.p 48) k168_2 .skip
@[simp] theorem xk168_3 : GoC fns Q s k168_3 st ↔ GB fns Q s (peek st (.p 48)) k168_2 .skip st := goC_cond
def k168_4 : ACode :=
  .seq k168_3 k168_1
@[simp] theorem xk168_4 : GoC fns Q s k168_4 st ↔ GoC fns Q (.sq k168_1 :: s) k168_3 st := goC_seq
def k168_5 : ACode :=
  .ops q168_3 k168_4
@[simp] theorem xk168_5 : GoC fns Q s k168_5 st ↔ GoO fns Q s q168_3 k168_4 st := goC_ops
def k168_6 : ACode :=
  .ops q168_4 k168_5
@[simp] theorem xk168_6 : GoC fns Q s k168_6 st ↔ GoO fns Q s q168_4 k168_5 st := goC_ops
def k168_7 : ACode :=
  .ops q168_5 .ret
@[simp] theorem xk168_7 : GoC fns Q s k168_7 st ↔ GoO fns Q s q168_5 .ret st := goC_ops
def k168_8 : ACode :=
  .cond (.p 38) k168_7 .skip
@[simp] theorem xk168_8 : GoC fns Q s k168_8 st ↔ GB fns Q s (peek st (.p 38)) k168_7 .skip st := goC_cond
def k168_9 : ACode :=
  .seq k168_8 k168_6
@[simp] theorem xk168_9 : GoC fns Q s k168_9 st ↔ GoC fns Q (.sq k168_6 :: s) k168_8 st := goC_seq
def k168_10 : ACode :=
  .ops q168_6 k168_9
@[simp] theorem xk168_10 : GoC fns Q s k168_10 st ↔ GoO fns Q s q168_6 k168_9 st := goC_ops
def k168_11 : ACode :=
  .ops q168_7 k168_10
@[simp] theorem xk168_11 : GoC fns Q s k168_11 st ↔ GoO fns Q s q168_7 k168_10 st := goC_ops
def k168_12 : ACode :=
  .ops q168_8 k168_11
@[simp] theorem xk168_12 : GoC fns Q s k168_12 st ↔ GoO fns Q s q168_8 k168_11 st := goC_ops
def k168_13 : ACode :=
  .block 1 k168_12
@[simp] theorem xk168_13 : GoC fns Q s k168_13 st ↔ GoC fns Q (.bl 1 :: s) k168_12 st := goC_block
def k168_14 : ACode :=
  .cond (.p 25) .skip (.exit 0)
@[simp] theorem xk168_14 : GoC fns Q s k168_14 st ↔ GB fns Q s (peek st (.p 25)) .skip (.exit 0) st := goC_cond
def k168_15 : ACode :=
  .seq k168_14 k168_13
@[simp] theorem xk168_15 : GoC fns Q s k168_15 st ↔ GoC fns Q (.sq k168_13 :: s) k168_14 st := goC_seq
def k168_16 : ACode :=
  .ops q168_9 k168_15
@[simp] theorem xk168_16 : GoC fns Q s k168_16 st ↔ GoO fns Q s q168_9 k168_15 st := goC_ops
def lc168_0 : ACode :=
  k168_16
@[simp] theorem xlc168_0 : GoC fns Q s lc168_0 st ↔ GoC fns Q s k168_16 st := Iff.rfl
def k168_18 : ACode :=
  .loop lc168_0
@[simp] theorem xk168_18 : GoC fns Q s k168_18 st ↔ (LoopR fns lc168_0 st fun r => GoE fns Q s r.1 r.2) := goC_loop
def k168_19 : ACode :=
  .block 0 k168_18
@[simp] theorem xk168_19 : GoC fns Q s k168_19 st ↔ GoC fns Q (.bl 0 :: s) k168_18 st := goC_block
def k168_20 : ACode :=
  .seq k168_19 k168_0
@[simp] theorem xk168_20 : GoC fns Q s k168_20 st ↔ GoC fns Q (.sq k168_0 :: s) k168_19 st := goC_seq
def k168_21 : ACode :=
  .ops [⟨.assign (.c (.slice .nil 0 1 [])), (some 8), none⟩] k168_20
@[simp] theorem xk168_21 : GoC fns Q s k168_21 st ↔ GoO fns Q s [⟨.assign (.c (.slice .nil 0 1 [])), (some 8), none⟩] k168_20 st := goC_ops
def k168_22 : ACode :=
  .ops [⟨.assign (.c (.slice .nil 0 1 [])), (some 7), none⟩] k168_21
@[simp] theorem xk168_22 : GoC fns Q s k168_22 st ↔ GoO fns Q s [⟨.assign (.c (.slice .nil 0 1 [])), (some 7), none⟩] k168_21 st := goC_ops
def k168_23 : ACode :=
  .ops q168_10 k168_22
@[simp] theorem xk168_23 : GoC fns Q s k168_23 st ↔ GoO fns Q s q168_10 k168_22 st := goC_ops
def k168_24 : ACode :=
  .ops q168_11 .ret
@[simp] theorem xk168_24 : GoC fns Q s k168_24 st ↔ GoO fns Q s q168_11 .ret st := goC_ops
def k168_25 : ACode :=
  .cond (.p 17) k168_24 .skip
@[simp] theorem xk168_25 : GoC fns Q s k168_25 st ↔ GB fns Q s (peek st (.p 17)) k168_24 .skip st := goC_cond
def k168_26 : ACode :=
  .seq k168_25 k168_23
@[simp] theorem xk168_26 : GoC fns Q s k168_26 st ↔ GoC fns Q (.sq k168_23 :: s) k168_25 st := goC_seq
def k168_27 : ACode :=
  .ops q168_12 k168_26
@[simp] theorem xk168_27 : GoC fns Q s k168_27 st ↔ GoO fns Q s q168_12 k168_26 st := goC_ops
def k168_28 : ACode :=
  .ops q168_13 k168_27
@[simp] theorem xk168_28 : GoC fns Q s k168_28 st ↔ GoO fns Q s q168_13 k168_27 st := goC_ops
def k168_29 : ACode :=
  .ops q168_14 k168_28
@[simp] theorem xk168_29 : GoC fns Q s k168_29 st ↔ GoO fns Q s q168_14 k168_28 st := goC_ops
def af168 : AFunc := ⟨57, k168_29, [.tmp 2, .tmp 3], fun _ _ => none⟩

theorem ok168 : ∃ hs, pFunc Tryz.prog sg hs Tryz.f168 = some af168 := ⟨fun i => 0, by kernel_rfl⟩
def q73_0 : List AOper :=
  [⟨.move .look (.t 0), (some 4), none⟩,
    ⟨.call 168 [(.t 4, false)], (some 5), none⟩,
    ⟨.extract 5 0, (some 6), none⟩,
    ⟨.extract 5 1, (some 7), none⟩,
    ⟨.assign (.t 6), (some 2), none⟩,
    ⟨.assign (.p 7), (some 3), none⟩]
@[simp] def eq73_0 := id q73_0.eq_1
def q73_1 : List AOper :=
  [⟨.assign (.c (.slice .nil 0 1 [])), (some 2), none⟩,
    ⟨.assign (.c (.nilI)), (some 3), none⟩]
@[simp] def eq73_1 := id q73_1.eq_1
def k73_0 : ACode :=
  .ops q73_0 .ret
@[simp] theorem xk73_0 : GoC fns Q s k73_0 st ↔ GoO fns Q s q73_0 .ret st := goC_ops
def k73_1 : ACode :=
  .ops q73_1 k73_0
@[simp] theorem xk73_1 : GoC fns Q s k73_1 st ↔ GoO fns Q s q73_1 k73_0 st := goC_ops
def af73 : AFunc := ⟨8, k73_1, [.tmp 2, .tmp 3], fun _ _ => none⟩

theorem ok73 : ∃ hs, pFunc Tryz.prog sg hs Tryz.f73 = some af73 := ⟨fun i => 0, by kernel_rfl⟩
def q173_0 : List AOper :=
  [⟨.move .look (.p 0), (some 3), none⟩,
    ⟨.build [.str []] [(0, 1, .p 3)], (some 4), none⟩,
    ⟨.boxobj (.p 4), (some 5), none⟩,
    ⟨.mkIface 298 (.p 5), (some 6), none⟩,
    ⟨.assign (.p 6), (some 2), none⟩]
@[simp] def eq173_0 := id q173_0.eq_1
def k173_0 : ACode :=
  .ops q173_0 .ret
@[simp] theorem xk173_0 : GoC fns Q s k173_0 st ↔ GoO fns Q s q173_0 .ret st := goC_ops
def k173_1 : ACode :=
  .ops [⟨.assign (.c (.nilI)), (some 2), none⟩] k173_0
@[simp] theorem xk173_1 : GoC fns Q s k173_1 st ↔ GoO fns Q s [⟨.assign (.c (.nilI)), (some 2), none⟩] k173_0 st := goC_ops
def af173 : AFunc := ⟨7, k173_1, [.tmp 2], fun _ _ => none⟩

theorem ok173 : ∃ hs, pFunc Tryz.prog sg hs Tryz.f173 = some af173 := ⟨fun i => if i == 5 then 1 else 0, by kernel_rfl⟩
def q89_0 : List AOper :=
  [⟨.move .take (.t 6), (some 49), none⟩,
    ⟨.assign (.t 49), (some 2), none⟩,
    ⟨.assign (.c (.nilI)), (some 3), none⟩]
@[simp] def eq89_0 := id q89_0.eq_1
def q89_1 : List AOper :=
  [⟨.bin .add 1 true (.p 35) (.c (.int .i64 1)), (some 48), none⟩,
    ⟨.move .look (.p 48), (some 35), none⟩]
@[simp] def eq89_1 := id q89_1.eq_1
def q89_2 : List AOper :=
  [⟨.move .take (.t 6), (some 43), none⟩,
    ⟨.fieldAddr 1 (.p 8), (some 44), none⟩,
    ⟨.load .look false 1 (.p 44), (some 45), none⟩,
    ⟨.buildSl 134 1 [.slice .nil 0 1 []] [(0, 1, .t 45)], (some 46), none⟩,
    ⟨.append 134 1 24 false (.t 43) (.p 46), (some 47), none⟩,
    ⟨.assign (.t 47), (some 6), none⟩]
@[simp] def eq89_2 := id q89_2.eq_1
def q89_3 : List AOper :=
  [⟨.hcall 173 [(.c (.str [105, 110, 118, 97, 108, 105, 100, 32, 68, 111, 99, 117, 109, 101, 110, 116, 83, 101, 113, 117, 101, 110, 99, 101, 58, 32, 97, 32, 110, 111, 110, 45, 100, 111, 99, 117, 109, 101, 110, 116, 32, 118, 97, 108, 117, 101, 32, 119, 97, 115, 32, 102, 111, 117, 110, 100, 32, 105, 110, 32, 115, 101, 113, 117, 101, 110, 99, 101]), false)], (some 42), none⟩,
    ⟨.assign (.c (.slice .nil 0 1 [])), (some 2), none⟩,
    ⟨.assign (.p 42), (some 3), none⟩]
@[simp] def eq89_3 := id q89_3.eq_1
def q89_4 : List AOper :=
  [⟨.fieldAddr 0 (.p 8), (some 39), none⟩,
    ⟨.load .head false 1 (.p 39), (some 40), none⟩,
    ⟨.bin .neq 1 true (.p 40) (.c (.int .u8 3)), (some 41), none⟩]
@[simp] def eq89_4 := id q89_4.eq_1
def q89_5 : List AOper :=
  [⟨.indexAddr 2 (.t 33) (.p 35), (some 37), none⟩,
    ⟨.load .take true 2 (.p 37), (some 38), none⟩,
    ⟨.newbox 8 [.int .u8 0, .slice .nil 0 1 []], (some 8), none⟩,
    ⟨.store 2 (.p 8) (.p 38), none, none⟩]
@[simp] def eq89_5 := id q89_5.eq_1
def q89_6 : List AOper :=
  [⟨.move .look (.t 4), (some 33), none⟩,
    ⟨.len false (.p 33), (some 34), none⟩,
    ⟨.move .head (.c (.int .i64 0)), (some 35), none⟩]
@[simp] def eq89_6 := id q89_6.eq_1
def q89_7 : List AOper :=
  [⟨.move .head (.t 4), (some 30), none⟩,
    ⟨.len false (.p 30), (some 31), none⟩,
    ⟨.mkSl false 134 1 24 [.slice .nil 0 1 []] (.c (.int .i64 0)) (.p 31), (some 32), none⟩,
    ⟨.assign (.t 32), (some 6), none⟩]
@[simp] def eq89_7 := id q89_7.eq_1
def q89_8 : List AOper :=
  [⟨.load .take false 1 (.c (.gl 4)), (some 29), none⟩,
    ⟨.assign (.c (.slice .nil 0 1 [])), (some 2), none⟩,
    ⟨.assign (.p 29), (some 3), none⟩]
@[simp] def eq89_8 := id q89_8.eq_1
def q89_9 : List AOper :=
  [⟨.move .head (.p 5), (some 27), none⟩,
    ⟨.bin .neq 5 true (.p 27) (.c (.nilI)), (some 28), none⟩]
@[simp] def eq89_9 := id q89_9.eq_1
def q89_10 : List AOper :=
  [⟨.move .look (.p 0), (some 20), none⟩,
    ⟨.nilCheck (.p 20), (some 21), none⟩,
    ⟨.fieldAddr 0 (.p 21), (some 22), none⟩,
    ⟨.load .look false 1 (.p 22), (some 23), none⟩,
    ⟨.call 73 [(.t 23, false)], (some 24), none⟩,
    ⟨.move .look (.t 24), (some 19), none⟩,
    ⟨.extract 19 0, (some 25), none⟩,
    ⟨.extract 19 1, (some 26), none⟩,
    ⟨.assign (.t 25), (some 4), none⟩,
    ⟨.assign (.p 26), (some 5), none⟩]
@[simp] def eq89_10 := id q89_10.eq_1
def q89_11 : List AOper :=
  [⟨.assign (.c (.slice .nil 0 1 [])), (some 2), none⟩,
    ⟨.assign (.c (.nilI)), (some 3), none⟩]
@[simp] def eq89_11 := id q89_11.eq_1
def q89_12 : List AOper :=
  [⟨.move .head (.p 0), (some 9), none⟩,
    ⟨.bin .eql 4 true (.p 9) (.c (.nilptr)), (some 10), none⟩,
    ⟨.move .look (.p 10), (some 11), none⟩,
    ⟨.move .look (.p 0), (some 12), (some (11, false))⟩,
    ⟨.nilCheck (.p 12), (some 13), (some (11, false))⟩,
    ⟨.fieldAddr 0 (.p 13), (some 14), (some (11, false))⟩,
    ⟨.load .head false 1 (.p 14), (some 15), (some (11, false))⟩,
    ⟨.len false (.p 15), (some 16), (some (11, false))⟩,
    ⟨.bin .eql 1 true (.p 16) (.c (.int .i64 0)), (some 17), (some (11, false))⟩,
    ⟨.pick (.p 11) (.c (.bool true)) (.p 17), (some 18), none⟩]
@[simp] def eq89_12 := id q89_12.eq_1
def q89_13 : List AOper :=
  [⟨.assign (.c (.slice .nil 0 1 [])), (some 2), none⟩,
    ⟨.assign (.c (.nilI)), (some 3), none⟩]
@[simp] def eq89_13 := id q89_13.eq_1
def k89_0 : ACode :=
  .ops q89_0 .ret
@[simp] theorem xk89_0 : GoC fns Q s k89_0 st ↔ GoO fns Q s q89_0 .ret st := goC_ops
def k89_1 : ACode :=
  .ops q89_1 .skip
@[simp] theorem xk89_1 : GoC fns Q s k89_1 st ↔ GoO fns Q s q89_1 .skip st := goC_ops
def k89_2 : ACode :=
  .ops q89_2 .skip
@[simp] theorem xk89_2 : GoC fns Q s k89_2 st ↔ GoO fns Q s q89_2 .skip st := goC_ops
def k89_3 : ACode :=
  .ops q89_3 .ret
@[simp] theorem xk89_3 : GoC fns Q s k89_3 st ↔ GoO fns Q s q89_3 .ret st := goC_ops
def k89_4 : ACode :=
  .cond (.p 41) k89_3 .skip
@[simp] theorem xk89_4 : GoC fns Q s k89_4 st ↔ GB fns Q s (peek st (.p 41)) k89_3 .skip st := goC_cond
def k89_5 : ACode :=
  .seq k89_4 k89_2
@[simp] theorem xk89_5 : GoC fns Q s k89_5 st ↔ GoC fns Q (.sq k89_2 :: s) k89_4 st := goC_seq
def k89_6 : ACode :=
  .ops q89_4 k89_5
@[simp] theorem xk89_6 : GoC fns Q s k89_6 st ↔ GoO fns Q s q89_4 k89_5 st := goC_ops
def k89_7 : ACode :=
  .ops q89_5 k89_6
@[simp] theorem xk89_7 : GoC fns Q s k89_7 st ↔ GoO fns Q s q89_5 k89_6 st := goC_ops
def k89_8 : ACode :=
  .block 1 k89_7
@[simp] theorem xk89_8 : GoC fns Q s k89_8 st ↔ GoC fns Q (.bl 1 :: s) k89_7 st := goC_block
def k89_9 : ACode :=
  .seq k89_8 k89_1
@[simp] theorem xk89_9 : GoC fns Q s k89_9 st ↔ GoC fns Q (.sq k89_1 :: s) k89_8 st := goC_seq
def k89_10 : ACode :=
  .cond (.p 36) .skip (.exit 0)
@[simp] theorem xk89_10 : GoC fns Q s k89_10 st ↔ GB fns Q s (peek st (.p 36)) .skip (.exit 0) st := goC_cond
def k89_11 : ACode :=
  .seq k89_10 k89_9
@[simp] theorem xk89_11 : GoC fns Q s k89_11 st ↔ GoC fns Q (.sq k89_9 :: s) k89_10 st := goC_seq
def k89_12 : ACode :=
  .ops [⟨.bin .lss 1 false (.p 35) (.p 34), (some 36), none⟩] k89_11
@[simp] theorem xk89_12 : GoC fns Q s k89_12 st ↔ GoO fns Q s [⟨.bin .lss 1 false (.p 35) (.p 34), (some 36), none⟩] k89_11 st := goC_ops
def lc89_0 : ACode :=
  k89_12
@[simp] theorem xlc89_0 : GoC fns Q s lc89_0 st ↔ GoC fns Q s k89_12 st := Iff.rfl
def k89_14 : ACode :=
  .loop lc89_0
@[simp] theorem xk89_14 : GoC fns Q s k89_14 st ↔ (LoopR fns lc89_0 st fun r => GoE fns Q s r.1 r.2) := goC_loop
def k89_15 : ACode :=
  .block 0 k89_14
@[simp] theorem xk89_15 : GoC fns Q s k89_15 st ↔ GoC fns Q (.bl 0 :: s) k89_14 st := goC_block
def k89_16 : ACode :=
  .seq k89_15 k89_0
@[simp] theorem xk89_16 : GoC fns Q s k89_16 st ↔ GoC fns Q (.sq k89_0 :: s) k89_15 st := goC_seq
def k89_17 : ACode :=
  .ops q89_6 k89_16
@[simp] theorem xk89_17 : GoC fns Q s k89_17 st ↔ GoO fns Q s q89_6 k89_16 st := goC_ops
def k89_18 : ACode :=
  .ops q89_7 k89_17
@[simp] theorem xk89_18 : GoC fns Q s k89_18 st ↔ GoO fns Q s q89_7 k89_17 st := goC_ops
def k89_19 : ACode :=
  .ops q89_8 .ret
@[simp] theorem xk89_19 : GoC fns Q s k89_19 st ↔ GoO fns Q s q89_8 .ret st := goC_ops
def k89_20 : ACode :=
  .cond (.p 28) k89_19 .skip
@[simp] theorem xk89_20 : GoC fns Q s k89_20 st ↔ GB fns Q s (peek st (.p 28)) k89_19 .skip st := goC_cond
def k89_21 : ACode :=
  .seq k89_20 k89_18
@[simp] theorem xk89_21 : GoC fns Q s k89_21 st ↔ GoC fns Q (.sq k89_18 :: s) k89_20 st := goC_seq
def k89_22 : ACode :=
  .ops q89_9 k89_21
@[simp] theorem xk89_22 : GoC fns Q s k89_22 st ↔ GoO fns Q s q89_9 k89_21 st := goC_ops
def k89_23 : ACode :=
  .ops q89_10 k89_22
@[simp] theorem xk89_23 : GoC fns Q s k89_23 st ↔ GoO fns Q s q89_10 k89_22 st := goC_ops
def k89_24 : ACode :=
  .ops q89_11 .ret
@[simp] theorem xk89_24 : GoC fns Q s k89_24 st ↔ GoO fns Q s q89_11 .ret st := goC_ops
def k89_25 : ACode :=
  .cond (.p 18) k89_24 .skip
@[simp] theorem xk89_25 : GoC fns Q s k89_25 st ↔ GB fns Q s (peek st (.p 18)) k89_24 .skip st := goC_cond
def k89_26 : ACode :=
  .seq k89_25 k89_23
@[simp] theorem xk89_26 : GoC fns Q s k89_26 st ↔ GoC fns Q (.sq k89_23 :: s) k89_25 st := goC_seq
def k89_27 : ACode :=
  .ops q89_12 k89_26
@[simp] theorem xk89_27 : GoC fns Q s k89_27 st ↔ GoO fns Q s q89_12 k89_26 st := goC_ops
def k89_28 : ACode :=
  .ops q89_13 k89_27
@[simp] theorem xk89_28 : GoC fns Q s k89_28 st ↔ GoO fns Q s q89_13 k89_27 st := goC_ops
def af89 : AFunc := ⟨50, k89_28, [.tmp 2, .tmp 3], fun _ _ => none⟩

theorem ok89 : ∃ hs, pFunc Tryz.prog sg hs Tryz.f89 = some af89 := ⟨fun i => if i == 33 then 5 else 0, by kernel_rfl⟩
def q34_0 : List AOper :=
  [⟨.move .take (.t 6), (some 96), none⟩,
    ⟨.assign (.t 96), (some 4), none⟩]
@[simp] def eq34_0 := id q34_0.eq_1
def q34_1 : List AOper :=
  [⟨.bin .add 1 true (.p 21) (.c (.int .i64 1)), (some 95), none⟩,
    ⟨.move .look (.p 95), (some 21), none⟩]
@[simp] def eq34_1 := id q34_1.eq_1
def q34_2 : List AOper :=
  [⟨.move .take (.t 6), (some 91), none⟩,
    ⟨.load .look true 13 (.p 9), (some 92), none⟩,
    ⟨.buildSl 74 13 [.int .i64 0, .str [], .int .i64 0, .str [], .str [], .int .i64 0, .int .u64 0, .int .u64 0, .slice .nil 0 1 [], .slice .nil 0 1 [], .int .i64 0, .int .i64 0, .slice .nil 0 1 []] [(0, 13, .p 92)], (some 93), none⟩,
    ⟨.append 74 13 176 false (.t 91) (.p 93), (some 94), none⟩,
    ⟨.assign (.t 94), (some 6), none⟩]
@[simp] def eq34_2 := id q34_2.eq_1
def q34_3 : List AOper :=
  [⟨.move .look (.p 10), (some 40), none⟩,
    ⟨.nilCheck (.p 40), (some 41), none⟩,
    ⟨.fieldAddr 0 (.p 41), (some 42), none⟩,
    ⟨.load .look false 1 (.p 42), (some 43), none⟩,
    ⟨.convInt .i64 (.p 43), (some 44), none⟩,
    ⟨.move .look (.p 10), (some 45), none⟩,
    ⟨.nilCheck (.p 45), (some 46), none⟩,
    ⟨.fieldAddr 1 (.p 46), (some 47), none⟩,
    ⟨.load .look false 1 (.p 47), (some 48), none⟩,
    ⟨.call 55 [(.t 48, false)], (some 49), none⟩,
    ⟨.build [.int .i64 0, .str [], .str [], .int .i64 0, .int .u64 0, .int .u64 0, .slice .nil 0 1 [], .slice .nil 0 1 []] [(0, 1, .p 44), (6, 1, .t 49)], (some 50), none⟩,
    ⟨.fieldAddr 2 (.p 9), (some 51), none⟩,
    ⟨.store 8 (.p 51) (.p 50), none, none⟩]
@[simp] def eq34_3 := id q34_3.eq_1
def q34_4 : List AOper :=
  [⟨.move .head (.p 11), (some 38), none⟩,
    ⟨.bin .eql 5 true (.p 38) (.c (.nilI)), (some 39), none⟩]
@[simp] def eq34_4 := id q34_4.eq_1
def q34_5 : List AOper :=
  [⟨.move .look (.p 11), (some 35), none⟩,
    ⟨.hcall 65 [(.p 35, false)], (some 36), none⟩,
    ⟨.fieldAddr 10 (.p 9), (some 37), none⟩,
    ⟨.store 1 (.p 37) (.p 36), none, none⟩]
@[simp] def eq34_5 := id q34_5.eq_1
def q34_6 : List AOper :=
  [⟨.move .look (.p 5), (some 31), none⟩,
    ⟨.hcall 84 [(.p 31, false)], (some 32), none⟩,
    ⟨.move .look (.t 32), (some 30), none⟩,
    ⟨.extract 30 0, (some 33), none⟩,
    ⟨.extract 30 1, (some 34), none⟩,
    ⟨.assign (.p 33), (some 10), none⟩,
    ⟨.assign (.p 34), (some 11), none⟩]
@[simp] def eq34_6 := id q34_6.eq_1
def q34_7 : List AOper :=
  [⟨.move .look (.p 5), (some 54), none⟩,
    ⟨.hcall 85 [(.p 54, false)], (some 55), none⟩]
@[simp] def eq34_7 := id q34_7.eq_1
def q34_8 : List AOper :=
  [⟨.move .look (.p 5), (some 58), none⟩,
    ⟨.hcall 86 [(.p 58, false)], (some 59), none⟩,
    ⟨.fieldAddr 11 (.p 9), (some 60), none⟩,
    ⟨.store 1 (.p 60) (.p 59), none, none⟩]
@[simp] def eq34_8 := id q34_8.eq_1
def q34_9 : List AOper :=
  [⟨.move .look (.p 5), (some 63), none⟩,
    ⟨.hcall 88 [(.p 63, false)], (some 64), none⟩,
    ⟨.call 87 [(.p 64, false)], (some 65), none⟩,
    ⟨.fieldAddr 11 (.p 9), (some 66), none⟩,
    ⟨.store 1 (.p 66) (.p 65), none, none⟩]
@[simp] def eq34_9 := id q34_9.eq_1
def q34_10 : List AOper :=
  [⟨.bin .add 1 true (.p 79) (.c (.int .i64 1)), (some 90), none⟩,
    ⟨.move .look (.p 90), (some 79), none⟩]
@[simp] def eq34_10 := id q34_10.eq_1
def q34_11 : List AOper :=
  [⟨.fieldAddr 12 (.p 9), (some 83), none⟩,
    ⟨.load .take false 1 (.p 83), (some 84), none⟩,
    ⟨.move .look (.t 15), (some 85), none⟩,
    ⟨.call 55 [(.t 85, false)], (some 86), none⟩,
    ⟨.buildSl 22 1 [.slice .nil 0 1 []] [(0, 1, .t 86)], (some 87), none⟩,
    ⟨.append 22 1 24 false (.t 84) (.p 87), (some 88), none⟩,
    ⟨.fieldAddr 12 (.p 9), (some 89), none⟩,
    ⟨.store 1 (.p 89) (.t 88), none, none⟩]
@[simp] def eq34_11 := id q34_11.eq_1
def q34_12 : List AOper :=
  [⟨.indexAddr 1 (.t 77) (.p 79), (some 81), none⟩,
    ⟨.load .take false 1 (.p 81), (some 82), none⟩,
    ⟨.assign (.t 82), (some 15), none⟩]
@[simp] def eq34_12 := id q34_12.eq_1
def q34_13 : List AOper :=
  [⟨.move .look (.t 12), (some 77), none⟩,
    ⟨.len false (.p 77), (some 78), none⟩,
    ⟨.move .head (.c (.int .i64 0)), (some 79), none⟩]
@[simp] def eq34_13 := id q34_13.eq_1
def q34_14 : List AOper :=
  [⟨.move .look (.p 13), (some 74), none⟩,
    ⟨.hcall 65 [(.p 74, false)], (some 75), none⟩,
    ⟨.fieldAddr 10 (.p 9), (some 76), none⟩,
    ⟨.store 1 (.p 76) (.p 75), none, none⟩]
@[simp] def eq34_14 := id q34_14.eq_1
def q34_15 : List AOper :=
  [⟨.move .look (.p 5), (some 70), none⟩,
    ⟨.hcall 89 [(.p 70, false)], (some 71), none⟩,
    ⟨.move .look (.t 71), (some 69), none⟩,
    ⟨.extract 69 0, (some 72), none⟩,
    ⟨.extract 69 1, (some 73), none⟩,
    ⟨.assign (.t 72), (some 12), none⟩,
    ⟨.assign (.p 73), (some 13), none⟩]
@[simp] def eq34_15 := id q34_15.eq_1
def q34_16 : List AOper :=
  [⟨.bin .eql 1 true (.p 27) (.c (.int .i64 4)), (some 68), none⟩,
    ⟨.assign (.p 68), (some 67), none⟩]
@[simp] def eq34_16 := id q34_16.eq_1
def q34_17 : List AOper :=
  [⟨.bin .eql 1 true (.p 27) (.c (.int .i64 3)), (some 62), none⟩,
    ⟨.assign (.p 62), (some 61), none⟩]
@[simp] def eq34_17 := id q34_17.eq_1
def q34_18 : List AOper :=
  [⟨.bin .eql 1 true (.p 27) (.c (.int .i64 2)), (some 57), none⟩,
    ⟨.assign (.p 57), (some 56), none⟩]
@[simp] def eq34_18 := id q34_18.eq_1
def q34_19 : List AOper :=
  [⟨.bin .eql 1 true (.p 27) (.c (.int .i64 1)), (some 53), none⟩,
    ⟨.assign (.p 53), (some 52), none⟩]
@[simp] def eq34_19 := id q34_19.eq_1
def q34_20 : List AOper :=
  [⟨.bin .eql 1 true (.p 27) (.c (.int .i64 0)), (some 29), none⟩,
    ⟨.assign (.p 29), (some 28), none⟩]
@[simp] def eq34_20 := id q34_20.eq_1
def q34_21 : List AOper :=
  [⟨.move .look (.p 8), (some 25), none⟩,
    ⟨.build [.int .i64 0, .str [], .int .i64 0, .str [], .str [], .int .i64 0, .int .u64 0, .int .u64 0, .slice .nil 0 1 [], .slice .nil 0 1 [], .int .i64 0, .int .i64 0, .slice .nil 0 1 []] [(0, 1, .p 25)], (some 26), none⟩,
    ⟨.newbox 9 [.int .i64 0, .str [], .int .i64 0, .str [], .str [], .int .i64 0, .int .u64 0, .int .u64 0, .slice .nil 0 1 [], .slice .nil 0 1 [], .int .i64 0, .int .i64 0, .slice .nil 0 1 []], (some 9), none⟩,
    ⟨.store 13 (.p 9) (.p 26), none, none⟩]
@[simp] def eq34_21 := id q34_21.eq_1
def q34_22 : List AOper :=
  [⟨.indexAddr 1 (.t 19) (.p 21), (some 23), none⟩,
    ⟨.load .take false 1 (.p 23), (some 24), none⟩,
    ⟨.assign (.p 24), (some 8), none⟩]
@[simp] def eq34_22 := id q34_22.eq_1
def q34_23 : List AOper :=
  [⟨.move .look (.t 1), (some 19), none⟩,
    ⟨.len false (.p 19), (some 20), none⟩,
    ⟨.move .head (.c (.int .i64 0)), (some 21), none⟩]
@[simp] def eq34_23 := id q34_23.eq_1
def q34_24 : List AOper :=
  [⟨.move .look (.t 0), (some 16), none⟩,
    ⟨.build [.slice .nil 0 1 [], .int .i64 0] [(0, 1, .t 16)], (some 17), none⟩,
    ⟨.boxobj (.p 17), (some 18), none⟩,
    ⟨.assign (.p 18), (some 5), none⟩]
@[simp] def eq34_24 := id q34_24.eq_1
def k34_0 : ACode :=
  .ops q34_0 .ret
@[simp] theorem xk34_0 : GoC fns Q s k34_0 st ↔ GoO fns Q s q34_0 .ret st := goC_ops
def k34_1 : ACode :=
  .ops q34_1 .skip
@[simp] theorem xk34_1 : GoC fns Q s k34_1 st ↔ GoO fns Q s q34_1 .skip st := goC_ops
def k34_2 : ACode :=
  .ops q34_2 .skip
@[simp] theorem xk34_2 : GoC fns Q s k34_2 st ↔ GoO fns Q s q34_2 .skip st := goC_ops
def k34_3 : ACode :=
  .ops q34_3 .skip
@[simp] theorem xk34_3 : GoC fns Q s k34_3 st ↔ GoO fns Q s q34_3 .skip st := goC_ops
def k34_4 : ACode :=
  .cond (.p 39) k34_3 .skip
@[simp] theorem xk34_4 : GoC fns Q s k34_4 st ↔ GB fns Q s (peek st (.p 39)) k34_3 .skip st := goC_cond
def k34_5 : ACode :=
  .ops q34_4 k34_4
@[simp] theorem xk34_5 : GoC fns Q s k34_5 st ↔ GoO fns Q s q34_4 k34_4 st := goC_ops
def k34_6 : ACode :=
  .ops q34_5 k34_5
@[simp] theorem xk34_6 : GoC fns Q s k34_6 st ↔ GoO fns Q s q34_5 k34_5 st := goC_ops
def k34_7 : ACode :=
  .ops q34_6 k34_6
@[simp] theorem xk34_7 : GoC fns Q s k34_7 st ↔ GoO fns Q s q34_6 k34_6 st := goC_ops
def k34_8 : ACode :=
  .ops q34_7 .skip
@[simp] theorem xk34_8 : GoC fns Q s k34_8 st ↔ GoO fns Q s q34_7 .skip st := goC_ops
def k34_9 : ACode :=
  .ops q34_8 .skip
@[simp] theorem xk34_9 : GoC fns Q s k34_9 st ↔ GoO fns Q s q34_8 .skip st := goC_ops
def k34_10 : ACode :=
  .ops q34_9 .skip
@[simp] theorem xk34_10 : GoC fns Q s k34_10 st ↔ GoO fns Q s q34_9 .skip st := goC_ops
def k34_11 : ACode :=
  .ops q34_10 .skip
@[simp] theorem xk34_11 : GoC fns Q s k34_11 st ↔ GoO fns Q s q34_10 .skip st := goC_ops
def k34_12 : ACode :=
  .ops q34_11 .skip
@[simp] theorem xk34_12 : GoC fns Q s k34_12 st ↔ GoO fns Q s q34_11 .skip st := goC_ops
def k34_13 : ACode :=
  .ops q34_12 k34_12
@[simp] theorem xk34_13 : GoC fns Q s k34_13 st ↔ GoO fns Q s q34_12 k34_12 st := goC_ops
def k34_14 : ACode :=
  .block 4 k34_13
@[simp] theorem xk34_14 : GoC fns Q s k34_14 st ↔ GoC fns Q (.bl 4 :: s) k34_13 st := goC_block
def k34_15 : ACode :=
  .seq k34_14 k34_11
@[simp] theorem xk34_15 : GoC fns Q s k34_15 st ↔ GoC fns Q (.sq k34_11 :: s) k34_14 st := goC_seq
def k34_16 : ACode :=
  .cond (.p 80) .skip (.exit 3)
@[simp] theorem xk34_16 : GoC fns Q s k34_16 st ↔ GB fns Q s (peek st (.p 80)) .skip (.exit 3) st := goC_cond
def k34_17 : ACode :=
  .seq k34_16 k34_15
@[simp] theorem xk34_17 : GoC fns Q s k34_17 st ↔ GoC fns Q (.sq k34_15 :: s) k34_16 st := goC_seq
def k34_18 : ACode :=
  .ops [⟨.bin .lss 1 false (.p 79) (.p 78), (some 80), none⟩] k34_17
@[simp] theorem xk34_18 : GoC fns Q s k34_18 st ↔ GoO fns Q s [⟨.bin .lss 1 false (.p 79) (.p 78), (some 80), none⟩] k34_17 st := goC_ops
def lc34_0 : ACode :=
  k34_18
@[simp] theorem xlc34_0 : GoC fns Q s lc34_0 st ↔ GoC fns Q s k34_18 st := Iff.rfl
def k34_20 : ACode :=
  .loop lc34_0
@[simp] theorem xk34_20 : GoC fns Q s k34_20 st ↔ (LoopR fns lc34_0 st fun r => GoE fns Q s r.1 r.2) := goC_loop
def k34_21 : ACode :=
  .block 3 k34_20
@[simp] theorem xk34_21 : GoC fns Q s k34_21 st ↔ GoC fns Q (.bl 3 :: s) k34_20 st := goC_block
def k34_22 : ACode :=
  .ops q34_13 k34_21
@[simp] theorem xk34_22 : GoC fns Q s k34_22 st ↔ GoO fns Q s q34_13 k34_21 st := goC_ops
def k34_23 : ACode :=
  .ops q34_14 k34_22
@[simp] theorem xk34_23 : GoC fns Q s k34_23 st ↔ GoO fns Q s q34_14 k34_22 st := goC_ops
def k34_24 : ACode :=
  .ops q34_15 k34_23
@[simp] theorem xk34_24 : GoC fns Q s k34_24 st ↔ GoO fns Q s q34_15 k34_23 st := goC_ops
def k34_25 : ACode :=
  .cond (.p 67) k34_24 .skip
@[simp] theorem xk34_25 : GoC fns Q s k34_25 st ↔ GB fns Q s (peek st (.p 67)) k34_24 .skip st := goC_cond
def k34_26 : ACode :=
  .ops q34_16 k34_25
@[simp] theorem xk34_26 : GoC fns Q s k34_26 st ↔ GoO fns Q s q34_16 k34_25 st := goC_ops
def k34_27 : ACode :=
  .cond (.p 61) k34_10 k34_26
@[simp] theorem xk34_27 : GoC fns Q s k34_27 st ↔ GB fns Q s (peek st (.p 61)) k34_10 k34_26 st := goC_cond
def k34_28 : ACode :=
  .ops q34_17 k34_27
@[simp] theorem xk34_28 : GoC fns Q s k34_28 st ↔ GoO fns Q s q34_17 k34_27 st := goC_ops
def k34_29 : ACode :=
  .cond (.p 56) k34_9 k34_28
@[simp] theorem xk34_29 : GoC fns Q s k34_29 st ↔ GB fns Q s (peek st (.p 56)) k34_9 k34_28 st := goC_cond
def k34_30 : ACode :=
  .ops q34_18 k34_29
@[simp] theorem xk34_30 : GoC fns Q s k34_30 st ↔ GoO fns Q s q34_18 k34_29 st := goC_ops
def k34_31 : ACode :=
  .cond (.p 52) k34_8 k34_30
@[simp] theorem xk34_31 : GoC fns Q s k34_31 st ↔ GB fns Q s (peek st (.p 52)) k34_8 k34_30 st := goC_cond
def k34_32 : ACode :=
  .ops q34_19 k34_31
@[simp] theorem xk34_32 : GoC fns Q s k34_32 st ↔ GoO fns Q s q34_19 k34_31 st := goC_ops
def k34_33 : ACode :=
  .cond (.p 28) k34_7 k34_32
@[simp] theorem xk34_33 : GoC fns Q s k34_33 st ↔ GB fns Q s (peek st (.p 28)) k34_7 k34_32 st := goC_cond
def k34_34 : ACode :=
  .ops q34_20 k34_33
@[simp] theorem xk34_34 : GoC fns Q s k34_34 st ↔ GoO fns Q s q34_20 k34_33 st := goC_ops
def k34_35 : ACode :=
  .block 2 k34_34
@[simp] theorem xk34_35 : GoC fns Q s k34_35 st ↔ GoC fns Q (.bl 2 :: s) k34_34 st := goC_block
def k34_36 : ACode :=
  .seq k34_35 k34_2
@[simp] theorem xk34_36 : GoC fns Q s k34_36 st ↔ GoC fns Q (.sq k34_2 :: s) k34_35 st := goC_seq
def k34_37 : ACode :=
  .ops [⟨.move .head (.p 8), (some 27), none⟩] k34_36
@[simp] theorem xk34_37 : GoC fns Q s k34_37 st ↔ GoO fns Q s [⟨.move .head (.p 8), (some 27), none⟩] k34_36 st := goC_ops
def k34_38 : ACode :=
  .ops q34_21 k34_37
@[simp] theorem xk34_38 : GoC fns Q s k34_38 st ↔ GoO fns Q s q34_21 k34_37 st := goC_ops
def k34_39 : ACode :=
  .ops q34_22 k34_38
@[simp] theorem xk34_39 : GoC fns Q s k34_39 st ↔ GoO fns Q s q34_22 k34_38 st := goC_ops
def k34_40 : ACode :=
  .block 1 k34_39
@[simp] theorem xk34_40 : GoC fns Q s k34_40 st ↔ GoC fns Q (.bl 1 :: s) k34_39 st := goC_block
def k34_41 : ACode :=
  .seq k34_40 k34_1
@[simp] theorem xk34_41 : GoC fns Q s k34_41 st ↔ GoC fns Q (.sq k34_1 :: s) k34_40 st := goC_seq
def k34_42 : ACode :=
  .cond (.p 22) .skip (.exit 0)
@[simp] theorem xk34_42 : GoC fns Q s k34_42 st ↔ GB fns Q s (peek st (.p 22)) .skip (.exit 0) st := goC_cond
def k34_43 : ACode :=
  .seq k34_42 k34_41
@[simp] theorem xk34_43 : GoC fns Q s k34_43 st ↔ GoC fns Q (.sq k34_41 :: s) k34_42 st := goC_seq
def k34_44 : ACode :=
  .ops [⟨.bin .lss 1 false (.p 21) (.p 20), (some 22), none⟩] k34_43
@[simp] theorem xk34_44 : GoC fns Q s k34_44 st ↔ GoO fns Q s [⟨.bin .lss 1 false (.p 21) (.p 20), (some 22), none⟩] k34_43 st := goC_ops
def lc34_1 : ACode :=
  k34_44
@[simp] theorem xlc34_1 : GoC fns Q s lc34_1 st ↔ GoC fns Q s k34_44 st := Iff.rfl
def k34_46 : ACode :=
  .loop lc34_1
@[simp] theorem xk34_46 : GoC fns Q s k34_46 st ↔ (LoopR fns lc34_1 st fun r => GoE fns Q s r.1 r.2) := goC_loop
def k34_47 : ACode :=
  .block 0 k34_46
@[simp] theorem xk34_47 : GoC fns Q s k34_47 st ↔ GoC fns Q (.bl 0 :: s) k34_46 st := goC_block
def k34_48 : ACode :=
  .seq k34_47 k34_0
@[simp] theorem xk34_48 : GoC fns Q s k34_48 st ↔ GoC fns Q (.sq k34_0 :: s) k34_47 st := goC_seq
def k34_49 : ACode :=
  .ops q34_23 k34_48
@[simp] theorem xk34_49 : GoC fns Q s k34_49 st ↔ GoO fns Q s q34_23 k34_48 st := goC_ops
def k34_50 : ACode :=
  .ops [⟨.assign (.c (.slice .nil 0 1 [])), (some 6), none⟩] k34_49
@[simp] theorem xk34_50 : GoC fns Q s k34_50 st ↔ GoO fns Q s [⟨.assign (.c (.slice .nil 0 1 [])), (some 6), none⟩] k34_49 st := goC_ops
def k34_51 : ACode :=
  .ops q34_24 k34_50
@[simp] theorem xk34_51 : GoC fns Q s k34_51 st ↔ GoO fns Q s q34_24 k34_50 st := goC_ops
def k34_52 : ACode :=
  .ops [⟨.assign (.c (.slice .nil 0 1 [])), (some 4), none⟩] k34_51
@[simp] theorem xk34_52 : GoC fns Q s k34_52 st ↔ GoO fns Q s [⟨.assign (.c (.slice .nil 0 1 [])), (some 4), none⟩] k34_51 st := goC_ops
def af34 : AFunc := ⟨97, k34_52, [.tmp 4], fun _ _ => none⟩

theorem ok34 : ∃ hs, pFunc Tryz.prog sg hs Tryz.f34 = some af34 := ⟨fun i => if i == 18 then 1 else if i == 19 then 5 else if i == 77 then 5 else 0, by kernel_rfl⟩
def q262_0 : List AOper :=
  [⟨.move .look (.p 4), (some 7), none⟩,
    ⟨.convInt .i32 (.p 7), (some 8), none⟩,
    ⟨.move .take (.t 0), (some 9), none⟩,
    ⟨.buildSl 5 1 [.int .u8 0, .int .u8 0, .int .u8 0, .int .u8 0] [(0, 1, .c (.int .u8 0)), (1, 1, .c (.int .u8 0)), (2, 1, .c (.int .u8 0)), (3, 1, .c (.int .u8 0))], (some 10), none⟩,
    ⟨.append 5 1 1 false (.t 9) (.p 10), (some 11), none⟩,
    ⟨.assign (.p 8), (some 2), none⟩,
    ⟨.assign (.t 11), (some 3), none⟩]
@[simp] def eq262_0 := id q262_0.eq_1
def q262_1 : List AOper :=
  [⟨.move .head (.t 0), (some 5), none⟩,
    ⟨.len false (.p 5), (some 6), none⟩,
    ⟨.assign (.p 6), (some 4), none⟩]
@[simp] def eq262_1 := id q262_1.eq_1
def q262_2 : List AOper :=
  [⟨.assign (.c (.int .i32 0)), (some 2), none⟩,
    ⟨.assign (.c (.slice .nil 0 1 [])), (some 3), none⟩]
@[simp] def eq262_2 := id q262_2.eq_1
def k262_0 : ACode :=
  .ops q262_0 .ret
@[simp] theorem xk262_0 : GoC fns Q s k262_0 st ↔ GoO fns Q s q262_0 .ret st := goC_ops
def k262_1 : ACode :=
  .ops q262_1 k262_0
@[simp] theorem xk262_1 : GoC fns Q s k262_1 st ↔ GoO fns Q s q262_1 k262_0 st := goC_ops
def k262_2 : ACode :=
  .ops q262_2 k262_1
@[simp] theorem xk262_2 : GoC fns Q s k262_2 st ↔ GoO fns Q s q262_2 k262_1 st := goC_ops
def af262 : AFunc := ⟨12, k262_2, [.tmp 2, .tmp 3], fun _ _ => none⟩

theorem ok262 : ∃ hs, pFunc Tryz.prog sg hs Tryz.f262 = some af262 := ⟨fun i => 0, by kernel_rfl⟩
def q229_0 : List AOper :=
  [⟨.move .take (.t 0), (some 4), none⟩,
    ⟨.call 262 [(.t 4, true)], (some 5), none⟩,
    ⟨.extract 5 0, (some 6), none⟩,
    ⟨.extract 5 1, (some 7), none⟩,
    ⟨.assign (.p 6), (some 2), none⟩,
    ⟨.assign (.t 7), (some 3), none⟩]
@[simp] def eq229_0 := id q229_0.eq_1
def q229_1 : List AOper :=
  [⟨.assign (.c (.int .i32 0)), (some 2), none⟩,
    ⟨.assign (.c (.slice .nil 0 1 [])), (some 3), none⟩]
@[simp] def eq229_1 := id q229_1.eq_1
def k229_0 : ACode :=
  .ops q229_0 .ret
@[simp] theorem xk229_0 : GoC fns Q s k229_0 st ↔ GoO fns Q s q229_0 .ret st := goC_ops
def k229_1 : ACode :=
  .ops q229_1 k229_0
@[simp] theorem xk229_1 : GoC fns Q s k229_1 st ↔ GoO fns Q s q229_1 k229_0 st := goC_ops
def af229 : AFunc := ⟨8, k229_1, [.tmp 2, .tmp 3], fun _ _ => none⟩

theorem ok229 : ∃ hs, pFunc Tryz.prog sg hs Tryz.f229 = some af229 := ⟨fun i => 0, by kernel_rfl⟩
def q180_0 : List AOper :=
  [⟨.move .take (.p 0), (some 25), none⟩,
    ⟨.assign (.p 25), (some 2), none⟩]
@[simp] def eq180_0 := id q180_0.eq_1
def q180_1 : List AOper :=
  [⟨.move .look (.p 0), (some 15), none⟩,
    ⟨.move .look (.p 0), (some 16), none⟩,
    ⟨.nilCheck (.p 16), (some 17), none⟩,
    ⟨.fieldAddr 1 (.p 17), (some 18), none⟩,
    ⟨.load .take false 1 (.p 18), (some 19), none⟩,
    ⟨.move .look (.p 3), (some 20), none⟩,
    ⟨.buildSl 21 1 [.int .i32 0] [(0, 1, .p 20)], (some 21), none⟩,
    ⟨.append 21 1 4 false (.t 19) (.p 21), (some 22), none⟩,
    ⟨.nilCheck (.p 15), (some 23), none⟩,
    ⟨.fieldAddr 1 (.p 23), (some 24), none⟩,
    ⟨.store 1 (.p 24) (.t 22), none, none⟩]
@[simp] def eq180_1 := id q180_1.eq_1
def q180_2 : List AOper :=
  [⟨.move .look (.p 0), (some 5), none⟩,
    ⟨.move .look (.p 0), (some 6), none⟩,
    ⟨.nilCheck (.p 6), (some 7), none⟩,
    ⟨.fieldAddr 0 (.p 7), (some 8), none⟩,
    ⟨.load .take false 1 (.p 8), (some 9), none⟩,
    ⟨.call 229 [(.t 9, true)], (some 10), none⟩,
    ⟨.move .look (.t 10), (some 4), none⟩,
    ⟨.extract 4 0, (some 11), none⟩,
    ⟨.extract 4 1, (some 12), none⟩,
    ⟨.assign (.p 11), (some 3), none⟩,
    ⟨.nilCheck (.p 5), (some 13), none⟩,
    ⟨.fieldAddr 0 (.p 13), (some 14), none⟩,
    ⟨.store 1 (.p 14) (.t 12), none, none⟩]
@[simp] def eq180_2 := id q180_2.eq_1
def k180_0 : ACode :=
  .ops q180_0 .ret
@[simp] theorem xk180_0 : GoC fns Q s k180_0 st ↔ GoO fns Q s q180_0 .ret st := goC_ops
def k180_1 : ACode :=
  .ops q180_1 k180_0
@[simp] theorem xk180_1 : GoC fns Q s k180_1 st ↔ GoO fns Q s q180_1 k180_0 st := goC_ops
def k180_2 : ACode :=
  .ops q180_2 k180_1
@[simp] theorem xk180_2 : GoC fns Q s k180_2 st ↔ GoO fns Q s q180_2 k180_1 st := goC_ops
def k180_3 : ACode :=
  .ops [⟨.assign (.c (.int .i32 0)), (some 3), none⟩] k180_2
@[simp] theorem xk180_3 : GoC fns Q s k180_3 st ↔ GoO fns Q s [⟨.assign (.c (.int .i32 0)), (some 3), none⟩] k180_2 st := goC_ops
def k180_4 : ACode :=
  .ops [⟨.assign (.c (.nilptr)), (some 2), none⟩] k180_3
@[simp] theorem xk180_4 : GoC fns Q s k180_4 st ↔ GoO fns Q s [⟨.assign (.c (.nilptr)), (some 2), none⟩] k180_3 st := goC_ops
def af180 : AFunc := ⟨26, k180_4, [.tmp 2], fun _ _ => none⟩

theorem ok180 : ∃ hs, pFunc Tryz.prog sg hs Tryz.f180 = some af180 := ⟨fun i => 0, by kernel_rfl⟩
def q141_0 : List AOper :=
  [⟨.build [.slice .nil 0 1 [], .slice .nil 0 1 []] [], (some 1), none⟩,
    ⟨.boxobj (.p 1), (some 2), none⟩,
    ⟨.hcall 180 [(.p 2, false)], (some 3), none⟩,
    ⟨.assign (.p 3), (some 0), none⟩]
@[simp] def eq141_0 := id q141_0.eq_1
def k141_0 : ACode :=
  .ops q141_0 .ret
@[simp] theorem xk141_0 : GoC fns Q s k141_0 st ↔ GoO fns Q s q141_0 .ret st := goC_ops
def k141_1 : ACode :=
  .ops [⟨.assign (.c (.nilptr)), (some 0), none⟩] k141_0
@[simp] theorem xk141_1 : GoC fns Q s k141_1 st ↔ GoO fns Q s [⟨.assign (.c (.nilptr)), (some 0), none⟩] k141_0 st := goC_ops
def af141 : AFunc := ⟨4, k141_1, [.tmp 0], fun _ _ => none⟩

theorem ok141 : ∃ hs, pFunc Tryz.prog sg hs Tryz.f141 = some af141 := ⟨fun i => if i == 2 then 1 else 0, by kernel_rfl⟩
def q316_0 : List AOper :=
  [⟨.move .take (.p 5), (some 34), none⟩,
    ⟨.assign (.p 34), (some 4), none⟩]
@[simp] def eq316_0 := id q316_0.eq_1
def q316_1 : List AOper :=
  [⟨.move .head (.p 6), (some 31), none⟩,
    ⟨.move .head (.p 1), (some 32), none⟩,
    ⟨.bin .eql 1 false (.p 31) (.p 32), (some 33), none⟩]
@[simp] def eq316_1 := id q316_1.eq_1
def q316_2 : List AOper :=
  [⟨.extract 27 1, (some 29), none⟩,
    ⟨.extract 27 2, (some 30), none⟩,
    ⟨.assign (.p 29), (some 5), none⟩,
    ⟨.assign (.p 30), (some 6), none⟩]
@[simp] def eq316_2 := id q316_2.eq_1
def q316_3 : List AOper :=
  [⟨.next (.p 26), (some 27), none⟩,
    ⟨.extract 27 0, (some 28), none⟩]
@[simp] def eq316_3 := id q316_3.eq_1
def q316_4 : List AOper :=
  [⟨.move .look (.p 0), (some 25), none⟩,
    ⟨.range 26 (.p 25), (some 26), none⟩]
@[simp] def eq316_4 := id q316_4.eq_1
def q316_5 : List AOper :=
  [⟨.move .head (.p 1), (some 7), none⟩,
    ⟨.bin .neq 1 true (.p 7) (.c (.int .i32 65533)), (some 8), none⟩,
    ⟨.move .look (.p 8), (some 9), none⟩,
    ⟨.move .look (.p 1), (some 10), (some (9, true))⟩,
    ⟨.bin .lss 1 true (.p 10) (.c (.int .i32 0)), (some 11), (some (9, true))⟩,
    ⟨.move .look (.p 11), (some 12), (some (9, true))⟩,
    ⟨.move .look (.p 1), (some 13), (some (12, false))⟩,
    ⟨.bin .gtr 1 true (.p 13) (.c (.int .i32 1114111)), (some 14), (some (12, false))⟩,
    ⟨.pick (.p 12) (.c (.bool true)) (.p 14), (some 15), (some (9, true))⟩,
    ⟨.move .look (.p 15), (some 16), (some (9, true))⟩,
    ⟨.move .look (.p 1), (some 17), (some (16, false))⟩,
    ⟨.bin .leq 1 true (.c (.int .i32 55296)) (.p 17), (some 18), (some (16, false))⟩,
    ⟨.move .look (.p 18), (some 19), (some (16, false))⟩,
    ⟨.move .look (.p 1), (some 20), (some (19, true))⟩,
    ⟨.bin .leq 1 true (.p 20) (.c (.int .i32 57343)), (some 21), (some (19, true))⟩,
    ⟨.pick (.p 19) (.p 21) (.c (.bool false)), (some 22), (some (16, false))⟩,
    ⟨.pick (.p 16) (.c (.bool true)) (.p 22), (some 23), (some (9, true))⟩,
    ⟨.pick (.p 9) (.p 23) (.c (.bool false)), (some 24), none⟩]
@[simp] def eq316_5 := id q316_5.eq_1
def k316_0 : ACode :=
  .ops [⟨.assign (.c (.int .i64 (-1))), (some 4), none⟩] .ret
@[simp] theorem xk316_0 : GoC fns Q s k316_0 st ↔ GoO fns Q s [⟨.assign (.c (.int .i64 (-1))), (some 4), none⟩] .ret st := goC_ops
def k316_1 : ACode :=
  .ops q316_0 .ret
@[simp] theorem xk316_1 : GoC fns Q s k316_1 st ↔ GoO fns Q s q316_0 .ret st := goC_ops
def k316_2 : ACode :=
  .cond (.p 33) k316_1 .skip
@[simp] theorem xk316_2 : GoC fns Q s k316_2 st ↔ GB fns Q s (peek st (.p 33)) k316_1 .skip st := goC_cond
def k316_3 : ACode :=
  .ops q316_1 k316_2
@[simp] theorem xk316_3 : GoC fns Q s k316_3 st ↔ GoO fns Q s q316_1 k316_2 st := goC_ops
def k316_4 : ACode :=
  .ops q316_2 k316_3
@[simp] theorem xk316_4 : GoC fns Q s k316_4 st ↔ GoO fns Q s q316_2 k316_3 st := goC_ops
def k316_5 : ACode :=
  .block 1 k316_4
@[simp] theorem xk316_5 : GoC fns Q s k316_5 st ↔ GoC fns Q (.bl 1 :: s) k316_4 st := goC_block
def k316_6 : ACode :=
  .cond (.p 28) .skip (.exit 0)
@[simp] theorem xk316_6 : GoC fns Q s k316_6 st ↔ GB fns Q s (peek st (.p 28)) .skip (.exit 0) st := goC_cond
def k316_7 : ACode :=
  .seq k316_6 k316_5
@[simp] theorem xk316_7 : GoC fns Q s k316_7 st ↔ GoC fns Q (.sq k316_5 :: s) k316_6 st := goC_seq
def k316_8 : ACode :=
  .ops q316_3 k316_7
@[simp] theorem xk316_8 : GoC fns Q s k316_8 st ↔ GoO fns Q s q316_3 k316_7 st := goC_ops
def lc316_0 : ACode :=
  k316_8
@[simp] theorem xlc316_0 : GoC fns Q s lc316_0 st ↔ GoC fns Q s k316_8 st := Iff.rfl
def k316_10 : ACode :=
  .loop lc316_0
@[simp] theorem xk316_10 : GoC fns Q s k316_10 st ↔ (LoopR fns lc316_0 st fun r => GoE fns Q s r.1 r.2) := goC_loop
def k316_11 : ACode :=
  .block 0 k316_10
@[simp] theorem xk316_11 : GoC fns Q s k316_11 st ↔ GoC fns Q (.bl 0 :: s) k316_10 st := goC_block
def k316_12 : ACode :=
  .seq k316_11 k316_0
@[simp] theorem xk316_12 : GoC fns Q s k316_12 st ↔ GoC fns Q (.sq k316_0 :: s) k316_11 st := goC_seq
def k316_13 : ACode :=
  .ops q316_4 k316_12
@[simp] theorem xk316_13 : GoC fns Q s k316_13 st ↔ GoO fns Q s q316_4 k316_12 st := goC_ops
def k316_14 : ACode :=
  .ops [⟨.assign (.c (.int .i64 (-1))), (some 4), none⟩] .ret
@[simp] theorem xk316_14 : GoC fns Q s k316_14 st ↔ GoO fns Q s [⟨.assign (.c (.int .i64 (-1))), (some 4), none⟩] .ret st := goC_ops
def k316_15 : ACode :=
  .cond (.p 24) k316_14 .skip
@[simp] theorem xk316_15 : GoC fns Q s k316_15 st ↔ GB fns Q s (peek st (.p 24)) k316_14 .skip st := goC_cond
def k316_16 : ACode :=
  .seq k316_15 k316_13
@[simp] theorem xk316_16 : GoC fns Q s k316_16 st ↔ GoC fns Q (.sq k316_13 :: s) k316_15 st := goC_seq
def k316_17 : ACode :=
  .ops q316_5 k316_16
@[simp] theorem xk316_17 : GoC fns Q s k316_17 st ↔ GoO fns Q s q316_5 k316_16 st := goC_ops
def k316_18 : ACode :=
  .ops [⟨.assign (.c (.int .i64 0)), (some 4), none⟩] k316_17
@[simp] theorem xk316_18 : GoC fns Q s k316_18 st ↔ GoO fns Q s [⟨.assign (.c (.int .i64 0)), (some 4), none⟩] k316_17 st := goC_ops
def af316 : AFunc := ⟨35, k316_18, [.tmp 4], fun _ _ => none⟩

theorem ok316 : ∃ hs, pFunc Tryz.prog sg hs Tryz.f316 = some af316 := ⟨fun i => 0, by kernel_rfl⟩
def q307_0 : List AOper :=
  [⟨.move .look (.p 0), (some 5), none⟩,
    ⟨.move .look (.p 1), (some 6), none⟩,
    ⟨.call 316 [(.p 5, false), (.p 6, false)], (some 7), none⟩,
    ⟨.bin .geq 1 true (.p 7) (.c (.int .i64 0)), (some 8), none⟩,
    ⟨.assign (.p 8), (some 4), none⟩]
@[simp] def eq307_0 := id q307_0.eq_1
def k307_0 : ACode :=
  .ops q307_0 .ret
@[simp] theorem xk307_0 : GoC fns Q s k307_0 st ↔ GoO fns Q s q307_0 .ret st := goC_ops
def k307_1 : ACode :=
  .ops [⟨.assign (.c (.bool false)), (some 4), none⟩] k307_0
@[simp] theorem xk307_1 : GoC fns Q s k307_1 st ↔ GoO fns Q s [⟨.assign (.c (.bool false)), (some 4), none⟩] k307_0 st := goC_ops
def af307 : AFunc := ⟨9, k307_1, [.tmp 4], fun _ _ => none⟩

theorem ok307 : ∃ hs, pFunc Tryz.prog sg hs Tryz.f307 = some af307 := ⟨fun i => 0, by kernel_rfl⟩
def q265_0 : List AOper :=
  [⟨.move .look (.p 0), (some 3), none⟩,
    ⟨.call 307 [(.p 3, false), (.c (.int .i32 0), false)], (some 4), none⟩,
    ⟨.un .not (.p 4), (some 5), none⟩,
    ⟨.assign (.p 5), (some 2), none⟩]
@[simp] def eq265_0 := id q265_0.eq_1
def k265_0 : ACode :=
  .ops q265_0 .ret
@[simp] theorem xk265_0 : GoC fns Q s k265_0 st ↔ GoO fns Q s q265_0 .ret st := goC_ops
def k265_1 : ACode :=
  .ops [⟨.assign (.c (.bool false)), (some 2), none⟩] k265_0
@[simp] theorem xk265_1 : GoC fns Q s k265_1 st ↔ GoO fns Q s [⟨.assign (.c (.bool false)), (some 2), none⟩] k265_0 st := goC_ops
def af265 : AFunc := ⟨6, k265_1, [.tmp 2], fun _ _ => none⟩

theorem ok265 : ∃ hs, pFunc Tryz.prog sg hs Tryz.f265 = some af265 := ⟨fun i => 0, by kernel_rfl⟩
def q266_0 : List AOper :=
  [⟨.move .take (.t 0), (some 5), none⟩,
    ⟨.move .look (.p 1), (some 6), none⟩,
    ⟨.buildSl 5 1 [.int .u8 0] [(0, 1, .p 6)], (some 7), none⟩,
    ⟨.append 5 1 1 false (.t 5) (.p 7), (some 8), none⟩,
    ⟨.assign (.t 8), (some 4), none⟩]
@[simp] def eq266_0 := id q266_0.eq_1
def k266_0 : ACode :=
  .ops q266_0 .ret
@[simp] theorem xk266_0 : GoC fns Q s k266_0 st ↔ GoO fns Q s q266_0 .ret st := goC_ops
def k266_1 : ACode :=
  .ops [⟨.assign (.c (.slice .nil 0 1 [])), (some 4), none⟩] k266_0
@[simp] theorem xk266_1 : GoC fns Q s k266_1 st ↔ GoO fns Q s [⟨.assign (.c (.slice .nil 0 1 [])), (some 4), none⟩] k266_0 st := goC_ops
def af266 : AFunc := ⟨9, k266_1, [.tmp 4], fun _ _ => none⟩

theorem ok266 : ∃ hs, pFunc Tryz.prog sg hs Tryz.f266 = some af266 := ⟨fun i => 0, by kernel_rfl⟩
def q232_0 : List AOper :=
  [⟨.move .take (.t 0), (some 17), none⟩,
    ⟨.buildSl 5 1 [.int .u8 0] [(0, 1, .c (.int .u8 0))], (some 18), none⟩,
    ⟨.append 5 1 1 false (.t 17) (.p 18), (some 19), none⟩,
    ⟨.assign (.t 19), (some 6), none⟩]
@[simp] def eq232_0 := id q232_0.eq_1
def q232_1 : List AOper :=
  [⟨.move .take (.t 0), (some 14), none⟩,
    ⟨.move .look (.p 2), (some 15), none⟩,
    ⟨.append 5 1 1 true (.t 14) (.p 15), (some 16), none⟩,
    ⟨.assign (.t 16), (some 0), none⟩]
@[simp] def eq232_1 := id q232_1.eq_1
def q232_2 : List AOper :=
  [⟨.move .take (.t 0), (some 11), none⟩,
    ⟨.move .look (.p 1), (some 12), none⟩,
    ⟨.call 266 [(.t 11, true), (.p 12, false)], (some 13), none⟩,
    ⟨.assign (.t 13), (some 0), none⟩]
@[simp] def eq232_2 := id q232_2.eq_1
def q232_3 : List AOper :=
  [⟨.mkIface 9 (.c (.str [66, 83, 79, 78, 32, 101, 108, 101, 109, 101, 110, 116, 32, 107, 101, 121, 115, 32, 99, 97, 110, 110, 111, 116, 32, 99, 111, 110, 116, 97, 105, 110, 32, 110, 117, 108, 108, 32, 98, 121, 116, 101, 115])), (some 10), none⟩,
    ⟨.dead, none, none⟩]
@[simp] def eq232_3 := id q232_3.eq_1
def q232_4 : List AOper :=
  [⟨.move .look (.p 2), (some 7), none⟩,
    ⟨.call 265 [(.p 7, false)], (some 8), none⟩,
    ⟨.un .not (.p 8), (some 9), none⟩]
@[simp] def eq232_4 := id q232_4.eq_1
def k232_0 : ACode :=
  .ops q232_0 .ret
@[simp] theorem xk232_0 : GoC fns Q s k232_0 st ↔ GoO fns Q s q232_0 .ret st := goC_ops
def k232_1 : ACode :=
  .ops q232_1 k232_0
@[simp] theorem xk232_1 : GoC fns Q s k232_1 st ↔ GoO fns Q s q232_1 k232_0 st := goC_ops
def k232_2 : ACode :=
  .ops q232_2 k232_1
@[simp] theorem xk232_2 : GoC fns Q s k232_2 st ↔ GoO fns Q s q232_2 k232_1 st := goC_ops
def k232_3 : ACode :=
  .ops q232_3 .skip
@[simp] theorem xk232_3 : GoC fns Q s k232_3 st ↔ GoO fns Q s q232_3 .skip st := goC_ops
def k232_4 : ACode :=
  .cond (.p 9) k232_3 .skip
@[simp] theorem xk232_4 : GoC fns Q s k232_4 st ↔ GB fns Q s (peek st (.p 9)) k232_3 .skip st := goC_cond
def k232_5 : ACode :=
  .seq k232_4 k232_2
@[simp] theorem xk232_5 : GoC fns Q s k232_5 st ↔ GoC fns Q (.sq k232_2 :: s) k232_4 st := goC_seq
def k232_6 : ACode :=
  .ops q232_4 k232_5
@[simp] theorem xk232_6 : GoC fns Q s k232_6 st ↔ GoO fns Q s q232_4 k232_5 st := goC_ops
def k232_7 : ACode :=
  .ops [⟨.assign (.c (.slice .nil 0 1 [])), (some 6), none⟩] k232_6
@[simp] theorem xk232_7 : GoC fns Q s k232_7 st ↔ GoO fns Q s [⟨.assign (.c (.slice .nil 0 1 [])), (some 6), none⟩] k232_6 st := goC_ops
def af232 : AFunc := ⟨20, k232_7, [.tmp 6], fun _ _ => none⟩

theorem ok232 : ∃ hs, pFunc Tryz.prog sg hs Tryz.f232 = some af232 := ⟨fun i => 0, by kernel_rfl⟩
def q314_0 : List AOper :=
  [⟨.move .take (.t 0), (some 5), none⟩,
    ⟨.move .look (.p 1), (some 6), none⟩,
    ⟨.convInt .u8 (.p 6), (some 7), none⟩,
    ⟨.move .look (.p 1), (some 8), none⟩,
    ⟨.bin .shr 1 true (.p 8) (.c (.int .u64 8)), (some 9), none⟩,
    ⟨.convInt .u8 (.p 9), (some 10), none⟩,
    ⟨.move .look (.p 1), (some 11), none⟩,
    ⟨.bin .shr 1 true (.p 11) (.c (.int .u64 16)), (some 12), none⟩,
    ⟨.convInt .u8 (.p 12), (some 13), none⟩,
    ⟨.move .look (.p 1), (some 14), none⟩,
    ⟨.bin .shr 1 true (.p 14) (.c (.int .u64 24)), (some 15), none⟩,
    ⟨.convInt .u8 (.p 15), (some 16), none⟩,
    ⟨.buildSl 5 1 [.int .u8 0, .int .u8 0, .int .u8 0, .int .u8 0] [(0, 1, .p 7), (1, 1, .p 10), (2, 1, .p 13), (3, 1, .p 16)], (some 17), none⟩,
    ⟨.append 5 1 1 false (.t 5) (.p 17), (some 18), none⟩,
    ⟨.assign (.t 18), (some 4), none⟩]
@[simp] def eq314_0 := id q314_0.eq_1
def k314_0 : ACode :=
  .ops q314_0 .ret
@[simp] theorem xk314_0 : GoC fns Q s k314_0 st ↔ GoO fns Q s q314_0 .ret st := goC_ops
def k314_1 : ACode :=
  .ops [⟨.assign (.c (.slice .nil 0 1 [])), (some 4), none⟩] k314_0
@[simp] theorem xk314_1 : GoC fns Q s k314_1 st ↔ GoO fns Q s [⟨.assign (.c (.slice .nil 0 1 [])), (some 4), none⟩] k314_0 st := goC_ops
def af314 : AFunc := ⟨19, k314_1, [.tmp 4], fun _ _ => none⟩

theorem ok314 : ∃ hs, pFunc Tryz.prog sg hs Tryz.f314 = some af314 := ⟨fun i => 0, by kernel_rfl⟩
def q300_0 : List AOper :=
  [⟨.move .take (.t 0), (some 5), none⟩,
    ⟨.move .look (.p 1), (some 6), none⟩,
    ⟨.call 314 [(.t 5, true), (.p 6, false)], (some 7), none⟩,
    ⟨.assign (.t 7), (some 4), none⟩]
@[simp] def eq300_0 := id q300_0.eq_1
def k300_0 : ACode :=
  .ops q300_0 .ret
@[simp] theorem xk300_0 : GoC fns Q s k300_0 st ↔ GoO fns Q s q300_0 .ret st := goC_ops
def k300_1 : ACode :=
  .ops [⟨.assign (.c (.slice .nil 0 1 [])), (some 4), none⟩] k300_0
@[simp] theorem xk300_1 : GoC fns Q s k300_1 st ↔ GoO fns Q s [⟨.assign (.c (.slice .nil 0 1 [])), (some 4), none⟩] k300_0 st := goC_ops
def af300 : AFunc := ⟨8, k300_1, [.tmp 4], fun _ _ => none⟩

theorem ok300 : ∃ hs, pFunc Tryz.prog sg hs Tryz.f300 = some af300 := ⟨fun i => 0, by kernel_rfl⟩
def q248_0 : List AOper :=
  [⟨.move .take (.t 0), (some 7), none⟩,
    ⟨.move .look (.p 1), (some 8), none⟩,
    ⟨.call 232 [(.t 7, true), (.c (.int .u8 16), false), (.p 8, false)], (some 9), none⟩,
    ⟨.move .look (.p 2), (some 10), none⟩,
    ⟨.call 300 [(.t 9, true), (.p 10, false)], (some 11), none⟩,
    ⟨.assign (.t 11), (some 6), none⟩]
@[simp] def eq248_0 := id q248_0.eq_1
def k248_0 : ACode :=
  .ops q248_0 .ret
@[simp] theorem xk248_0 : GoC fns Q s k248_0 st ↔ GoO fns Q s q248_0 .ret st := goC_ops
def k248_1 : ACode :=
  .ops [⟨.assign (.c (.slice .nil 0 1 [])), (some 6), none⟩] k248_0
@[simp] theorem xk248_1 : GoC fns Q s k248_1 st ↔ GoO fns Q s [⟨.assign (.c (.slice .nil 0 1 [])), (some 6), none⟩] k248_0 st := goC_ops
def af248 : AFunc := ⟨12, k248_1, [.tmp 6], fun _ _ => none⟩

theorem ok248 : ∃ hs, pFunc Tryz.prog sg hs Tryz.f248 = some af248 := ⟨fun i => 0, by kernel_rfl⟩
def q201_0 : List AOper :=
  [⟨.move .take (.p 0), (some 17), none⟩,
    ⟨.assign (.p 17), (some 6), none⟩]
@[simp] def eq201_0 := id q201_0.eq_1
def q201_1 : List AOper :=
  [⟨.move .look (.p 0), (some 7), none⟩,
    ⟨.move .look (.p 0), (some 8), none⟩,
    ⟨.nilCheck (.p 8), (some 9), none⟩,
    ⟨.fieldAddr 0 (.p 9), (some 10), none⟩,
    ⟨.load .take false 1 (.p 10), (some 11), none⟩,
    ⟨.move .look (.p 1), (some 12), none⟩,
    ⟨.move .look (.p 2), (some 13), none⟩,
    ⟨.call 248 [(.t 11, true), (.p 12, false), (.p 13, false)], (some 14), none⟩,
    ⟨.nilCheck (.p 7), (some 15), none⟩,
    ⟨.fieldAddr 0 (.p 15), (some 16), none⟩,
    ⟨.store 1 (.p 16) (.t 14), none, none⟩]
@[simp] def eq201_1 := id q201_1.eq_1
def k201_0 : ACode :=
  .ops q201_0 .ret
@[simp] theorem xk201_0 : GoC fns Q s k201_0 st ↔ GoO fns Q s q201_0 .ret st := goC_ops
def k201_1 : ACode :=
  .ops q201_1 k201_0
@[simp] theorem xk201_1 : GoC fns Q s k201_1 st ↔ GoO fns Q s q201_1 k201_0 st := goC_ops
def k201_2 : ACode :=
  .ops [⟨.assign (.c (.nilptr)), (some 6), none⟩] k201_1
@[simp] theorem xk201_2 : GoC fns Q s k201_2 st ↔ GoO fns Q s [⟨.assign (.c (.nilptr)), (some 6), none⟩] k201_1 st := goC_ops
def af201 : AFunc := ⟨18, k201_2, [.tmp 6], fun _ _ => none⟩

theorem ok201 : ∃ hs, pFunc Tryz.prog sg hs Tryz.f201 = some af201 := ⟨fun i => 0, by kernel_rfl⟩
end
end Go.Proofs.YtcodfehgnjplcaaGreatDoor.Abs
