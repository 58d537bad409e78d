/- The functions that the law reaches, made ready for the interpreter (printed by a program of this session; the kernel compares each with the given program). -/
import Derived.Test.YtfamhjnjlgdglaaA27
import Derived.Test.YtfamhjnjlgdglaaProg
import Derived.KernelRfl
namespace Go.Proofs.Ytfamhjnjlgdglaa.Abs
set_option linter.all false
open Go.Proofs
def sg : FuncId → Nat → Nat := fun f i =>
  if f == 13 then (if i == 0 then 1 else 0) else
  if f == 28 then (if i == 0 then 1 else 0) else
  if f == 30 then (if i == 0 then 1 else 0) else
  if f == 39 then (if i == 1 then 2 else if i == 99 then 1 else 0) else
  0
section
variable {fns : FuncId → Option AFunc} {Q : Ex × St → Prop} {s : List Fr} {c : ACode} {st : St}
/-- No. 12 -/
def k12_0 : ACode :=
  .ops [⟨.buildSl 5 1 [] [], (some 3), none⟩,
    ⟨.move .look (.t 0), (some 4), none⟩,
    ⟨.append 5 1 1 false (.t 3) (.p 4), (some 5), none⟩,
    ⟨.assign (.t 5), (some 2), none⟩] .ret
@[simp] theorem xk12_0 : GoC fns Q s k12_0 st ↔ GoO fns Q s [⟨.buildSl 5 1 [] [], (some 3), none⟩,
    ⟨.move .look (.t 0), (some 4), none⟩,
    ⟨.append 5 1 1 false (.t 3) (.p 4), (some 5), none⟩,
    ⟨.assign (.t 5), (some 2), none⟩] .ret st := goC_ops
def k12_1 : ACode :=
  .ops [⟨.assign (.c (.slice .nil 0 1 [])), (some 2), none⟩] k12_0
@[simp] theorem xk12_1 : GoC fns Q s k12_1 st ↔ GoO fns Q s [⟨.assign (.c (.slice .nil 0 1 [])), (some 2), none⟩] k12_0 st := goC_ops
def af12 : AFunc := ⟨6, k12_1, [.tmp 2]⟩

theorem ok12 : ∃ hs, pFunc Try.prog sg hs Try.f12 = some af12 := ⟨fun i => 0, by kernel_rfl⟩
/-- No. 29 -/
def k29_0 : ACode :=
  .ops [⟨.move .look (.t 0), (some 3), none⟩,
    ⟨.append 5 1 1 false (.c (.slice .nil 0 1 [])) (.p 3), (some 4), none⟩,
    ⟨.assign (.t 4), (some 2), none⟩] .ret
@[simp] theorem xk29_0 : GoC fns Q s k29_0 st ↔ GoO fns Q s [⟨.move .look (.t 0), (some 3), none⟩,
    ⟨.append 5 1 1 false (.c (.slice .nil 0 1 [])) (.p 3), (some 4), none⟩,
    ⟨.assign (.t 4), (some 2), none⟩] .ret st := goC_ops
def k29_1 : ACode :=
  .ops [⟨.assign (.c (.slice .nil 0 1 [])), (some 2), none⟩] k29_0
@[simp] theorem xk29_1 : GoC fns Q s k29_1 st ↔ GoO fns Q s [⟨.assign (.c (.slice .nil 0 1 [])), (some 2), none⟩] k29_0 st := goC_ops
def af29 : AFunc := ⟨5, k29_1, [.tmp 2]⟩

theorem ok29 : ∃ hs, pFunc Try.prog sg hs Try.f29 = some af29 := ⟨fun i => 0, by kernel_rfl⟩
/-- No. 28 -/
def k28_0 : ACode :=
  .ops [⟨.move .look (.p 4), (some 7), none⟩,
    ⟨.convInt .i32 (.p 7), (some 8), none⟩,
    ⟨.move .take (.t 0), (some 9), none⟩,
    ⟨.buildSl 5 1 [.int .u8 0, .int .u8 0, .int .u8 0, .int .u8 0] [(0, 1, .c (.int .u8 0)), (1, 1, .c (.int .u8 0)), (2, 1, .c (.int .u8 0)), (3, 1, .c (.int .u8 0))], (some 10), none⟩,
    ⟨.append 5 1 1 false (.t 9) (.p 10), (some 11), none⟩,
    ⟨.assign (.p 8), (some 2), none⟩,
    ⟨.assign (.t 11), (some 3), none⟩] .ret
@[simp] theorem xk28_0 : GoC fns Q s k28_0 st ↔ GoO fns Q s [⟨.move .look (.p 4), (some 7), none⟩,
    ⟨.convInt .i32 (.p 7), (some 8), none⟩,
    ⟨.move .take (.t 0), (some 9), none⟩,
    ⟨.buildSl 5 1 [.int .u8 0, .int .u8 0, .int .u8 0, .int .u8 0] [(0, 1, .c (.int .u8 0)), (1, 1, .c (.int .u8 0)), (2, 1, .c (.int .u8 0)), (3, 1, .c (.int .u8 0))], (some 10), none⟩,
    ⟨.append 5 1 1 false (.t 9) (.p 10), (some 11), none⟩,
    ⟨.assign (.p 8), (some 2), none⟩,
    ⟨.assign (.t 11), (some 3), none⟩] .ret st := goC_ops
def k28_1 : ACode :=
  .ops [⟨.move .head (.t 0), (some 5), none⟩,
    ⟨.len false (.p 5), (some 6), none⟩,
    ⟨.assign (.p 6), (some 4), none⟩] k28_0
@[simp] theorem xk28_1 : GoC fns Q s k28_1 st ↔ GoO fns Q s [⟨.move .head (.t 0), (some 5), none⟩,
    ⟨.len false (.p 5), (some 6), none⟩,
    ⟨.assign (.p 6), (some 4), none⟩] k28_0 st := goC_ops
def k28_2 : ACode :=
  .ops [⟨.assign (.c (.int .i32 0)), (some 2), none⟩,
    ⟨.assign (.c (.slice .nil 0 1 [])), (some 3), none⟩] k28_1
@[simp] theorem xk28_2 : GoC fns Q s k28_2 st ↔ GoO fns Q s [⟨.assign (.c (.int .i32 0)), (some 2), none⟩,
    ⟨.assign (.c (.slice .nil 0 1 [])), (some 3), none⟩] k28_1 st := goC_ops
def af28 : AFunc := ⟨12, k28_2, [.tmp 2, .tmp 3]⟩

theorem ok28 : ∃ hs, pFunc Try.prog sg hs Try.f28 = some af28 := ⟨fun i => 0, by kernel_rfl⟩
/-- No. 11 -/
def k11_0 : ACode :=
  .ops [⟨.move .look (.p 4), (some 12), none⟩,
    ⟨.convInt .i64 (.p 12), (some 13), none⟩,
    ⟨.move .take (.t 5), (some 14), none⟩,
    ⟨.assign (.p 13), (some 2), none⟩,
    ⟨.assign (.t 14), (some 3), none⟩] .ret
@[simp] theorem xk11_0 : GoC fns Q s k11_0 st ↔ GoO fns Q s [⟨.move .look (.p 4), (some 12), none⟩,
    ⟨.convInt .i64 (.p 12), (some 13), none⟩,
    ⟨.move .take (.t 5), (some 14), none⟩,
    ⟨.assign (.p 13), (some 2), none⟩,
    ⟨.assign (.t 14), (some 3), none⟩] .ret st := goC_ops
def k11_1 : ACode :=
  .ops [⟨.move .look (.t 0), (some 7), none⟩,
    ⟨.call 29 [(.t 7, false)], (some 8), none⟩,
    ⟨.call 28 [(.t 8, true)], (some 9), none⟩,
    ⟨.move .look (.t 9), (some 6), none⟩,
    ⟨.extract 6 0, (some 10), none⟩,
    ⟨.extract 6 1, (some 11), none⟩,
    ⟨.assign (.p 10), (some 4), none⟩,
    ⟨.assign (.t 11), (some 5), none⟩] k11_0
@[simp] theorem xk11_1 : GoC fns Q s k11_1 st ↔ GoO fns Q s [⟨.move .look (.t 0), (some 7), none⟩,
    ⟨.call 29 [(.t 7, false)], (some 8), none⟩,
    ⟨.call 28 [(.t 8, true)], (some 9), none⟩,
    ⟨.move .look (.t 9), (some 6), none⟩,
    ⟨.extract 6 0, (some 10), none⟩,
    ⟨.extract 6 1, (some 11), none⟩,
    ⟨.assign (.p 10), (some 4), none⟩,
    ⟨.assign (.t 11), (some 5), none⟩] k11_0 st := goC_ops
def k11_2 : ACode :=
  .ops [⟨.assign (.c (.int .i64 0)), (some 2), none⟩,
    ⟨.assign (.c (.slice .nil 0 1 [])), (some 3), none⟩] k11_1
@[simp] theorem xk11_2 : GoC fns Q s k11_2 st ↔ GoO fns Q s [⟨.assign (.c (.int .i64 0)), (some 2), none⟩,
    ⟨.assign (.c (.slice .nil 0 1 [])), (some 3), none⟩] k11_1 st := goC_ops
def af11 : AFunc := ⟨15, k11_2, [.tmp 2, .tmp 3]⟩

theorem ok11 : ∃ hs, pFunc Try.prog sg hs Try.f11 = some af11 := ⟨fun i => 0, by kernel_rfl⟩
/-- No. 13 -/
def k13_0 : ACode :=
  .ops [⟨.move .take (.t 0), (some 5), none⟩,
    ⟨.move .look (.p 1), (some 6), none⟩,
    ⟨.convInt .u8 (.p 6), (some 7), none⟩,
    ⟨.move .look (.p 1), (some 8), none⟩,
    ⟨.bin .shr 1 true (.p 8) (.c (.int .u64 8)), (some 9), none⟩,
    ⟨.convInt .u8 (.p 9), (some 10), none⟩,
    ⟨.move .look (.p 1), (some 11), none⟩,
    ⟨.bin .shr 1 true (.p 11) (.c (.int .u64 16)), (some 12), none⟩,
    ⟨.convInt .u8 (.p 12), (some 13), none⟩,
    ⟨.move .look (.p 1), (some 14), none⟩,
    ⟨.bin .shr 1 true (.p 14) (.c (.int .u64 24)), (some 15), none⟩,
    ⟨.convInt .u8 (.p 15), (some 16), none⟩,
    ⟨.buildSl 5 1 [.int .u8 0, .int .u8 0, .int .u8 0, .int .u8 0] [(0, 1, .p 7), (1, 1, .p 10), (2, 1, .p 13), (3, 1, .p 16)], (some 17), none⟩,
    ⟨.append 5 1 1 false (.t 5) (.p 17), (some 18), none⟩,
    ⟨.assign (.t 18), (some 4), none⟩] .ret
@[simp] theorem xk13_0 : GoC fns Q s k13_0 st ↔ GoO fns Q s [⟨.move .take (.t 0), (some 5), none⟩,
    ⟨.move .look (.p 1), (some 6), none⟩,
    ⟨.convInt .u8 (.p 6), (some 7), none⟩,
    ⟨.move .look (.p 1), (some 8), none⟩,
    ⟨.bin .shr 1 true (.p 8) (.c (.int .u64 8)), (some 9), none⟩,
    ⟨.convInt .u8 (.p 9), (some 10), none⟩,
    ⟨.move .look (.p 1), (some 11), none⟩,
    ⟨.bin .shr 1 true (.p 11) (.c (.int .u64 16)), (some 12), none⟩,
    ⟨.convInt .u8 (.p 12), (some 13), none⟩,
    ⟨.move .look (.p 1), (some 14), none⟩,
    ⟨.bin .shr 1 true (.p 14) (.c (.int .u64 24)), (some 15), none⟩,
    ⟨.convInt .u8 (.p 15), (some 16), none⟩,
    ⟨.buildSl 5 1 [.int .u8 0, .int .u8 0, .int .u8 0, .int .u8 0] [(0, 1, .p 7), (1, 1, .p 10), (2, 1, .p 13), (3, 1, .p 16)], (some 17), none⟩,
    ⟨.append 5 1 1 false (.t 5) (.p 17), (some 18), none⟩,
    ⟨.assign (.t 18), (some 4), none⟩] .ret st := goC_ops
def k13_1 : ACode :=
  .ops [⟨.assign (.c (.slice .nil 0 1 [])), (some 4), none⟩] k13_0
@[simp] theorem xk13_1 : GoC fns Q s k13_1 st ↔ GoO fns Q s [⟨.assign (.c (.slice .nil 0 1 [])), (some 4), none⟩] k13_0 st := goC_ops
def af13 : AFunc := ⟨19, k13_1, [.tmp 4]⟩

theorem ok13 : ∃ hs, pFunc Try.prog sg hs Try.f13 = some af13 := ⟨fun i => 0, by kernel_rfl⟩
/-- No. 39 -/
def k39_0 : ACode :=
  .ops [⟨.move .look (.m 1), (some 23), none⟩,
    ⟨.move .look (.p 2), (some 24), none⟩,
    ⟨.bin .shr 1 true (.p 24) (.c (.int .u64 24)), (some 25), none⟩,
    ⟨.convInt .u8 (.p 25), (some 26), none⟩,
    ⟨.indexAddr 1 (.m 23) (.c (.int .i64 3)), (some 27), none⟩,
    ⟨.store 1 (.p 27) (.p 26), none, none⟩] .ret
@[simp] theorem xk39_0 : GoC fns Q s k39_0 st ↔ GoO fns Q s [⟨.move .look (.m 1), (some 23), none⟩,
    ⟨.move .look (.p 2), (some 24), none⟩,
    ⟨.bin .shr 1 true (.p 24) (.c (.int .u64 24)), (some 25), none⟩,
    ⟨.convInt .u8 (.p 25), (some 26), none⟩,
    ⟨.indexAddr 1 (.m 23) (.c (.int .i64 3)), (some 27), none⟩,
    ⟨.store 1 (.p 27) (.p 26), none, none⟩] .ret st := goC_ops
def k39_1 : ACode :=
  .ops [⟨.move .look (.m 1), (some 18), none⟩,
    ⟨.move .look (.p 2), (some 19), none⟩,
    ⟨.bin .shr 1 true (.p 19) (.c (.int .u64 16)), (some 20), none⟩,
    ⟨.convInt .u8 (.p 20), (some 21), none⟩,
    ⟨.indexAddr 1 (.m 18) (.c (.int .i64 2)), (some 22), none⟩,
    ⟨.store 1 (.p 22) (.p 21), none, none⟩] k39_0
@[simp] theorem xk39_1 : GoC fns Q s k39_1 st ↔ GoO fns Q s [⟨.move .look (.m 1), (some 18), none⟩,
    ⟨.move .look (.p 2), (some 19), none⟩,
    ⟨.bin .shr 1 true (.p 19) (.c (.int .u64 16)), (some 20), none⟩,
    ⟨.convInt .u8 (.p 20), (some 21), none⟩,
    ⟨.indexAddr 1 (.m 18) (.c (.int .i64 2)), (some 22), none⟩,
    ⟨.store 1 (.p 22) (.p 21), none, none⟩] k39_0 st := goC_ops
def k39_2 : ACode :=
  .ops [⟨.move .look (.m 1), (some 13), none⟩,
    ⟨.move .look (.p 2), (some 14), none⟩,
    ⟨.bin .shr 1 true (.p 14) (.c (.int .u64 8)), (some 15), none⟩,
    ⟨.convInt .u8 (.p 15), (some 16), none⟩,
    ⟨.indexAddr 1 (.m 13) (.c (.int .i64 1)), (some 17), none⟩,
    ⟨.store 1 (.p 17) (.p 16), none, none⟩] k39_1
@[simp] theorem xk39_2 : GoC fns Q s k39_2 st ↔ GoO fns Q s [⟨.move .look (.m 1), (some 13), none⟩,
    ⟨.move .look (.p 2), (some 14), none⟩,
    ⟨.bin .shr 1 true (.p 14) (.c (.int .u64 8)), (some 15), none⟩,
    ⟨.convInt .u8 (.p 15), (some 16), none⟩,
    ⟨.indexAddr 1 (.m 13) (.c (.int .i64 1)), (some 17), none⟩,
    ⟨.store 1 (.p 17) (.p 16), none, none⟩] k39_1 st := goC_ops
def k39_3 : ACode :=
  .ops [⟨.move .look (.m 1), (some 9), none⟩,
    ⟨.move .look (.p 2), (some 10), none⟩,
    ⟨.convInt .u8 (.p 10), (some 11), none⟩,
    ⟨.indexAddr 1 (.m 9) (.c (.int .i64 0)), (some 12), none⟩,
    ⟨.store 1 (.p 12) (.p 11), none, none⟩] k39_2
@[simp] theorem xk39_3 : GoC fns Q s k39_3 st ↔ GoO fns Q s [⟨.move .look (.m 1), (some 9), none⟩,
    ⟨.move .look (.p 2), (some 10), none⟩,
    ⟨.convInt .u8 (.p 10), (some 11), none⟩,
    ⟨.indexAddr 1 (.m 9) (.c (.int .i64 0)), (some 12), none⟩,
    ⟨.store 1 (.p 12) (.p 11), none, none⟩] k39_2 st := goC_ops
def k39_4 : ACode :=
  .ops [⟨.move .look (.t 1), (some 6), none⟩,
    ⟨.indexAddr 1 (.t 6) (.c (.int .i64 3)), (some 7), none⟩,
    ⟨.load .head false 1 (.p 7), (some 8), none⟩] k39_3
@[simp] theorem xk39_4 : GoC fns Q s k39_4 st ↔ GoO fns Q s [⟨.move .look (.t 1), (some 6), none⟩,
    ⟨.indexAddr 1 (.t 6) (.c (.int .i64 3)), (some 7), none⟩,
    ⟨.load .head false 1 (.p 7), (some 8), none⟩] k39_3 st := goC_ops
def k39_5 : ACode :=
  .ops [⟨.box 3 (.p 0), (some 3), none⟩] k39_4
@[simp] theorem xk39_5 : GoC fns Q s k39_5 st ↔ GoO fns Q s [⟨.box 3 (.p 0), (some 3), none⟩] k39_4 st := goC_ops
def af39 : AFunc := ⟨28, k39_5, []⟩

theorem ok39 : ∃ hs, pFunc Try.prog sg hs Try.f39 = some af39 := ⟨fun i => if i == 9 then 1 else if i == 12 then 1 else if i == 13 then 1 else if i == 17 then 1 else if i == 18 then 1 else if i == 22 then 1 else if i == 23 then 1 else if i == 27 then 1 else 0, by kernel_rfl⟩
/-- No. 30 -/
def k30_0 : ACode :=
  .ops [⟨.move .take (.t 0), (some 14), none⟩,
    ⟨.assign (.t 14), (some 6), none⟩] .ret
@[simp] theorem xk30_0 : GoC fns Q s k30_0 st ↔ GoO fns Q s [⟨.move .take (.t 0), (some 14), none⟩,
    ⟨.assign (.t 14), (some 6), none⟩] .ret st := goC_ops
def k30_1 : ACode :=
  .ops [⟨.load .look true 0 (.c (.gl 0)), (some 7), none⟩,
    ⟨.move .look (.m 0), (some 8), none⟩,
    ⟨.move .head (.p 1), (some 9), none⟩,
    ⟨.sliceSl 1 (.m 8) (some (.p 9)) none, (some 10), none⟩,
    ⟨.move .look (.p 2), (some 11), none⟩,
    ⟨.convInt .u32 (.p 11), (some 12), none⟩,
    ⟨.hcall 39 [(.p 7, false), (.m 10, false), (.p 12, false)], (some 13), none⟩] k30_0
@[simp] theorem xk30_1 : GoC fns Q s k30_1 st ↔ GoO fns Q s [⟨.load .look true 0 (.c (.gl 0)), (some 7), none⟩,
    ⟨.move .look (.m 0), (some 8), none⟩,
    ⟨.move .head (.p 1), (some 9), none⟩,
    ⟨.sliceSl 1 (.m 8) (some (.p 9)) none, (some 10), none⟩,
    ⟨.move .look (.p 2), (some 11), none⟩,
    ⟨.convInt .u32 (.p 11), (some 12), none⟩,
    ⟨.hcall 39 [(.p 7, false), (.m 10, false), (.p 12, false)], (some 13), none⟩] k30_0 st := goC_ops
def k30_2 : ACode :=
  .ops [⟨.assign (.c (.slice .nil 0 1 [])), (some 6), none⟩] k30_1
@[simp] theorem xk30_2 : GoC fns Q s k30_2 st ↔ GoO fns Q s [⟨.assign (.c (.slice .nil 0 1 [])), (some 6), none⟩] k30_1 st := goC_ops
def af30 : AFunc := ⟨15, k30_2, [.tmp 6]⟩

theorem ok30 : ∃ hs, pFunc Try.prog sg hs Try.f30 = some af30 := ⟨fun i => if i == 8 then 1 else if i == 10 then 1 else 0, by kernel_rfl⟩
/-- No. 14 -/
def k14_0 : ACode :=
  .ops [⟨.move .look (.t 0), (some 7), none⟩,
    ⟨.call 29 [(.t 7, false)], (some 8), none⟩,
    ⟨.move .look (.p 1), (some 9), none⟩,
    ⟨.convInt .i32 (.p 9), (some 10), none⟩,
    ⟨.move .look (.p 2), (some 11), none⟩,
    ⟨.convInt .i32 (.p 11), (some 12), none⟩,
    ⟨.call 30 [(.t 8, true), (.p 10, false), (.p 12, false)], (some 13), none⟩,
    ⟨.assign (.t 13), (some 6), none⟩] .ret
@[simp] theorem xk14_0 : GoC fns Q s k14_0 st ↔ GoO fns Q s [⟨.move .look (.t 0), (some 7), none⟩,
    ⟨.call 29 [(.t 7, false)], (some 8), none⟩,
    ⟨.move .look (.p 1), (some 9), none⟩,
    ⟨.convInt .i32 (.p 9), (some 10), none⟩,
    ⟨.move .look (.p 2), (some 11), none⟩,
    ⟨.convInt .i32 (.p 11), (some 12), none⟩,
    ⟨.call 30 [(.t 8, true), (.p 10, false), (.p 12, false)], (some 13), none⟩,
    ⟨.assign (.t 13), (some 6), none⟩] .ret st := goC_ops
def k14_1 : ACode :=
  .ops [⟨.assign (.c (.slice .nil 0 1 [])), (some 6), none⟩] k14_0
@[simp] theorem xk14_1 : GoC fns Q s k14_1 st ↔ GoO fns Q s [⟨.assign (.c (.slice .nil 0 1 [])), (some 6), none⟩] k14_0 st := goC_ops
def af14 : AFunc := ⟨14, k14_1, [.tmp 6]⟩

theorem ok14 : ∃ hs, pFunc Try.prog sg hs Try.f14 = some af14 := ⟨fun i => 0, by kernel_rfl⟩
/-- No. 4 -/
def k4_0 : ACode :=
  .ops [⟨.move .look (.t 9), (some 78), none⟩,
    ⟨.move .look (.p 1), (some 79), none⟩,
    ⟨.move .look (.p 2), (some 80), none⟩,
    ⟨.move .look (.t 10), (some 83), none⟩,
    ⟨.convBS (.t 83), (some 84), none⟩,
    ⟨.call 14 [(.t 78, false), (.p 79, false), (.p 80, false)], (some 81), none⟩,
    ⟨.convBS (.t 81), (some 82), none⟩,
    ⟨.bin .eql 2 false (.p 82) (.p 84), (some 85), none⟩,
    ⟨.assign (.p 85), (some 6), none⟩] .ret
@[simp] theorem xk4_0 : GoC fns Q s k4_0 st ↔ GoO fns Q s [⟨.move .look (.t 9), (some 78), none⟩,
    ⟨.move .look (.p 1), (some 79), none⟩,
    ⟨.move .look (.p 2), (some 80), none⟩,
    ⟨.move .look (.t 10), (some 83), none⟩,
    ⟨.convBS (.t 83), (some 84), none⟩,
    ⟨.call 14 [(.t 78, false), (.p 79, false), (.p 80, false)], (some 81), none⟩,
    ⟨.convBS (.t 81), (some 82), none⟩,
    ⟨.bin .eql 2 false (.p 82) (.p 84), (some 85), none⟩,
    ⟨.assign (.p 85), (some 6), none⟩] .ret st := goC_ops
def k4_1 : ACode :=
  .ops [⟨.move .take (.t 10), (some 72), none⟩,
    ⟨.move .look (.t 9), (some 73), none⟩,
    ⟨.move .look (.p 1), (some 74), none⟩,
    ⟨.bin .add 1 true (.p 74) (.c (.int .i64 4)), (some 75), none⟩,
    ⟨.sliceSl 1 (.t 73) (some (.p 75)) none, (some 76), none⟩,
    ⟨.append 5 1 1 false (.t 72) (.p 76), (some 77), none⟩,
    ⟨.assign (.t 77), (some 10), none⟩] k4_0
@[simp] theorem xk4_1 : GoC fns Q s k4_1 st ↔ GoO fns Q s [⟨.move .take (.t 10), (some 72), none⟩,
    ⟨.move .look (.t 9), (some 73), none⟩,
    ⟨.move .look (.p 1), (some 74), none⟩,
    ⟨.bin .add 1 true (.p 74) (.c (.int .i64 4)), (some 75), none⟩,
    ⟨.sliceSl 1 (.t 73) (some (.p 75)) none, (some 76), none⟩,
    ⟨.append 5 1 1 false (.t 72) (.p 76), (some 77), none⟩,
    ⟨.assign (.t 77), (some 10), none⟩] k4_0 st := goC_ops
def k4_2 : ACode :=
  .ops [⟨.move .take (.t 10), (some 69), none⟩,
    ⟨.move .look (.p 2), (some 70), none⟩,
    ⟨.call 13 [(.t 69, true), (.p 70, false)], (some 71), none⟩,
    ⟨.assign (.t 71), (some 10), none⟩] k4_1
@[simp] theorem xk4_2 : GoC fns Q s k4_2 st ↔ GoO fns Q s [⟨.move .take (.t 10), (some 69), none⟩,
    ⟨.move .look (.p 2), (some 70), none⟩,
    ⟨.call 13 [(.t 69, true), (.p 70, false)], (some 71), none⟩,
    ⟨.assign (.t 71), (some 10), none⟩] k4_1 st := goC_ops
def k4_3 : ACode :=
  .ops [⟨.move .look (.t 9), (some 65), none⟩,
    ⟨.move .head (.p 1), (some 66), none⟩,
    ⟨.sliceSl 1 (.t 65) none (some (.p 66)), (some 67), none⟩,
    ⟨.call 12 [(.t 67, false)], (some 68), none⟩,
    ⟨.assign (.t 68), (some 10), none⟩] k4_2
@[simp] theorem xk4_3 : GoC fns Q s k4_3 st ↔ GoO fns Q s [⟨.move .look (.t 9), (some 65), none⟩,
    ⟨.move .head (.p 1), (some 66), none⟩,
    ⟨.sliceSl 1 (.t 65) none (some (.p 66)), (some 67), none⟩,
    ⟨.call 12 [(.t 67, false)], (some 68), none⟩,
    ⟨.assign (.t 68), (some 10), none⟩] k4_2 st := goC_ops
def k4_4 : ACode :=
  .ops [⟨.move .look (.t 0), (some 61), none⟩,
    ⟨.call 12 [(.t 61, false)], (some 62), none⟩,
    ⟨.buildSl 5 1 [.int .u8 0, .int .u8 0, .int .u8 0, .int .u8 0] [(0, 1, .c (.int .u8 1)), (1, 1, .c (.int .u8 2)), (2, 1, .c (.int .u8 3)), (3, 1, .c (.int .u8 4))], (some 63), none⟩,
    ⟨.append 5 1 1 false (.t 62) (.p 63), (some 64), none⟩,
    ⟨.assign (.t 64), (some 9), none⟩] k4_3
@[simp] theorem xk4_4 : GoC fns Q s k4_4 st ↔ GoO fns Q s [⟨.move .look (.t 0), (some 61), none⟩,
    ⟨.call 12 [(.t 61, false)], (some 62), none⟩,
    ⟨.buildSl 5 1 [.int .u8 0, .int .u8 0, .int .u8 0, .int .u8 0] [(0, 1, .c (.int .u8 1)), (1, 1, .c (.int .u8 2)), (2, 1, .c (.int .u8 3)), (3, 1, .c (.int .u8 4))], (some 63), none⟩,
    ⟨.append 5 1 1 false (.t 62) (.p 63), (some 64), none⟩,
    ⟨.assign (.t 64), (some 9), none⟩] k4_3 st := goC_ops
def k4_5 : ACode :=
  .ops [⟨.move .head (.t 0), (some 59), none⟩,
    ⟨.len false (.p 59), (some 60), none⟩,
    ⟨.assign (.p 60), (some 1), none⟩] .skip
@[simp] theorem xk4_5 : GoC fns Q s k4_5 st ↔ GoO fns Q s [⟨.move .head (.t 0), (some 59), none⟩,
    ⟨.len false (.p 59), (some 60), none⟩,
    ⟨.assign (.p 60), (some 1), none⟩] .skip st := goC_ops
def k4_6 : ACode :=
  .cond (.p 58) k4_5 .skip
@[simp] theorem xk4_6 : GoC fns Q s k4_6 st ↔ GB fns Q s (peek st (.p 58)) k4_5 .skip st := goC_cond
def k4_7 : ACode :=
  .seq k4_6 k4_4
@[simp] theorem xk4_7 : GoC fns Q s k4_7 st ↔ GoC fns Q (.sq k4_4 :: s) k4_6 st := goC_seq
def k4_8 : ACode :=
  .ops [⟨.move .look (.p 1), (some 51), none⟩,
    ⟨.bin .lss 1 true (.p 51) (.c (.int .i64 0)), (some 52), none⟩,
    ⟨.move .look (.p 52), (some 53), none⟩,
    ⟨.move .look (.p 1), (some 54), (some (53, false))⟩,
    ⟨.move .head (.t 0), (some 55), (some (53, false))⟩,
    ⟨.len false (.p 55), (some 56), (some (53, false))⟩,
    ⟨.bin .gtr 1 false (.p 54) (.p 56), (some 57), (some (53, false))⟩,
    ⟨.pick (.p 53) (.c (.bool true)) (.p 57), (some 58), none⟩] k4_7
@[simp] theorem xk4_8 : GoC fns Q s k4_8 st ↔ GoO fns Q s [⟨.move .look (.p 1), (some 51), none⟩,
    ⟨.bin .lss 1 true (.p 51) (.c (.int .i64 0)), (some 52), none⟩,
    ⟨.move .look (.p 52), (some 53), none⟩,
    ⟨.move .look (.p 1), (some 54), (some (53, false))⟩,
    ⟨.move .head (.t 0), (some 55), (some (53, false))⟩,
    ⟨.len false (.p 55), (some 56), (some (53, false))⟩,
    ⟨.bin .gtr 1 false (.p 54) (.p 56), (some 57), (some (53, false))⟩,
    ⟨.pick (.p 53) (.c (.bool true)) (.p 57), (some 58), none⟩] k4_7 st := goC_ops
def k4_9 : ACode :=
  .ops [⟨.assign (.c (.bool false)), (some 6), none⟩] .ret
@[simp] theorem xk4_9 : GoC fns Q s k4_9 st ↔ GoO fns Q s [⟨.assign (.c (.bool false)), (some 6), none⟩] .ret st := goC_ops
def k4_10 : ACode :=
  .cond (.p 50) k4_9 .skip
@[simp] theorem xk4_10 : GoC fns Q s k4_10 st ↔ GB fns Q s (peek st (.p 50)) k4_9 .skip st := goC_cond
def k4_11 : ACode :=
  .seq k4_10 k4_8
@[simp] theorem xk4_11 : GoC fns Q s k4_11 st ↔ GoC fns Q (.sq k4_8 :: s) k4_10 st := goC_seq
def k4_12 : ACode :=
  .ops [⟨.move .head (.p 7), (some 31), none⟩,
    ⟨.move .head (.t 0), (some 32), none⟩,
    ⟨.len false (.p 32), (some 33), none⟩,
    ⟨.bin .neq 1 false (.p 31) (.p 33), (some 34), none⟩,
    ⟨.move .look (.p 34), (some 35), none⟩,
    ⟨.move .head (.t 8), (some 36), (some (35, false))⟩,
    ⟨.len false (.p 36), (some 37), (some (35, false))⟩,
    ⟨.move .look (.p 7), (some 38), (some (35, false))⟩,
    ⟨.bin .add 1 true (.p 38) (.c (.int .i64 4)), (some 39), (some (35, false))⟩,
    ⟨.bin .neq 1 false (.p 37) (.p 39), (some 40), (some (35, false))⟩,
    ⟨.pick (.p 35) (.c (.bool true)) (.p 40), (some 41), none⟩,
    ⟨.move .look (.p 41), (some 42), none⟩,
    ⟨.move .look (.t 8), (some 43), (some (42, false))⟩,
    ⟨.move .head (.p 7), (some 44), (some (42, false))⟩,
    ⟨.sliceSl 1 (.t 43) none (some (.p 44)), (some 45), (some (42, false))⟩,
    ⟨.convBS (.t 45), (some 46), (some (42, false))⟩,
    ⟨.move .look (.t 0), (some 47), (some (42, false))⟩,
    ⟨.convBS (.t 47), (some 48), (some (42, false))⟩,
    ⟨.bin .neq 2 false (.p 46) (.p 48), (some 49), (some (42, false))⟩,
    ⟨.pick (.p 42) (.c (.bool true)) (.p 49), (some 50), none⟩] k4_11
@[simp] theorem xk4_12 : GoC fns Q s k4_12 st ↔ GoO fns Q s [⟨.move .head (.p 7), (some 31), none⟩,
    ⟨.move .head (.t 0), (some 32), none⟩,
    ⟨.len false (.p 32), (some 33), none⟩,
    ⟨.bin .neq 1 false (.p 31) (.p 33), (some 34), none⟩,
    ⟨.move .look (.p 34), (some 35), none⟩,
    ⟨.move .head (.t 8), (some 36), (some (35, false))⟩,
    ⟨.len false (.p 36), (some 37), (some (35, false))⟩,
    ⟨.move .look (.p 7), (some 38), (some (35, false))⟩,
    ⟨.bin .add 1 true (.p 38) (.c (.int .i64 4)), (some 39), (some (35, false))⟩,
    ⟨.bin .neq 1 false (.p 37) (.p 39), (some 40), (some (35, false))⟩,
    ⟨.pick (.p 35) (.c (.bool true)) (.p 40), (some 41), none⟩,
    ⟨.move .look (.p 41), (some 42), none⟩,
    ⟨.move .look (.t 8), (some 43), (some (42, false))⟩,
    ⟨.move .head (.p 7), (some 44), (some (42, false))⟩,
    ⟨.sliceSl 1 (.t 43) none (some (.p 44)), (some 45), (some (42, false))⟩,
    ⟨.convBS (.t 45), (some 46), (some (42, false))⟩,
    ⟨.move .look (.t 0), (some 47), (some (42, false))⟩,
    ⟨.convBS (.t 47), (some 48), (some (42, false))⟩,
    ⟨.bin .neq 2 false (.p 46) (.p 48), (some 49), (some (42, false))⟩,
    ⟨.pick (.p 42) (.c (.bool true)) (.p 49), (some 50), none⟩] k4_11 st := goC_ops
def k4_13 : ACode :=
  .ops [⟨.move .look (.t 0), (some 26), none⟩,
    ⟨.call 12 [(.t 26, false)], (some 27), none⟩,
    ⟨.call 11 [(.t 27, false)], (some 28), none⟩,
    ⟨.move .look (.t 28), (some 25), none⟩,
    ⟨.extract 25 0, (some 29), none⟩,
    ⟨.extract 25 1, (some 30), none⟩,
    ⟨.assign (.p 29), (some 7), none⟩,
    ⟨.assign (.t 30), (some 8), none⟩] k4_12
@[simp] theorem xk4_13 : GoC fns Q s k4_13 st ↔ GoO fns Q s [⟨.move .look (.t 0), (some 26), none⟩,
    ⟨.call 12 [(.t 26, false)], (some 27), none⟩,
    ⟨.call 11 [(.t 27, false)], (some 28), none⟩,
    ⟨.move .look (.t 28), (some 25), none⟩,
    ⟨.extract 25 0, (some 29), none⟩,
    ⟨.extract 25 1, (some 30), none⟩,
    ⟨.assign (.p 29), (some 7), none⟩,
    ⟨.assign (.t 30), (some 8), none⟩] k4_12 st := goC_ops
def k4_14 : ACode :=
  .ops [⟨.assign (.c (.bool true)), (some 6), none⟩] .ret
@[simp] theorem xk4_14 : GoC fns Q s k4_14 st ↔ GoO fns Q s [⟨.assign (.c (.bool true)), (some 6), none⟩] .ret st := goC_ops
def k4_15 : ACode :=
  .cond (.p 24) k4_14 .skip
@[simp] theorem xk4_15 : GoC fns Q s k4_15 st ↔ GB fns Q s (peek st (.p 24)) k4_14 .skip st := goC_cond
def k4_16 : ACode :=
  .seq k4_15 k4_13
@[simp] theorem xk4_16 : GoC fns Q s k4_16 st ↔ GoC fns Q (.sq k4_13 :: s) k4_15 st := goC_seq
def k4_17 : ACode :=
  .ops [⟨.move .head (.t 0), (some 14), none⟩,
    ⟨.len false (.p 14), (some 15), none⟩,
    ⟨.bin .gtr 1 true (.p 15) (.c (.int .i64 1000)), (some 16), none⟩,
    ⟨.move .look (.p 16), (some 17), none⟩,
    ⟨.move .look (.p 2), (some 18), (some (17, false))⟩,
    ⟨.bin .lss 1 true (.p 18) (.c (.int .i64 (-2147483648))), (some 19), (some (17, false))⟩,
    ⟨.pick (.p 17) (.c (.bool true)) (.p 19), (some 20), none⟩,
    ⟨.move .look (.p 20), (some 21), none⟩,
    ⟨.move .look (.p 2), (some 22), (some (21, false))⟩,
    ⟨.bin .geq 1 true (.p 22) (.c (.int .i64 2147483648)), (some 23), (some (21, false))⟩,
    ⟨.pick (.p 21) (.c (.bool true)) (.p 23), (some 24), none⟩] k4_16
@[simp] theorem xk4_17 : GoC fns Q s k4_17 st ↔ GoO fns Q s [⟨.move .head (.t 0), (some 14), none⟩,
    ⟨.len false (.p 14), (some 15), none⟩,
    ⟨.bin .gtr 1 true (.p 15) (.c (.int .i64 1000)), (some 16), none⟩,
    ⟨.move .look (.p 16), (some 17), none⟩,
    ⟨.move .look (.p 2), (some 18), (some (17, false))⟩,
    ⟨.bin .lss 1 true (.p 18) (.c (.int .i64 (-2147483648))), (some 19), (some (17, false))⟩,
    ⟨.pick (.p 17) (.c (.bool true)) (.p 19), (some 20), none⟩,
    ⟨.move .look (.p 20), (some 21), none⟩,
    ⟨.move .look (.p 2), (some 22), (some (21, false))⟩,
    ⟨.bin .geq 1 true (.p 22) (.c (.int .i64 2147483648)), (some 23), (some (21, false))⟩,
    ⟨.pick (.p 21) (.c (.bool true)) (.p 23), (some 24), none⟩] k4_16 st := goC_ops
def k4_18 : ACode :=
  .ops [⟨.assign (.c (.bool true)), (some 6), none⟩] .ret
@[simp] theorem xk4_18 : GoC fns Q s k4_18 st ↔ GoO fns Q s [⟨.assign (.c (.bool true)), (some 6), none⟩] .ret st := goC_ops
def k4_19 : ACode :=
  .cond (.p 13) k4_18 .skip
@[simp] theorem xk4_19 : GoC fns Q s k4_19 st ↔ GB fns Q s (peek st (.p 13)) k4_18 .skip st := goC_cond
def k4_20 : ACode :=
  .seq k4_19 k4_17
@[simp] theorem xk4_20 : GoC fns Q s k4_20 st ↔ GoC fns Q (.sq k4_17 :: s) k4_19 st := goC_seq
def k4_21 : ACode :=
  .ops [⟨.move .head (.t 0), (some 11), none⟩,
    ⟨.len false (.p 11), (some 12), none⟩,
    ⟨.bin .gtr 1 true (.p 12) (.c (.int .i64 2147483647)), (some 13), none⟩] k4_20
@[simp] theorem xk4_21 : GoC fns Q s k4_21 st ↔ GoO fns Q s [⟨.move .head (.t 0), (some 11), none⟩,
    ⟨.len false (.p 11), (some 12), none⟩,
    ⟨.bin .gtr 1 true (.p 12) (.c (.int .i64 2147483647)), (some 13), none⟩] k4_20 st := goC_ops
def k4_22 : ACode :=
  .ops [⟨.assign (.c (.bool false)), (some 6), none⟩] k4_21
@[simp] theorem xk4_22 : GoC fns Q s k4_22 st ↔ GoO fns Q s [⟨.assign (.c (.bool false)), (some 6), none⟩] k4_21 st := goC_ops
def af4 : AFunc := ⟨86, k4_22, [.tmp 6]⟩

theorem ok4 : ∃ hs, pFunc Try.prog sg hs Try.f4 = some af4 := ⟨fun i => 0, by kernel_rfl⟩
end
def fns : FuncId → Option AFunc
  | 12 => some af12
  | 29 => some af29
  | 28 => some af28
  | 11 => some af11
  | 13 => some af13
  | 39 => some af39
  | 30 => some af30
  | 14 => some af14
  | 4 => some af4
  | _ => none
theorem run12 {vs : List AV} {h0 : H} (hl : vs.length ≤ 6) {r : AV × H} (h : GoC fns (fun e => xends [.tmp 2] e = some r) [] k12_1 ⟨fun j => (vs[j]?).getD .undef, fun _ => none, h0⟩) : callω fns 12 vs h0 = some r :=
  callω_run fns (af := af12) rfl rfl rfl hl h
theorem runs12 {vs : List AV} {h0 : H} (hl : vs.length ≤ 6) {p : AV × H → Prop} (h : GoC fns (fun e => Run (xends [.tmp 2] e) p) [] k12_1 ⟨fun j => (vs[j]?).getD .undef, fun _ => none, h0⟩) : Run (callω fns 12 vs h0) p :=
  callω_runs fns (af := af12) rfl rfl rfl hl h
theorem run29 {vs : List AV} {h0 : H} (hl : vs.length ≤ 5) {r : AV × H} (h : GoC fns (fun e => xends [.tmp 2] e = some r) [] k29_1 ⟨fun j => (vs[j]?).getD .undef, fun _ => none, h0⟩) : callω fns 29 vs h0 = some r :=
  callω_run fns (af := af29) rfl rfl rfl hl h
theorem runs29 {vs : List AV} {h0 : H} (hl : vs.length ≤ 5) {p : AV × H → Prop} (h : GoC fns (fun e => Run (xends [.tmp 2] e) p) [] k29_1 ⟨fun j => (vs[j]?).getD .undef, fun _ => none, h0⟩) : Run (callω fns 29 vs h0) p :=
  callω_runs fns (af := af29) rfl rfl rfl hl h
theorem run28 {vs : List AV} {h0 : H} (hl : vs.length ≤ 12) {r : AV × H} (h : GoC fns (fun e => xends [.tmp 2, .tmp 3] e = some r) [] k28_2 ⟨fun j => (vs[j]?).getD .undef, fun _ => none, h0⟩) : callω fns 28 vs h0 = some r :=
  callω_run fns (af := af28) rfl rfl rfl hl h
theorem runs28 {vs : List AV} {h0 : H} (hl : vs.length ≤ 12) {p : AV × H → Prop} (h : GoC fns (fun e => Run (xends [.tmp 2, .tmp 3] e) p) [] k28_2 ⟨fun j => (vs[j]?).getD .undef, fun _ => none, h0⟩) : Run (callω fns 28 vs h0) p :=
  callω_runs fns (af := af28) rfl rfl rfl hl h
theorem run11 {vs : List AV} {h0 : H} (hl : vs.length ≤ 15) {r : AV × H} (h : GoC fns (fun e => xends [.tmp 2, .tmp 3] e = some r) [] k11_2 ⟨fun j => (vs[j]?).getD .undef, fun _ => none, h0⟩) : callω fns 11 vs h0 = some r :=
  callω_run fns (af := af11) rfl rfl rfl hl h
theorem runs11 {vs : List AV} {h0 : H} (hl : vs.length ≤ 15) {p : AV × H → Prop} (h : GoC fns (fun e => Run (xends [.tmp 2, .tmp 3] e) p) [] k11_2 ⟨fun j => (vs[j]?).getD .undef, fun _ => none, h0⟩) : Run (callω fns 11 vs h0) p :=
  callω_runs fns (af := af11) rfl rfl rfl hl h
theorem run13 {vs : List AV} {h0 : H} (hl : vs.length ≤ 19) {r : AV × H} (h : GoC fns (fun e => xends [.tmp 4] e = some r) [] k13_1 ⟨fun j => (vs[j]?).getD .undef, fun _ => none, h0⟩) : callω fns 13 vs h0 = some r :=
  callω_run fns (af := af13) rfl rfl rfl hl h
theorem runs13 {vs : List AV} {h0 : H} (hl : vs.length ≤ 19) {p : AV × H → Prop} (h : GoC fns (fun e => Run (xends [.tmp 4] e) p) [] k13_1 ⟨fun j => (vs[j]?).getD .undef, fun _ => none, h0⟩) : Run (callω fns 13 vs h0) p :=
  callω_runs fns (af := af13) rfl rfl rfl hl h
theorem run39 {vs : List AV} {h0 : H} (hl : vs.length ≤ 28) {r : AV × H} (h : GoC fns (fun e => xends [] e = some r) [] k39_5 ⟨fun j => (vs[j]?).getD .undef, fun _ => none, h0⟩) : callω fns 39 vs h0 = some r :=
  callω_run fns (af := af39) rfl rfl rfl hl h
theorem runs39 {vs : List AV} {h0 : H} (hl : vs.length ≤ 28) {p : AV × H → Prop} (h : GoC fns (fun e => Run (xends [] e) p) [] k39_5 ⟨fun j => (vs[j]?).getD .undef, fun _ => none, h0⟩) : Run (callω fns 39 vs h0) p :=
  callω_runs fns (af := af39) rfl rfl rfl hl h
theorem run30 {vs : List AV} {h0 : H} (hl : vs.length ≤ 15) {r : AV × H} (h : GoC fns (fun e => xends [.tmp 6] e = some r) [] k30_2 ⟨fun j => (vs[j]?).getD .undef, fun _ => none, h0⟩) : callω fns 30 vs h0 = some r :=
  callω_run fns (af := af30) rfl rfl rfl hl h
theorem runs30 {vs : List AV} {h0 : H} (hl : vs.length ≤ 15) {p : AV × H → Prop} (h : GoC fns (fun e => Run (xends [.tmp 6] e) p) [] k30_2 ⟨fun j => (vs[j]?).getD .undef, fun _ => none, h0⟩) : Run (callω fns 30 vs h0) p :=
  callω_runs fns (af := af30) rfl rfl rfl hl h
theorem run14 {vs : List AV} {h0 : H} (hl : vs.length ≤ 14) {r : AV × H} (h : GoC fns (fun e => xends [.tmp 6] e = some r) [] k14_1 ⟨fun j => (vs[j]?).getD .undef, fun _ => none, h0⟩) : callω fns 14 vs h0 = some r :=
  callω_run fns (af := af14) rfl rfl rfl hl h
theorem runs14 {vs : List AV} {h0 : H} (hl : vs.length ≤ 14) {p : AV × H → Prop} (h : GoC fns (fun e => Run (xends [.tmp 6] e) p) [] k14_1 ⟨fun j => (vs[j]?).getD .undef, fun _ => none, h0⟩) : Run (callω fns 14 vs h0) p :=
  callω_runs fns (af := af14) rfl rfl rfl hl h
theorem run4 {vs : List AV} {h0 : H} (hl : vs.length ≤ 86) {r : AV × H} (h : GoC fns (fun e => xends [.tmp 6] e = some r) [] k4_22 ⟨fun j => (vs[j]?).getD .undef, fun _ => none, h0⟩) : callω fns 4 vs h0 = some r :=
  callω_run fns (af := af4) rfl rfl rfl hl h
theorem runs4 {vs : List AV} {h0 : H} (hl : vs.length ≤ 86) {p : AV × H → Prop} (h : GoC fns (fun e => Run (xends [.tmp 6] e) p) [] k4_22 ⟨fun j => (vs[j]?).getD .undef, fun _ => none, h0⟩) : Run (callω fns 4 vs h0) p :=
  callω_runs fns (af := af4) rfl rfl rfl hl h
theorem fnsOk : FnsOk Try.prog sg fns := by
  intro f af h
  unfold fns at h
  split at h <;> first
    | (injection h with h; subst h; exact ⟨Try.f12, Try.func12, by kernel_rfl, ok12⟩)
    | (injection h with h; subst h; exact ⟨Try.f29, Try.func29, by kernel_rfl, ok29⟩)
    | (injection h with h; subst h; exact ⟨Try.f28, Try.func28, by kernel_rfl, ok28⟩)
    | (injection h with h; subst h; exact ⟨Try.f11, Try.func11, by kernel_rfl, ok11⟩)
    | (injection h with h; subst h; exact ⟨Try.f13, Try.func13, by kernel_rfl, ok13⟩)
    | (injection h with h; subst h; exact ⟨Try.f39, Try.func39, by kernel_rfl, ok39⟩)
    | (injection h with h; subst h; exact ⟨Try.f30, Try.func30, by kernel_rfl, ok30⟩)
    | (injection h with h; subst h; exact ⟨Try.f14, Try.func14, by kernel_rfl, ok14⟩)
    | (injection h with h; subst h; exact ⟨Try.f4, Try.func4, by kernel_rfl, ok4⟩)
    | cases h
end Go.Proofs.Ytfamhjnjlgdglaa.Abs
