/- The functions that the law reaches, made ready for the interpreter (printed by a program of this session; the kernel compares each with the given program). -/
import Derived.Test.YtcipaobalemdoaaDoorA27
import Derived.Test.YtcipaobalemdoaaDoorProg
import Derived.KernelRfl
namespace Go.Proofs.YtcipaobalemdoaaDoor.Abs
set_option linter.all false
set_option maxRecDepth 100000
open Go.Proofs
def sg : FuncId → Nat → Nat := fun f i =>
  if f == 33 then (if i == 99 then 1 else 0) else
  if f == 45 then (if i == 99 then 1 else 0) else
  if f == 46 then (if i == 99 then 1 else 0) else
  if f == 47 then (if i == 99 then 1 else 0) else
  if f == 48 then (if i == 99 then 1 else 0) else
  if f == 65 then (if i == 0 then 2 else if i == 99 then 1 else 0) else
  if f == 66 then (if i == 0 then 2 else if i == 99 then 1 else 0) else
  0
section
variable {fns : FuncId → Option AFunc} {Q : Ex × St → Prop} {s : List Fr} {c : ACode} {st : St}
/-- No. 43 -/
def k43_0 : ACode :=
  .ops [⟨.load .take true 12 (.p 2), (some 6), none⟩,
    ⟨.store 12 (.p 2) (.p 6), none, none⟩] .ret
@[simp] theorem xk43_0 : GoC fns Q s k43_0 st ↔ GoO fns Q s [⟨.load .take true 12 (.p 2), (some 6), none⟩,
    ⟨.store 12 (.p 2) (.p 6), none, none⟩] .ret st := goC_ops
def k43_1 : ACode :=
  .ops [⟨.px (.slArr 12 5 1) [.p 2, .c (.int .i64 0), .c (.int .i64 12)], (some 3), none⟩,
    ⟨.move .look (.t 0), (some 4), none⟩,
    ⟨.copyB 1 false (.m 3) (.p 4), (some 5), none⟩] k43_0
@[simp] theorem xk43_1 : GoC fns Q s k43_1 st ↔ GoO fns Q s [⟨.px (.slArr 12 5 1) [.p 2, .c (.int .i64 0), .c (.int .i64 12)], (some 3), none⟩,
    ⟨.move .look (.t 0), (some 4), none⟩,
    ⟨.copyB 1 false (.m 3) (.p 4), (some 5), none⟩] k43_0 st := goC_ops
def k43_2 : ACode :=
  .ops [⟨.newobj [.int .u8 0, .int .u8 0, .int .u8 0, .int .u8 0, .int .u8 0, .int .u8 0, .int .u8 0, .int .u8 0, .int .u8 0, .int .u8 0, .int .u8 0, .int .u8 0], (some 2), none⟩] k43_1
@[simp] theorem xk43_2 : GoC fns Q s k43_2 st ↔ GoO fns Q s [⟨.newobj [.int .u8 0, .int .u8 0, .int .u8 0, .int .u8 0, .int .u8 0, .int .u8 0, .int .u8 0, .int .u8 0, .int .u8 0, .int .u8 0, .int .u8 0, .int .u8 0], (some 2), none⟩] k43_1 st := goC_ops
def af43 : AFunc := ⟨7, k43_2, [.cell 2 true 12]⟩

theorem ok43 : ∃ hs, pFunc Tryd.prog sg hs Tryd.f43 = some af43 := ⟨fun i => if i == 2 then 1 else if i == 3 then 1 else 0, by kernel_rfl⟩
/-- No. 65 -/
def k65_0 : ACode :=
  .ops [⟨.move .head (.t 1), (some 30), none⟩,
    ⟨.len false (.p 30), (some 31), none⟩,
    ⟨.bin .mul 1 true (.p 31) (.c (.int .i64 2)), (some 32), none⟩,
    ⟨.assign (.p 32), (some 4), none⟩] .ret
@[simp] theorem xk65_0 : GoC fns Q s k65_0 st ↔ GoO fns Q s [⟨.move .head (.t 1), (some 30), none⟩,
    ⟨.len false (.p 30), (some 31), none⟩,
    ⟨.bin .mul 1 true (.p 31) (.c (.int .i64 2)), (some 32), none⟩,
    ⟨.assign (.p 32), (some 4), none⟩] .ret st := goC_ops
def k65_1 : ACode :=
  .ops [⟨.bin .add 1 true (.p 10) (.c (.int .i64 1)), (some 29), none⟩,
    ⟨.move .look (.p 29), (some 10), none⟩] .skip
@[simp] theorem xk65_1 : GoC fns Q s k65_1 st ↔ GoO fns Q s [⟨.bin .add 1 true (.p 10) (.c (.int .i64 1)), (some 29), none⟩,
    ⟨.move .look (.p 29), (some 10), none⟩] .skip st := goC_ops
def k65_2 : ACode :=
  .ops [⟨.move .look (.p 5), (some 27), none⟩,
    ⟨.bin .add 1 true (.p 27) (.c (.int .i64 2)), (some 28), none⟩,
    ⟨.assign (.p 28), (some 5), none⟩] .skip
@[simp] theorem xk65_2 : GoC fns Q s k65_2 st ↔ GoO fns Q s [⟨.move .look (.p 5), (some 27), none⟩,
    ⟨.bin .add 1 true (.p 27) (.c (.int .i64 2)), (some 28), none⟩,
    ⟨.assign (.p 28), (some 5), none⟩] .skip st := goC_ops
def k65_3 : ACode :=
  .ops [⟨.move .look (.m 0), (some 20), none⟩,
    ⟨.move .look (.p 5), (some 21), none⟩,
    ⟨.bin .add 1 true (.p 21) (.c (.int .i64 1)), (some 22), none⟩,
    ⟨.move .look (.p 7), (some 23), none⟩,
    ⟨.bin .and 1 true (.p 23) (.c (.int .u8 15)), (some 24), none⟩,
    ⟨.indexStr (.c (.str [48, 49, 50, 51, 52, 53, 54, 55, 56, 57, 97, 98, 99, 100, 101, 102])) (.p 24), (some 25), none⟩,
    ⟨.indexAddr 1 (.m 20) (.p 22), (some 26), none⟩,
    ⟨.store 1 (.p 26) (.p 25), none, none⟩] k65_2
@[simp] theorem xk65_3 : GoC fns Q s k65_3 st ↔ GoO fns Q s [⟨.move .look (.m 0), (some 20), none⟩,
    ⟨.move .look (.p 5), (some 21), none⟩,
    ⟨.bin .add 1 true (.p 21) (.c (.int .i64 1)), (some 22), none⟩,
    ⟨.move .look (.p 7), (some 23), none⟩,
    ⟨.bin .and 1 true (.p 23) (.c (.int .u8 15)), (some 24), none⟩,
    ⟨.indexStr (.c (.str [48, 49, 50, 51, 52, 53, 54, 55, 56, 57, 97, 98, 99, 100, 101, 102])) (.p 24), (some 25), none⟩,
    ⟨.indexAddr 1 (.m 20) (.p 22), (some 26), none⟩,
    ⟨.store 1 (.p 26) (.p 25), none, none⟩] k65_2 st := goC_ops
def k65_4 : ACode :=
  .ops [⟨.move .look (.m 0), (some 14), none⟩,
    ⟨.move .look (.p 5), (some 15), none⟩,
    ⟨.move .look (.p 7), (some 16), none⟩,
    ⟨.bin .shr 1 true (.p 16) (.c (.int .u64 4)), (some 17), none⟩,
    ⟨.indexStr (.c (.str [48, 49, 50, 51, 52, 53, 54, 55, 56, 57, 97, 98, 99, 100, 101, 102])) (.p 17), (some 18), none⟩,
    ⟨.indexAddr 1 (.m 14) (.p 15), (some 19), none⟩,
    ⟨.store 1 (.p 19) (.p 18), none, none⟩] k65_3
@[simp] theorem xk65_4 : GoC fns Q s k65_4 st ↔ GoO fns Q s [⟨.move .look (.m 0), (some 14), none⟩,
    ⟨.move .look (.p 5), (some 15), none⟩,
    ⟨.move .look (.p 7), (some 16), none⟩,
    ⟨.bin .shr 1 true (.p 16) (.c (.int .u64 4)), (some 17), none⟩,
    ⟨.indexStr (.c (.str [48, 49, 50, 51, 52, 53, 54, 55, 56, 57, 97, 98, 99, 100, 101, 102])) (.p 17), (some 18), none⟩,
    ⟨.indexAddr 1 (.m 14) (.p 15), (some 19), none⟩,
    ⟨.store 1 (.p 19) (.p 18), none, none⟩] k65_3 st := goC_ops
def k65_5 : ACode :=
  .ops [⟨.indexAddr 1 (.t 8) (.p 10), (some 12), none⟩,
    ⟨.load .take false 1 (.p 12), (some 13), none⟩,
    ⟨.assign (.p 13), (some 7), none⟩] k65_4
@[simp] theorem xk65_5 : GoC fns Q s k65_5 st ↔ GoO fns Q s [⟨.indexAddr 1 (.t 8) (.p 10), (some 12), none⟩,
    ⟨.load .take false 1 (.p 12), (some 13), none⟩,
    ⟨.assign (.p 13), (some 7), none⟩] k65_4 st := goC_ops
def k65_6 : ACode :=
  .block 1 k65_5
@[simp] theorem xk65_6 : GoC fns Q s k65_6 st ↔ GoC fns Q (.bl 1 :: s) k65_5 st := goC_block
def k65_7 : ACode :=
  .seq k65_6 k65_1
@[simp] theorem xk65_7 : GoC fns Q s k65_7 st ↔ GoC fns Q (.sq k65_1 :: s) k65_6 st := goC_seq
def k65_8 : ACode :=
  .cond (.p 11) .skip (.exit 0)
@[simp] theorem xk65_8 : GoC fns Q s k65_8 st ↔ GB fns Q s (peek st (.p 11)) .skip (.exit 0) st := goC_cond
def k65_9 : ACode :=
  .seq k65_8 k65_7
@[simp] theorem xk65_9 : GoC fns Q s k65_9 st ↔ GoC fns Q (.sq k65_7 :: s) k65_8 st := goC_seq
def k65_10 : ACode :=
  .ops [⟨.bin .lss 1 false (.p 10) (.p 9), (some 11), none⟩] k65_9
@[simp] theorem xk65_10 : GoC fns Q s k65_10 st ↔ GoO fns Q s [⟨.bin .lss 1 false (.p 10) (.p 9), (some 11), none⟩] k65_9 st := goC_ops
def lc65_0 : ACode :=
  k65_10
@[simp] theorem xlc65_0 : GoC fns Q s lc65_0 st ↔ GoC fns Q s k65_10 st := Iff.rfl
def k65_12 : ACode :=
  .loop lc65_0
@[simp] theorem xk65_12 : GoC fns Q s k65_12 st ↔ (LoopR fns lc65_0 st fun r => GoE fns Q s r.1 r.2) := goC_loop
def k65_13 : ACode :=
  .block 0 k65_12
@[simp] theorem xk65_13 : GoC fns Q s k65_13 st ↔ GoC fns Q (.bl 0 :: s) k65_12 st := goC_block
def k65_14 : ACode :=
  .seq k65_13 k65_0
@[simp] theorem xk65_14 : GoC fns Q s k65_14 st ↔ GoC fns Q (.sq k65_0 :: s) k65_13 st := goC_seq
def k65_15 : ACode :=
  .ops [⟨.move .head (.t 1), (some 8), none⟩,
    ⟨.len false (.p 8), (some 9), none⟩,
    ⟨.move .head (.c (.int .i64 0)), (some 10), none⟩] k65_14
@[simp] theorem xk65_15 : GoC fns Q s k65_15 st ↔ GoO fns Q s [⟨.move .head (.t 1), (some 8), none⟩,
    ⟨.len false (.p 8), (some 9), none⟩,
    ⟨.move .head (.c (.int .i64 0)), (some 10), none⟩] k65_14 st := goC_ops
def k65_16 : ACode :=
  .ops [⟨.assign (.c (.int .i64 0)), (some 5), none⟩] k65_15
@[simp] theorem xk65_16 : GoC fns Q s k65_16 st ↔ GoO fns Q s [⟨.assign (.c (.int .i64 0)), (some 5), none⟩] k65_15 st := goC_ops
def k65_17 : ACode :=
  .ops [⟨.assign (.c (.int .i64 0)), (some 4), none⟩] k65_16
@[simp] theorem xk65_17 : GoC fns Q s k65_17 st ↔ GoO fns Q s [⟨.assign (.c (.int .i64 0)), (some 4), none⟩] k65_16 st := goC_ops
def af65 : AFunc := ⟨33, k65_17, [.tmp 4]⟩

theorem ok65 : ∃ hs, pFunc Tryd.prog sg hs Tryd.f65 = some af65 := ⟨fun i => if i == 14 then 1 else if i == 19 then 1 else if i == 20 then 1 else if i == 26 then 1 else 0, by kernel_rfl⟩
/-- No. 44 -/
def k44_0 : ACode :=
  .ops [⟨.px (.slArr 24 5 1) [.p 3, .c (.int .i64 0), .c (.int .i64 24)], (some 7), none⟩,
    ⟨.convBS (.t 7), (some 8), none⟩,
    ⟨.assign (.p 8), (some 2), none⟩] .ret
@[simp] theorem xk44_0 : GoC fns Q s k44_0 st ↔ GoO fns Q s [⟨.px (.slArr 24 5 1) [.p 3, .c (.int .i64 0), .c (.int .i64 24)], (some 7), none⟩,
    ⟨.convBS (.t 7), (some 8), none⟩,
    ⟨.assign (.p 8), (some 2), none⟩] .ret st := goC_ops
def k44_1 : ACode :=
  .ops [⟨.px (.slArr 24 5 1) [.p 3, .c (.int .i64 0), .c (.int .i64 24)], (some 4), none⟩,
    ⟨.px (.slArr 12 5 1) [.p 1, .c (.int .i64 0), .c (.int .i64 12)], (some 5), none⟩,
    ⟨.hcall 65 [(.m 4, false), (.t 5, false)], (some 6), none⟩] k44_0
@[simp] theorem xk44_1 : GoC fns Q s k44_1 st ↔ GoO fns Q s [⟨.px (.slArr 24 5 1) [.p 3, .c (.int .i64 0), .c (.int .i64 24)], (some 4), none⟩,
    ⟨.px (.slArr 12 5 1) [.p 1, .c (.int .i64 0), .c (.int .i64 12)], (some 5), none⟩,
    ⟨.hcall 65 [(.m 4, false), (.t 5, false)], (some 6), none⟩] k44_0 st := goC_ops
def k44_2 : ACode :=
  .ops [⟨.newobj [.int .u8 0, .int .u8 0, .int .u8 0, .int .u8 0, .int .u8 0, .int .u8 0, .int .u8 0, .int .u8 0, .int .u8 0, .int .u8 0, .int .u8 0, .int .u8 0, .int .u8 0, .int .u8 0, .int .u8 0, .int .u8 0, .int .u8 0, .int .u8 0, .int .u8 0, .int .u8 0, .int .u8 0, .int .u8 0, .int .u8 0, .int .u8 0], (some 3), none⟩] k44_1
@[simp] theorem xk44_2 : GoC fns Q s k44_2 st ↔ GoO fns Q s [⟨.newobj [.int .u8 0, .int .u8 0, .int .u8 0, .int .u8 0, .int .u8 0, .int .u8 0, .int .u8 0, .int .u8 0, .int .u8 0, .int .u8 0, .int .u8 0, .int .u8 0, .int .u8 0, .int .u8 0, .int .u8 0, .int .u8 0, .int .u8 0, .int .u8 0, .int .u8 0, .int .u8 0, .int .u8 0, .int .u8 0, .int .u8 0, .int .u8 0], (some 3), none⟩] k44_1 st := goC_ops
def k44_3 : ACode :=
  .ops [⟨.boxobj (.p 0), (some 1), none⟩,
    ⟨.assign (.c (.str [])), (some 2), none⟩] k44_2
@[simp] theorem xk44_3 : GoC fns Q s k44_3 st ↔ GoO fns Q s [⟨.boxobj (.p 0), (some 1), none⟩,
    ⟨.assign (.c (.str [])), (some 2), none⟩] k44_2 st := goC_ops
def af44 : AFunc := ⟨9, k44_3, [.tmp 2]⟩

theorem ok44 : ∃ hs, pFunc Tryd.prog sg hs Tryd.f44 = some af44 := ⟨fun i => if i == 1 then 1 else if i == 3 then 1 else if i == 4 then 1 else 0, by kernel_rfl⟩
/-- No. 19 -/
def k19_0 : ACode :=
  .ops [⟨.move .look (.t 0), (some 3), none⟩,
    ⟨.call 43 [(.t 3, false)], (some 4), none⟩,
    ⟨.call 44 [(.p 4, false)], (some 5), none⟩,
    ⟨.assign (.p 5), (some 2), none⟩] .ret
@[simp] theorem xk19_0 : GoC fns Q s k19_0 st ↔ GoO fns Q s [⟨.move .look (.t 0), (some 3), none⟩,
    ⟨.call 43 [(.t 3, false)], (some 4), none⟩,
    ⟨.call 44 [(.p 4, false)], (some 5), none⟩,
    ⟨.assign (.p 5), (some 2), none⟩] .ret st := goC_ops
def k19_1 : ACode :=
  .ops [⟨.assign (.c (.str [])), (some 2), none⟩] k19_0
@[simp] theorem xk19_1 : GoC fns Q s k19_1 st ↔ GoO fns Q s [⟨.assign (.c (.str [])), (some 2), none⟩] k19_0 st := goC_ops
def af19 : AFunc := ⟨6, k19_1, [.tmp 2]⟩

theorem ok19 : ∃ hs, pFunc Tryd.prog sg hs Tryd.f19 = some af19 := ⟨fun i => 0, by kernel_rfl⟩
/-- No. 45 -/
def k45_0 : ACode :=
  .ops [⟨.px (.slArr 24 5 1) [.p 4, .c (.int .i64 0), .c (.int .i64 24)], (some 8), none⟩,
    ⟨.assign (.t 8), (some 2), none⟩,
    ⟨.assign (.c (.nilI)), (some 3), none⟩] .ret
@[simp] theorem xk45_0 : GoC fns Q s k45_0 st ↔ GoO fns Q s [⟨.px (.slArr 24 5 1) [.p 4, .c (.int .i64 0), .c (.int .i64 24)], (some 8), none⟩,
    ⟨.assign (.t 8), (some 2), none⟩,
    ⟨.assign (.c (.nilI)), (some 3), none⟩] .ret st := goC_ops
def k45_1 : ACode :=
  .ops [⟨.px (.slArr 24 5 1) [.p 4, .c (.int .i64 0), .c (.int .i64 24)], (some 5), none⟩,
    ⟨.px (.slArr 12 5 1) [.p 1, .c (.int .i64 0), .c (.int .i64 12)], (some 6), none⟩,
    ⟨.hcall 65 [(.m 5, false), (.t 6, false)], (some 7), none⟩] k45_0
@[simp] theorem xk45_1 : GoC fns Q s k45_1 st ↔ GoO fns Q s [⟨.px (.slArr 24 5 1) [.p 4, .c (.int .i64 0), .c (.int .i64 24)], (some 5), none⟩,
    ⟨.px (.slArr 12 5 1) [.p 1, .c (.int .i64 0), .c (.int .i64 12)], (some 6), none⟩,
    ⟨.hcall 65 [(.m 5, false), (.t 6, false)], (some 7), none⟩] k45_0 st := goC_ops
def k45_2 : ACode :=
  .ops [⟨.newobj [.int .u8 0, .int .u8 0, .int .u8 0, .int .u8 0, .int .u8 0, .int .u8 0, .int .u8 0, .int .u8 0, .int .u8 0, .int .u8 0, .int .u8 0, .int .u8 0, .int .u8 0, .int .u8 0, .int .u8 0, .int .u8 0, .int .u8 0, .int .u8 0, .int .u8 0, .int .u8 0, .int .u8 0, .int .u8 0, .int .u8 0, .int .u8 0], (some 4), none⟩] k45_1
@[simp] theorem xk45_2 : GoC fns Q s k45_2 st ↔ GoO fns Q s [⟨.newobj [.int .u8 0, .int .u8 0, .int .u8 0, .int .u8 0, .int .u8 0, .int .u8 0, .int .u8 0, .int .u8 0, .int .u8 0, .int .u8 0, .int .u8 0, .int .u8 0, .int .u8 0, .int .u8 0, .int .u8 0, .int .u8 0, .int .u8 0, .int .u8 0, .int .u8 0, .int .u8 0, .int .u8 0, .int .u8 0, .int .u8 0, .int .u8 0], (some 4), none⟩] k45_1 st := goC_ops
def k45_3 : ACode :=
  .ops [⟨.boxobj (.p 0), (some 1), none⟩,
    ⟨.assign (.c (.slice .nil 0 1 [])), (some 2), none⟩,
    ⟨.assign (.c (.nilI)), (some 3), none⟩] k45_2
@[simp] theorem xk45_3 : GoC fns Q s k45_3 st ↔ GoO fns Q s [⟨.boxobj (.p 0), (some 1), none⟩,
    ⟨.assign (.c (.slice .nil 0 1 [])), (some 2), none⟩,
    ⟨.assign (.c (.nilI)), (some 3), none⟩] k45_2 st := goC_ops
def af45 : AFunc := ⟨9, k45_3, [.tmp 2, .tmp 3]⟩

theorem ok45 : ∃ hs, pFunc Tryd.prog sg hs Tryd.f45 = some af45 := ⟨fun i => if i == 1 then 1 else if i == 4 then 1 else if i == 5 then 1 else 0, by kernel_rfl⟩
/-- No. 33 -/
def k33_0 : ACode :=
  .ops [⟨.move .look (.t 0), (some 3), none⟩,
    ⟨.append 5 1 1 false (.c (.slice .nil 0 1 [])) (.p 3), (some 4), none⟩,
    ⟨.assign (.t 4), (some 2), none⟩] .ret
@[simp] theorem xk33_0 : GoC fns Q s k33_0 st ↔ GoO fns Q s [⟨.move .look (.t 0), (some 3), none⟩,
    ⟨.append 5 1 1 false (.c (.slice .nil 0 1 [])) (.p 3), (some 4), none⟩,
    ⟨.assign (.t 4), (some 2), none⟩] .ret st := goC_ops
def k33_1 : ACode :=
  .ops [⟨.assign (.c (.slice .nil 0 1 [])), (some 2), none⟩] k33_0
@[simp] theorem xk33_1 : GoC fns Q s k33_1 st ↔ GoO fns Q s [⟨.assign (.c (.slice .nil 0 1 [])), (some 2), none⟩] k33_0 st := goC_ops
def af33 : AFunc := ⟨5, k33_1, [.tmp 2]⟩

theorem ok33 : ∃ hs, pFunc Tryd.prog sg hs Tryd.f33 = some af33 := ⟨fun i => 0, by kernel_rfl⟩
/-- No. 20 -/
def k20_0 : ACode :=
  .ops [⟨.move .look (.t 4), (some 12), none⟩,
    ⟨.move .head (.p 5), (some 14), none⟩,
    ⟨.bin .eql 5 true (.p 14) (.c (.nilI)), (some 15), none⟩,
    ⟨.hcall 33 [(.t 12, false)], (some 13), none⟩,
    ⟨.assign (.t 13), (some 2), none⟩,
    ⟨.assign (.p 15), (some 3), none⟩] .ret
@[simp] theorem xk20_0 : GoC fns Q s k20_0 st ↔ GoO fns Q s [⟨.move .look (.t 4), (some 12), none⟩,
    ⟨.move .head (.p 5), (some 14), none⟩,
    ⟨.bin .eql 5 true (.p 14) (.c (.nilI)), (some 15), none⟩,
    ⟨.hcall 33 [(.t 12, false)], (some 13), none⟩,
    ⟨.assign (.t 13), (some 2), none⟩,
    ⟨.assign (.p 15), (some 3), none⟩] .ret st := goC_ops
def k20_1 : ACode :=
  .ops [⟨.move .look (.t 0), (some 7), none⟩,
    ⟨.call 43 [(.t 7, false)], (some 8), none⟩,
    ⟨.hcall 45 [(.p 8, false)], (some 9), none⟩,
    ⟨.move .look (.t 9), (some 6), none⟩,
    ⟨.extract 6 0, (some 10), none⟩,
    ⟨.extract 6 1, (some 11), none⟩,
    ⟨.assign (.t 10), (some 4), none⟩,
    ⟨.assign (.p 11), (some 5), none⟩] k20_0
@[simp] theorem xk20_1 : GoC fns Q s k20_1 st ↔ GoO fns Q s [⟨.move .look (.t 0), (some 7), none⟩,
    ⟨.call 43 [(.t 7, false)], (some 8), none⟩,
    ⟨.hcall 45 [(.p 8, false)], (some 9), none⟩,
    ⟨.move .look (.t 9), (some 6), none⟩,
    ⟨.extract 6 0, (some 10), none⟩,
    ⟨.extract 6 1, (some 11), none⟩,
    ⟨.assign (.t 10), (some 4), none⟩,
    ⟨.assign (.p 11), (some 5), none⟩] k20_0 st := goC_ops
def k20_2 : ACode :=
  .ops [⟨.assign (.c (.slice .nil 0 1 [])), (some 2), none⟩,
    ⟨.assign (.c (.bool false)), (some 3), none⟩] k20_1
@[simp] theorem xk20_2 : GoC fns Q s k20_2 st ↔ GoO fns Q s [⟨.assign (.c (.slice .nil 0 1 [])), (some 2), none⟩,
    ⟨.assign (.c (.bool false)), (some 3), none⟩] k20_1 st := goC_ops
def af20 : AFunc := ⟨16, k20_2, [.tmp 2, .tmp 3]⟩

theorem ok20 : ∃ hs, pFunc Tryd.prog sg hs Tryd.f20 = some af20 := ⟨fun i => 0, by kernel_rfl⟩
/-- No. 46 -/
def k46_0 : ACode :=
  .ops [⟨.px (.slArr 26 5 1) [.p 4, .c (.int .i64 0), .c (.int .i64 26)], (some 10), none⟩,
    ⟨.assign (.t 10), (some 2), none⟩,
    ⟨.assign (.c (.nilI)), (some 3), none⟩] .ret
@[simp] theorem xk46_0 : GoC fns Q s k46_0 st ↔ GoO fns Q s [⟨.px (.slArr 26 5 1) [.p 4, .c (.int .i64 0), .c (.int .i64 26)], (some 10), none⟩,
    ⟨.assign (.t 10), (some 2), none⟩,
    ⟨.assign (.c (.nilI)), (some 3), none⟩] .ret st := goC_ops
def k46_1 : ACode :=
  .ops [⟨.px (.ixArr 26 1) [.p 4, .c (.int .i64 25)], (some 9), none⟩,
    ⟨.store 1 (.p 9) (.c (.int .u8 34)), none, none⟩] k46_0
@[simp] theorem xk46_1 : GoC fns Q s k46_1 st ↔ GoO fns Q s [⟨.px (.ixArr 26 1) [.p 4, .c (.int .i64 25)], (some 9), none⟩,
    ⟨.store 1 (.p 9) (.c (.int .u8 34)), none, none⟩] k46_0 st := goC_ops
def k46_2 : ACode :=
  .ops [⟨.px (.slArr 26 5 1) [.p 4, .c (.int .i64 1), .c (.int .i64 25)], (some 6), none⟩,
    ⟨.px (.slArr 12 5 1) [.p 1, .c (.int .i64 0), .c (.int .i64 12)], (some 7), none⟩,
    ⟨.hcall 65 [(.m 6, false), (.t 7, false)], (some 8), none⟩] k46_1
@[simp] theorem xk46_2 : GoC fns Q s k46_2 st ↔ GoO fns Q s [⟨.px (.slArr 26 5 1) [.p 4, .c (.int .i64 1), .c (.int .i64 25)], (some 6), none⟩,
    ⟨.px (.slArr 12 5 1) [.p 1, .c (.int .i64 0), .c (.int .i64 12)], (some 7), none⟩,
    ⟨.hcall 65 [(.m 6, false), (.t 7, false)], (some 8), none⟩] k46_1 st := goC_ops
def k46_3 : ACode :=
  .ops [⟨.px (.ixArr 26 1) [.p 4, .c (.int .i64 0)], (some 5), none⟩,
    ⟨.store 1 (.p 5) (.c (.int .u8 34)), none, none⟩] k46_2
@[simp] theorem xk46_3 : GoC fns Q s k46_3 st ↔ GoO fns Q s [⟨.px (.ixArr 26 1) [.p 4, .c (.int .i64 0)], (some 5), none⟩,
    ⟨.store 1 (.p 5) (.c (.int .u8 34)), none, none⟩] k46_2 st := goC_ops
def k46_4 : ACode :=
  .ops [⟨.newobj [.int .u8 0, .int .u8 0, .int .u8 0, .int .u8 0, .int .u8 0, .int .u8 0, .int .u8 0, .int .u8 0, .int .u8 0, .int .u8 0, .int .u8 0, .int .u8 0, .int .u8 0, .int .u8 0, .int .u8 0, .int .u8 0, .int .u8 0, .int .u8 0, .int .u8 0, .int .u8 0, .int .u8 0, .int .u8 0, .int .u8 0, .int .u8 0, .int .u8 0, .int .u8 0], (some 4), none⟩] k46_3
@[simp] theorem xk46_4 : GoC fns Q s k46_4 st ↔ GoO fns Q s [⟨.newobj [.int .u8 0, .int .u8 0, .int .u8 0, .int .u8 0, .int .u8 0, .int .u8 0, .int .u8 0, .int .u8 0, .int .u8 0, .int .u8 0, .int .u8 0, .int .u8 0, .int .u8 0, .int .u8 0, .int .u8 0, .int .u8 0, .int .u8 0, .int .u8 0, .int .u8 0, .int .u8 0, .int .u8 0, .int .u8 0, .int .u8 0, .int .u8 0, .int .u8 0, .int .u8 0], (some 4), none⟩] k46_3 st := goC_ops
def k46_5 : ACode :=
  .ops [⟨.boxobj (.p 0), (some 1), none⟩,
    ⟨.assign (.c (.slice .nil 0 1 [])), (some 2), none⟩,
    ⟨.assign (.c (.nilI)), (some 3), none⟩] k46_4
@[simp] theorem xk46_5 : GoC fns Q s k46_5 st ↔ GoO fns Q s [⟨.boxobj (.p 0), (some 1), none⟩,
    ⟨.assign (.c (.slice .nil 0 1 [])), (some 2), none⟩,
    ⟨.assign (.c (.nilI)), (some 3), none⟩] k46_4 st := goC_ops
def af46 : AFunc := ⟨11, k46_5, [.tmp 2, .tmp 3]⟩

theorem ok46 : ∃ hs, pFunc Tryd.prog sg hs Tryd.f46 = some af46 := ⟨fun i => if i == 1 then 1 else if i == 4 then 1 else if i == 6 then 1 else 0, by kernel_rfl⟩
/-- No. 21 -/
def k21_0 : ACode :=
  .ops [⟨.move .look (.t 4), (some 12), none⟩,
    ⟨.move .head (.p 5), (some 14), none⟩,
    ⟨.bin .eql 5 true (.p 14) (.c (.nilI)), (some 15), none⟩,
    ⟨.hcall 33 [(.t 12, false)], (some 13), none⟩,
    ⟨.assign (.t 13), (some 2), none⟩,
    ⟨.assign (.p 15), (some 3), none⟩] .ret
@[simp] theorem xk21_0 : GoC fns Q s k21_0 st ↔ GoO fns Q s [⟨.move .look (.t 4), (some 12), none⟩,
    ⟨.move .head (.p 5), (some 14), none⟩,
    ⟨.bin .eql 5 true (.p 14) (.c (.nilI)), (some 15), none⟩,
    ⟨.hcall 33 [(.t 12, false)], (some 13), none⟩,
    ⟨.assign (.t 13), (some 2), none⟩,
    ⟨.assign (.p 15), (some 3), none⟩] .ret st := goC_ops
def k21_1 : ACode :=
  .ops [⟨.move .look (.t 0), (some 7), none⟩,
    ⟨.call 43 [(.t 7, false)], (some 8), none⟩,
    ⟨.hcall 46 [(.p 8, false)], (some 9), none⟩,
    ⟨.move .look (.t 9), (some 6), none⟩,
    ⟨.extract 6 0, (some 10), none⟩,
    ⟨.extract 6 1, (some 11), none⟩,
    ⟨.assign (.t 10), (some 4), none⟩,
    ⟨.assign (.p 11), (some 5), none⟩] k21_0
@[simp] theorem xk21_1 : GoC fns Q s k21_1 st ↔ GoO fns Q s [⟨.move .look (.t 0), (some 7), none⟩,
    ⟨.call 43 [(.t 7, false)], (some 8), none⟩,
    ⟨.hcall 46 [(.p 8, false)], (some 9), none⟩,
    ⟨.move .look (.t 9), (some 6), none⟩,
    ⟨.extract 6 0, (some 10), none⟩,
    ⟨.extract 6 1, (some 11), none⟩,
    ⟨.assign (.t 10), (some 4), none⟩,
    ⟨.assign (.p 11), (some 5), none⟩] k21_0 st := goC_ops
def k21_2 : ACode :=
  .ops [⟨.assign (.c (.slice .nil 0 1 [])), (some 2), none⟩,
    ⟨.assign (.c (.bool false)), (some 3), none⟩] k21_1
@[simp] theorem xk21_2 : GoC fns Q s k21_2 st ↔ GoO fns Q s [⟨.assign (.c (.slice .nil 0 1 [])), (some 2), none⟩,
    ⟨.assign (.c (.bool false)), (some 3), none⟩] k21_1 st := goC_ops
def af21 : AFunc := ⟨16, k21_2, [.tmp 2, .tmp 3]⟩

theorem ok21 : ∃ hs, pFunc Tryd.prog sg hs Tryd.f21 = some af21 := ⟨fun i => 0, by kernel_rfl⟩
/-- No. 66 -/
def k66_0 : ACode :=
  .ops [⟨.move .take (.p 6), (some 69), none⟩,
    ⟨.assign (.p 69), (some 4), none⟩,
    ⟨.assign (.c (.nilI)), (some 5), none⟩] .ret
@[simp] theorem xk66_0 : GoC fns Q s k66_0 st ↔ GoO fns Q s [⟨.move .take (.p 6), (some 69), none⟩,
    ⟨.assign (.p 69), (some 4), none⟩,
    ⟨.assign (.c (.nilI)), (some 5), none⟩] .ret st := goC_ops
def k66_1 : ACode :=
  .ops [⟨.move .take (.p 6), (some 67), none⟩,
    ⟨.load .take false 1 (.c (.gl 10)), (some 68), none⟩,
    ⟨.assign (.p 67), (some 4), none⟩,
    ⟨.assign (.p 68), (some 5), none⟩] .ret
@[simp] theorem xk66_1 : GoC fns Q s k66_1 st ↔ GoO fns Q s [⟨.move .take (.p 6), (some 67), none⟩,
    ⟨.load .take false 1 (.c (.gl 10)), (some 68), none⟩,
    ⟨.assign (.p 67), (some 4), none⟩,
    ⟨.assign (.p 68), (some 5), none⟩] .ret st := goC_ops
def k66_2 : ACode :=
  .ops [⟨.move .take (.p 6), (some 61), none⟩,
    ⟨.move .look (.t 1), (some 62), none⟩,
    ⟨.move .look (.p 7), (some 63), none⟩,
    ⟨.indexAddr 1 (.t 62) (.p 63), (some 64), none⟩,
    ⟨.load .look false 1 (.p 64), (some 65), none⟩,
    ⟨.mkIface 144 (.p 65), (some 66), none⟩,
    ⟨.assign (.p 61), (some 4), none⟩,
    ⟨.assign (.p 66), (some 5), none⟩] .ret
@[simp] theorem xk66_2 : GoC fns Q s k66_2 st ↔ GoO fns Q s [⟨.move .take (.p 6), (some 61), none⟩,
    ⟨.move .look (.t 1), (some 62), none⟩,
    ⟨.move .look (.p 7), (some 63), none⟩,
    ⟨.indexAddr 1 (.t 62) (.p 63), (some 64), none⟩,
    ⟨.load .look false 1 (.p 64), (some 65), none⟩,
    ⟨.mkIface 144 (.p 65), (some 66), none⟩,
    ⟨.assign (.p 61), (some 4), none⟩,
    ⟨.assign (.p 66), (some 5), none⟩] .ret st := goC_ops
def k66_3 : ACode :=
  .cond (.p 60) k66_2 .skip
@[simp] theorem xk66_3 : GoC fns Q s k66_3 st ↔ GB fns Q s (peek st (.p 60)) k66_2 .skip st := goC_cond
def k66_4 : ACode :=
  .seq k66_3 k66_1
@[simp] theorem xk66_4 : GoC fns Q s k66_4 st ↔ GoC fns Q (.sq k66_1 :: s) k66_3 st := goC_seq
def k66_5 : ACode :=
  .ops [⟨.move .look (.t 1), (some 55), none⟩,
    ⟨.move .look (.p 7), (some 56), none⟩,
    ⟨.indexAddr 1 (.t 55) (.p 56), (some 57), none⟩,
    ⟨.load .look false 1 (.p 57), (some 58), none⟩,
    ⟨.indexStr (.c (.str [255, 255, 255, 255, 255, 255, 255, 255, 255, 255, 255, 255, 255, 255, 255, 255, 255, 255, 255, 255, 255, 255, 255, 255, 255, 255, 255, 255, 255, 255, 255, 255, 255, 255, 255, 255, 255, 255, 255, 255, 255, 255, 255, 255, 255, 255, 255, 255, 0, 1, 2, 3, 4, 5, 6, 7, 8, 9, 255, 255, 255, 255, 255, 255, 255, 10, 11, 12, 13, 14, 15, 255, 255, 255, 255, 255, 255, 255, 255, 255, 255, 255, 255, 255, 255, 255, 255, 255, 255, 255, 255, 255, 255, 255, 255, 255, 255, 10, 11, 12, 13, 14, 15, 255, 255, 255, 255, 255, 255, 255, 255, 255, 255, 255, 255, 255, 255, 255, 255, 255, 255, 255, 255, 255, 255, 255, 255, 255, 255, 255, 255, 255, 255, 255, 255, 255, 255, 255, 255, 255, 255, 255, 255, 255, 255, 255, 255, 255, 255, 255, 255, 255, 255, 255, 255, 255, 255, 255, 255, 255, 255, 255, 255, 255, 255, 255, 255, 255, 255, 255, 255, 255, 255, 255, 255, 255, 255, 255, 255, 255, 255, 255, 255, 255, 255, 255, 255, 255, 255, 255, 255, 255, 255, 255, 255, 255, 255, 255, 255, 255, 255, 255, 255, 255, 255, 255, 255, 255, 255, 255, 255, 255, 255, 255, 255, 255, 255, 255, 255, 255, 255, 255, 255, 255, 255, 255, 255, 255, 255, 255, 255, 255, 255, 255, 255, 255, 255, 255, 255, 255, 255, 255, 255, 255, 255, 255, 255, 255, 255, 255, 255, 255, 255, 255, 255, 255])) (.p 58), (some 59), none⟩,
    ⟨.bin .gtr 1 true (.p 59) (.c (.int .u8 15)), (some 60), none⟩] k66_4
@[simp] theorem xk66_5 : GoC fns Q s k66_5 st ↔ GoO fns Q s [⟨.move .look (.t 1), (some 55), none⟩,
    ⟨.move .look (.p 7), (some 56), none⟩,
    ⟨.indexAddr 1 (.t 55) (.p 56), (some 57), none⟩,
    ⟨.load .look false 1 (.p 57), (some 58), none⟩,
    ⟨.indexStr (.c (.str [255, 255, 255, 255, 255, 255, 255, 255, 255, 255, 255, 255, 255, 255, 255, 255, 255, 255, 255, 255, 255, 255, 255, 255, 255, 255, 255, 255, 255, 255, 255, 255, 255, 255, 255, 255, 255, 255, 255, 255, 255, 255, 255, 255, 255, 255, 255, 255, 0, 1, 2, 3, 4, 5, 6, 7, 8, 9, 255, 255, 255, 255, 255, 255, 255, 10, 11, 12, 13, 14, 15, 255, 255, 255, 255, 255, 255, 255, 255, 255, 255, 255, 255, 255, 255, 255, 255, 255, 255, 255, 255, 255, 255, 255, 255, 255, 255, 10, 11, 12, 13, 14, 15, 255, 255, 255, 255, 255, 255, 255, 255, 255, 255, 255, 255, 255, 255, 255, 255, 255, 255, 255, 255, 255, 255, 255, 255, 255, 255, 255, 255, 255, 255, 255, 255, 255, 255, 255, 255, 255, 255, 255, 255, 255, 255, 255, 255, 255, 255, 255, 255, 255, 255, 255, 255, 255, 255, 255, 255, 255, 255, 255, 255, 255, 255, 255, 255, 255, 255, 255, 255, 255, 255, 255, 255, 255, 255, 255, 255, 255, 255, 255, 255, 255, 255, 255, 255, 255, 255, 255, 255, 255, 255, 255, 255, 255, 255, 255, 255, 255, 255, 255, 255, 255, 255, 255, 255, 255, 255, 255, 255, 255, 255, 255, 255, 255, 255, 255, 255, 255, 255, 255, 255, 255, 255, 255, 255, 255, 255, 255, 255, 255, 255, 255, 255, 255, 255, 255, 255, 255, 255, 255, 255, 255, 255, 255, 255, 255, 255, 255, 255, 255, 255, 255, 255, 255])) (.p 58), (some 59), none⟩,
    ⟨.bin .gtr 1 true (.p 59) (.c (.int .u8 15)), (some 60), none⟩] k66_4 st := goC_ops
def k66_6 : ACode :=
  .cond (.p 54) k66_5 .skip
@[simp] theorem xk66_6 : GoC fns Q s k66_6 st ↔ GB fns Q s (peek st (.p 54)) k66_5 .skip st := goC_cond
def k66_7 : ACode :=
  .seq k66_6 k66_0
@[simp] theorem xk66_7 : GoC fns Q s k66_7 st ↔ GoC fns Q (.sq k66_0 :: s) k66_6 st := goC_seq
def k66_8 : ACode :=
  .ops [⟨.move .head (.t 1), (some 51), none⟩,
    ⟨.len false (.p 51), (some 52), none⟩,
    ⟨.bin .rem 1 true (.p 52) (.c (.int .i64 2)), (some 53), none⟩,
    ⟨.bin .eql 1 true (.p 53) (.c (.int .i64 1)), (some 54), none⟩] k66_7
@[simp] theorem xk66_8 : GoC fns Q s k66_8 st ↔ GoO fns Q s [⟨.move .head (.t 1), (some 51), none⟩,
    ⟨.len false (.p 51), (some 52), none⟩,
    ⟨.bin .rem 1 true (.p 52) (.c (.int .i64 2)), (some 53), none⟩,
    ⟨.bin .eql 1 true (.p 53) (.c (.int .i64 1)), (some 54), none⟩] k66_7 st := goC_ops
def k66_9 : ACode :=
  .ops [⟨.move .look (.p 7), (some 17), none⟩,
    ⟨.bin .add 1 true (.p 17) (.c (.int .i64 2)), (some 18), none⟩,
    ⟨.assign (.p 18), (some 7), none⟩] .skip
@[simp] theorem xk66_9 : GoC fns Q s k66_9 st ↔ GoO fns Q s [⟨.move .look (.p 7), (some 17), none⟩,
    ⟨.bin .add 1 true (.p 17) (.c (.int .i64 2)), (some 18), none⟩,
    ⟨.assign (.p 18), (some 7), none⟩] .skip st := goC_ops
def k66_10 : ACode :=
  .ops [⟨.move .look (.p 6), (some 49), none⟩,
    ⟨.bin .add 1 true (.p 49) (.c (.int .i64 1)), (some 50), none⟩,
    ⟨.assign (.p 50), (some 6), none⟩] .skip
@[simp] theorem xk66_10 : GoC fns Q s k66_10 st ↔ GoO fns Q s [⟨.move .look (.p 6), (some 49), none⟩,
    ⟨.bin .add 1 true (.p 49) (.c (.int .i64 1)), (some 50), none⟩,
    ⟨.assign (.p 50), (some 6), none⟩] .skip st := goC_ops
def k66_11 : ACode :=
  .ops [⟨.move .look (.m 0), (some 42), none⟩,
    ⟨.move .look (.p 6), (some 43), none⟩,
    ⟨.move .look (.p 10), (some 44), none⟩,
    ⟨.bin .shl 1 true (.p 44) (.c (.int .u64 4)), (some 45), none⟩,
    ⟨.move .look (.p 11), (some 46), none⟩,
    ⟨.bin .or 1 false (.p 45) (.p 46), (some 47), none⟩,
    ⟨.indexAddr 1 (.m 42) (.p 43), (some 48), none⟩,
    ⟨.store 1 (.p 48) (.p 47), none, none⟩] k66_10
@[simp] theorem xk66_11 : GoC fns Q s k66_11 st ↔ GoO fns Q s [⟨.move .look (.m 0), (some 42), none⟩,
    ⟨.move .look (.p 6), (some 43), none⟩,
    ⟨.move .look (.p 10), (some 44), none⟩,
    ⟨.bin .shl 1 true (.p 44) (.c (.int .u64 4)), (some 45), none⟩,
    ⟨.move .look (.p 11), (some 46), none⟩,
    ⟨.bin .or 1 false (.p 45) (.p 46), (some 47), none⟩,
    ⟨.indexAddr 1 (.m 42) (.p 43), (some 48), none⟩,
    ⟨.store 1 (.p 48) (.p 47), none, none⟩] k66_10 st := goC_ops
def k66_12 : ACode :=
  .ops [⟨.move .take (.p 6), (some 39), none⟩,
    ⟨.move .look (.p 9), (some 40), none⟩,
    ⟨.mkIface 144 (.p 40), (some 41), none⟩,
    ⟨.assign (.p 39), (some 4), none⟩,
    ⟨.assign (.p 41), (some 5), none⟩] .ret
@[simp] theorem xk66_12 : GoC fns Q s k66_12 st ↔ GoO fns Q s [⟨.move .take (.p 6), (some 39), none⟩,
    ⟨.move .look (.p 9), (some 40), none⟩,
    ⟨.mkIface 144 (.p 40), (some 41), none⟩,
    ⟨.assign (.p 39), (some 4), none⟩,
    ⟨.assign (.p 41), (some 5), none⟩] .ret st := goC_ops
def k66_13 : ACode :=
  .cond (.p 38) k66_12 .skip
@[simp] theorem xk66_13 : GoC fns Q s k66_13 st ↔ GB fns Q s (peek st (.p 38)) k66_12 .skip st := goC_cond
def k66_14 : ACode :=
  .seq k66_13 k66_11
@[simp] theorem xk66_14 : GoC fns Q s k66_14 st ↔ GoC fns Q (.sq k66_11 :: s) k66_13 st := goC_seq
def k66_15 : ACode :=
  .ops [⟨.move .look (.p 11), (some 37), none⟩,
    ⟨.bin .gtr 1 true (.p 37) (.c (.int .u8 15)), (some 38), none⟩] k66_14
@[simp] theorem xk66_15 : GoC fns Q s k66_15 st ↔ GoO fns Q s [⟨.move .look (.p 11), (some 37), none⟩,
    ⟨.bin .gtr 1 true (.p 37) (.c (.int .u8 15)), (some 38), none⟩] k66_14 st := goC_ops
def k66_16 : ACode :=
  .ops [⟨.move .take (.p 6), (some 34), none⟩,
    ⟨.move .look (.p 8), (some 35), none⟩,
    ⟨.mkIface 144 (.p 35), (some 36), none⟩,
    ⟨.assign (.p 34), (some 4), none⟩,
    ⟨.assign (.p 36), (some 5), none⟩] .ret
@[simp] theorem xk66_16 : GoC fns Q s k66_16 st ↔ GoO fns Q s [⟨.move .take (.p 6), (some 34), none⟩,
    ⟨.move .look (.p 8), (some 35), none⟩,
    ⟨.mkIface 144 (.p 35), (some 36), none⟩,
    ⟨.assign (.p 34), (some 4), none⟩,
    ⟨.assign (.p 36), (some 5), none⟩] .ret st := goC_ops
def k66_17 : ACode :=
  .cond (.p 33) k66_16 .skip
@[simp] theorem xk66_17 : GoC fns Q s k66_17 st ↔ GB fns Q s (peek st (.p 33)) k66_16 .skip st := goC_cond
def k66_18 : ACode :=
  .seq k66_17 k66_15
@[simp] theorem xk66_18 : GoC fns Q s k66_18 st ↔ GoC fns Q (.sq k66_15 :: s) k66_17 st := goC_seq
def k66_19 : ACode :=
  .ops [⟨.move .look (.p 10), (some 32), none⟩,
    ⟨.bin .gtr 1 true (.p 32) (.c (.int .u8 15)), (some 33), none⟩] k66_18
@[simp] theorem xk66_19 : GoC fns Q s k66_19 st ↔ GoO fns Q s [⟨.move .look (.p 10), (some 32), none⟩,
    ⟨.bin .gtr 1 true (.p 32) (.c (.int .u8 15)), (some 33), none⟩] k66_18 st := goC_ops
def k66_20 : ACode :=
  .ops [⟨.move .look (.p 9), (some 30), none⟩,
    ⟨.indexStr (.c (.str [255, 255, 255, 255, 255, 255, 255, 255, 255, 255, 255, 255, 255, 255, 255, 255, 255, 255, 255, 255, 255, 255, 255, 255, 255, 255, 255, 255, 255, 255, 255, 255, 255, 255, 255, 255, 255, 255, 255, 255, 255, 255, 255, 255, 255, 255, 255, 255, 0, 1, 2, 3, 4, 5, 6, 7, 8, 9, 255, 255, 255, 255, 255, 255, 255, 10, 11, 12, 13, 14, 15, 255, 255, 255, 255, 255, 255, 255, 255, 255, 255, 255, 255, 255, 255, 255, 255, 255, 255, 255, 255, 255, 255, 255, 255, 255, 255, 10, 11, 12, 13, 14, 15, 255, 255, 255, 255, 255, 255, 255, 255, 255, 255, 255, 255, 255, 255, 255, 255, 255, 255, 255, 255, 255, 255, 255, 255, 255, 255, 255, 255, 255, 255, 255, 255, 255, 255, 255, 255, 255, 255, 255, 255, 255, 255, 255, 255, 255, 255, 255, 255, 255, 255, 255, 255, 255, 255, 255, 255, 255, 255, 255, 255, 255, 255, 255, 255, 255, 255, 255, 255, 255, 255, 255, 255, 255, 255, 255, 255, 255, 255, 255, 255, 255, 255, 255, 255, 255, 255, 255, 255, 255, 255, 255, 255, 255, 255, 255, 255, 255, 255, 255, 255, 255, 255, 255, 255, 255, 255, 255, 255, 255, 255, 255, 255, 255, 255, 255, 255, 255, 255, 255, 255, 255, 255, 255, 255, 255, 255, 255, 255, 255, 255, 255, 255, 255, 255, 255, 255, 255, 255, 255, 255, 255, 255, 255, 255, 255, 255, 255, 255, 255, 255, 255, 255, 255])) (.p 30), (some 31), none⟩,
    ⟨.assign (.p 31), (some 11), none⟩] k66_19
@[simp] theorem xk66_20 : GoC fns Q s k66_20 st ↔ GoO fns Q s [⟨.move .look (.p 9), (some 30), none⟩,
    ⟨.indexStr (.c (.str [255, 255, 255, 255, 255, 255, 255, 255, 255, 255, 255, 255, 255, 255, 255, 255, 255, 255, 255, 255, 255, 255, 255, 255, 255, 255, 255, 255, 255, 255, 255, 255, 255, 255, 255, 255, 255, 255, 255, 255, 255, 255, 255, 255, 255, 255, 255, 255, 0, 1, 2, 3, 4, 5, 6, 7, 8, 9, 255, 255, 255, 255, 255, 255, 255, 10, 11, 12, 13, 14, 15, 255, 255, 255, 255, 255, 255, 255, 255, 255, 255, 255, 255, 255, 255, 255, 255, 255, 255, 255, 255, 255, 255, 255, 255, 255, 255, 10, 11, 12, 13, 14, 15, 255, 255, 255, 255, 255, 255, 255, 255, 255, 255, 255, 255, 255, 255, 255, 255, 255, 255, 255, 255, 255, 255, 255, 255, 255, 255, 255, 255, 255, 255, 255, 255, 255, 255, 255, 255, 255, 255, 255, 255, 255, 255, 255, 255, 255, 255, 255, 255, 255, 255, 255, 255, 255, 255, 255, 255, 255, 255, 255, 255, 255, 255, 255, 255, 255, 255, 255, 255, 255, 255, 255, 255, 255, 255, 255, 255, 255, 255, 255, 255, 255, 255, 255, 255, 255, 255, 255, 255, 255, 255, 255, 255, 255, 255, 255, 255, 255, 255, 255, 255, 255, 255, 255, 255, 255, 255, 255, 255, 255, 255, 255, 255, 255, 255, 255, 255, 255, 255, 255, 255, 255, 255, 255, 255, 255, 255, 255, 255, 255, 255, 255, 255, 255, 255, 255, 255, 255, 255, 255, 255, 255, 255, 255, 255, 255, 255, 255, 255, 255, 255, 255, 255, 255])) (.p 30), (some 31), none⟩,
    ⟨.assign (.p 31), (some 11), none⟩] k66_19 st := goC_ops
def k66_21 : ACode :=
  .ops [⟨.move .look (.p 8), (some 28), none⟩,
    ⟨.indexStr (.c (.str [255, 255, 255, 255, 255, 255, 255, 255, 255, 255, 255, 255, 255, 255, 255, 255, 255, 255, 255, 255, 255, 255, 255, 255, 255, 255, 255, 255, 255, 255, 255, 255, 255, 255, 255, 255, 255, 255, 255, 255, 255, 255, 255, 255, 255, 255, 255, 255, 0, 1, 2, 3, 4, 5, 6, 7, 8, 9, 255, 255, 255, 255, 255, 255, 255, 10, 11, 12, 13, 14, 15, 255, 255, 255, 255, 255, 255, 255, 255, 255, 255, 255, 255, 255, 255, 255, 255, 255, 255, 255, 255, 255, 255, 255, 255, 255, 255, 10, 11, 12, 13, 14, 15, 255, 255, 255, 255, 255, 255, 255, 255, 255, 255, 255, 255, 255, 255, 255, 255, 255, 255, 255, 255, 255, 255, 255, 255, 255, 255, 255, 255, 255, 255, 255, 255, 255, 255, 255, 255, 255, 255, 255, 255, 255, 255, 255, 255, 255, 255, 255, 255, 255, 255, 255, 255, 255, 255, 255, 255, 255, 255, 255, 255, 255, 255, 255, 255, 255, 255, 255, 255, 255, 255, 255, 255, 255, 255, 255, 255, 255, 255, 255, 255, 255, 255, 255, 255, 255, 255, 255, 255, 255, 255, 255, 255, 255, 255, 255, 255, 255, 255, 255, 255, 255, 255, 255, 255, 255, 255, 255, 255, 255, 255, 255, 255, 255, 255, 255, 255, 255, 255, 255, 255, 255, 255, 255, 255, 255, 255, 255, 255, 255, 255, 255, 255, 255, 255, 255, 255, 255, 255, 255, 255, 255, 255, 255, 255, 255, 255, 255, 255, 255, 255, 255, 255, 255])) (.p 28), (some 29), none⟩,
    ⟨.assign (.p 29), (some 10), none⟩] k66_20
@[simp] theorem xk66_21 : GoC fns Q s k66_21 st ↔ GoO fns Q s [⟨.move .look (.p 8), (some 28), none⟩,
    ⟨.indexStr (.c (.str [255, 255, 255, 255, 255, 255, 255, 255, 255, 255, 255, 255, 255, 255, 255, 255, 255, 255, 255, 255, 255, 255, 255, 255, 255, 255, 255, 255, 255, 255, 255, 255, 255, 255, 255, 255, 255, 255, 255, 255, 255, 255, 255, 255, 255, 255, 255, 255, 0, 1, 2, 3, 4, 5, 6, 7, 8, 9, 255, 255, 255, 255, 255, 255, 255, 10, 11, 12, 13, 14, 15, 255, 255, 255, 255, 255, 255, 255, 255, 255, 255, 255, 255, 255, 255, 255, 255, 255, 255, 255, 255, 255, 255, 255, 255, 255, 255, 10, 11, 12, 13, 14, 15, 255, 255, 255, 255, 255, 255, 255, 255, 255, 255, 255, 255, 255, 255, 255, 255, 255, 255, 255, 255, 255, 255, 255, 255, 255, 255, 255, 255, 255, 255, 255, 255, 255, 255, 255, 255, 255, 255, 255, 255, 255, 255, 255, 255, 255, 255, 255, 255, 255, 255, 255, 255, 255, 255, 255, 255, 255, 255, 255, 255, 255, 255, 255, 255, 255, 255, 255, 255, 255, 255, 255, 255, 255, 255, 255, 255, 255, 255, 255, 255, 255, 255, 255, 255, 255, 255, 255, 255, 255, 255, 255, 255, 255, 255, 255, 255, 255, 255, 255, 255, 255, 255, 255, 255, 255, 255, 255, 255, 255, 255, 255, 255, 255, 255, 255, 255, 255, 255, 255, 255, 255, 255, 255, 255, 255, 255, 255, 255, 255, 255, 255, 255, 255, 255, 255, 255, 255, 255, 255, 255, 255, 255, 255, 255, 255, 255, 255, 255, 255, 255, 255, 255, 255])) (.p 28), (some 29), none⟩,
    ⟨.assign (.p 29), (some 10), none⟩] k66_20 st := goC_ops
def k66_22 : ACode :=
  .ops [⟨.move .look (.t 1), (some 23), none⟩,
    ⟨.move .look (.p 7), (some 24), none⟩,
    ⟨.bin .add 1 true (.p 24) (.c (.int .i64 1)), (some 25), none⟩,
    ⟨.indexAddr 1 (.t 23) (.p 25), (some 26), none⟩,
    ⟨.load .take false 1 (.p 26), (some 27), none⟩,
    ⟨.assign (.p 27), (some 9), none⟩] k66_21
@[simp] theorem xk66_22 : GoC fns Q s k66_22 st ↔ GoO fns Q s [⟨.move .look (.t 1), (some 23), none⟩,
    ⟨.move .look (.p 7), (some 24), none⟩,
    ⟨.bin .add 1 true (.p 24) (.c (.int .i64 1)), (some 25), none⟩,
    ⟨.indexAddr 1 (.t 23) (.p 25), (some 26), none⟩,
    ⟨.load .take false 1 (.p 26), (some 27), none⟩,
    ⟨.assign (.p 27), (some 9), none⟩] k66_21 st := goC_ops
def k66_23 : ACode :=
  .ops [⟨.move .look (.t 1), (some 19), none⟩,
    ⟨.move .look (.p 7), (some 20), none⟩,
    ⟨.indexAddr 1 (.t 19) (.p 20), (some 21), none⟩,
    ⟨.load .take false 1 (.p 21), (some 22), none⟩,
    ⟨.assign (.p 22), (some 8), none⟩] k66_22
@[simp] theorem xk66_23 : GoC fns Q s k66_23 st ↔ GoO fns Q s [⟨.move .look (.t 1), (some 19), none⟩,
    ⟨.move .look (.p 7), (some 20), none⟩,
    ⟨.indexAddr 1 (.t 19) (.p 20), (some 21), none⟩,
    ⟨.load .take false 1 (.p 21), (some 22), none⟩,
    ⟨.assign (.p 22), (some 8), none⟩] k66_22 st := goC_ops
def k66_24 : ACode :=
  .block 1 k66_23
@[simp] theorem xk66_24 : GoC fns Q s k66_24 st ↔ GoC fns Q (.bl 1 :: s) k66_23 st := goC_block
def k66_25 : ACode :=
  .seq k66_24 k66_9
@[simp] theorem xk66_25 : GoC fns Q s k66_25 st ↔ GoC fns Q (.sq k66_9 :: s) k66_24 st := goC_seq
def k66_26 : ACode :=
  .cond (.p 16) .skip (.exit 0)
@[simp] theorem xk66_26 : GoC fns Q s k66_26 st ↔ GB fns Q s (peek st (.p 16)) .skip (.exit 0) st := goC_cond
def k66_27 : ACode :=
  .seq k66_26 k66_25
@[simp] theorem xk66_27 : GoC fns Q s k66_27 st ↔ GoC fns Q (.sq k66_25 :: s) k66_26 st := goC_seq
def k66_28 : ACode :=
  .ops [⟨.move .look (.p 7), (some 12), none⟩,
    ⟨.move .head (.t 1), (some 13), none⟩,
    ⟨.len false (.p 13), (some 14), none⟩,
    ⟨.bin .sub 1 true (.p 14) (.c (.int .i64 1)), (some 15), none⟩,
    ⟨.bin .lss 1 false (.p 12) (.p 15), (some 16), none⟩] k66_27
@[simp] theorem xk66_28 : GoC fns Q s k66_28 st ↔ GoO fns Q s [⟨.move .look (.p 7), (some 12), none⟩,
    ⟨.move .head (.t 1), (some 13), none⟩,
    ⟨.len false (.p 13), (some 14), none⟩,
    ⟨.bin .sub 1 true (.p 14) (.c (.int .i64 1)), (some 15), none⟩,
    ⟨.bin .lss 1 false (.p 12) (.p 15), (some 16), none⟩] k66_27 st := goC_ops
def lc66_0 : ACode :=
  k66_28
@[simp] theorem xlc66_0 : GoC fns Q s lc66_0 st ↔ GoC fns Q s k66_28 st := Iff.rfl
def k66_30 : ACode :=
  .loop lc66_0
@[simp] theorem xk66_30 : GoC fns Q s k66_30 st ↔ (LoopR fns lc66_0 st fun r => GoE fns Q s r.1 r.2) := goC_loop
def k66_31 : ACode :=
  .block 0 k66_30
@[simp] theorem xk66_31 : GoC fns Q s k66_31 st ↔ GoC fns Q (.bl 0 :: s) k66_30 st := goC_block
def k66_32 : ACode :=
  .seq k66_31 k66_8
@[simp] theorem xk66_32 : GoC fns Q s k66_32 st ↔ GoC fns Q (.sq k66_8 :: s) k66_31 st := goC_seq
def k66_33 : ACode :=
  .ops [⟨.assign (.c (.int .i64 0)), (some 6), none⟩,
    ⟨.assign (.c (.int .i64 0)), (some 7), none⟩] k66_32
@[simp] theorem xk66_33 : GoC fns Q s k66_33 st ↔ GoO fns Q s [⟨.assign (.c (.int .i64 0)), (some 6), none⟩,
    ⟨.assign (.c (.int .i64 0)), (some 7), none⟩] k66_32 st := goC_ops
def k66_34 : ACode :=
  .ops [⟨.assign (.c (.int .i64 0)), (some 4), none⟩,
    ⟨.assign (.c (.nilI)), (some 5), none⟩] k66_33
@[simp] theorem xk66_34 : GoC fns Q s k66_34 st ↔ GoO fns Q s [⟨.assign (.c (.int .i64 0)), (some 4), none⟩,
    ⟨.assign (.c (.nilI)), (some 5), none⟩] k66_33 st := goC_ops
def af66 : AFunc := ⟨70, k66_34, [.tmp 4, .tmp 5]⟩

theorem ok66 : ∃ hs, pFunc Tryd.prog sg hs Tryd.f66 = some af66 := ⟨fun i => if i == 42 then 1 else if i == 48 then 1 else 0, by kernel_rfl⟩
/-- No. 47 -/
def k47_0 : ACode :=
  .ops [⟨.load .take true 12 (.p 4), (some 23), none⟩,
    ⟨.store 12 (.p 2) (.p 23), none, none⟩,
    ⟨.assign (.c (.nilI)), (some 3), none⟩] .ret
@[simp] theorem xk47_0 : GoC fns Q s k47_0 st ↔ GoO fns Q s [⟨.load .take true 12 (.p 4), (some 23), none⟩,
    ⟨.store 12 (.p 2) (.p 23), none, none⟩,
    ⟨.assign (.c (.nilI)), (some 3), none⟩] .ret st := goC_ops
def k47_1 : ACode :=
  .ops [⟨.load .take true 12 (.c (.gl 2)), (some 21), none⟩,
    ⟨.move .take (.p 6), (some 22), none⟩,
    ⟨.store 12 (.p 2) (.p 21), none, none⟩,
    ⟨.assign (.p 22), (some 3), none⟩] .ret
@[simp] theorem xk47_1 : GoC fns Q s k47_1 st ↔ GoO fns Q s [⟨.load .take true 12 (.c (.gl 2)), (some 21), none⟩,
    ⟨.move .take (.p 6), (some 22), none⟩,
    ⟨.store 12 (.p 2) (.p 21), none, none⟩,
    ⟨.assign (.p 22), (some 3), none⟩] .ret st := goC_ops
def k47_2 : ACode :=
  .cond (.p 20) k47_1 .skip
@[simp] theorem xk47_2 : GoC fns Q s k47_2 st ↔ GB fns Q s (peek st (.p 20)) k47_1 .skip st := goC_cond
def k47_3 : ACode :=
  .seq k47_2 k47_0
@[simp] theorem xk47_3 : GoC fns Q s k47_3 st ↔ GoC fns Q (.sq k47_0 :: s) k47_2 st := goC_seq
def k47_4 : ACode :=
  .ops [⟨.move .head (.p 6), (some 19), none⟩,
    ⟨.bin .neq 5 true (.p 19) (.c (.nilI)), (some 20), none⟩] k47_3
@[simp] theorem xk47_4 : GoC fns Q s k47_4 st ↔ GoO fns Q s [⟨.move .head (.p 6), (some 19), none⟩,
    ⟨.bin .neq 5 true (.p 19) (.c (.nilI)), (some 20), none⟩] k47_3 st := goC_ops
def k47_5 : ACode :=
  .ops [⟨.px (.slArr 12 5 1) [.p 4, .c (.int .i64 0), .c (.int .i64 12)], (some 13), none⟩,
    ⟨.move .look (.p 0), (some 14), none⟩,
    ⟨.convSB 5 (.p 14), (some 15), none⟩,
    ⟨.hcall 66 [(.m 13, false), (.t 15, false)], (some 16), none⟩,
    ⟨.move .look (.t 16), (some 12), none⟩,
    ⟨.extract 12 0, (some 17), none⟩,
    ⟨.extract 12 1, (some 18), none⟩,
    ⟨.assign (.p 17), (some 5), none⟩,
    ⟨.assign (.p 18), (some 6), none⟩] k47_4
@[simp] theorem xk47_5 : GoC fns Q s k47_5 st ↔ GoO fns Q s [⟨.px (.slArr 12 5 1) [.p 4, .c (.int .i64 0), .c (.int .i64 12)], (some 13), none⟩,
    ⟨.move .look (.p 0), (some 14), none⟩,
    ⟨.convSB 5 (.p 14), (some 15), none⟩,
    ⟨.hcall 66 [(.m 13, false), (.t 15, false)], (some 16), none⟩,
    ⟨.move .look (.t 16), (some 12), none⟩,
    ⟨.extract 12 0, (some 17), none⟩,
    ⟨.extract 12 1, (some 18), none⟩,
    ⟨.assign (.p 17), (some 5), none⟩,
    ⟨.assign (.p 18), (some 6), none⟩] k47_4 st := goC_ops
def k47_6 : ACode :=
  .ops [⟨.newobj [.int .u8 0, .int .u8 0, .int .u8 0, .int .u8 0, .int .u8 0, .int .u8 0, .int .u8 0, .int .u8 0, .int .u8 0, .int .u8 0, .int .u8 0, .int .u8 0], (some 4), none⟩] k47_5
@[simp] theorem xk47_6 : GoC fns Q s k47_6 st ↔ GoO fns Q s [⟨.newobj [.int .u8 0, .int .u8 0, .int .u8 0, .int .u8 0, .int .u8 0, .int .u8 0, .int .u8 0, .int .u8 0, .int .u8 0, .int .u8 0, .int .u8 0, .int .u8 0], (some 4), none⟩] k47_5 st := goC_ops
def k47_7 : ACode :=
  .ops [⟨.dead, none, none⟩] .skip
@[simp] theorem xk47_7 : GoC fns Q s k47_7 st ↔ GoO fns Q s [⟨.dead, none, none⟩] .skip st := goC_ops
def k47_8 : ACode :=
  .cond (.p 9) k47_7 .skip
@[simp] theorem xk47_8 : GoC fns Q s k47_8 st ↔ GB fns Q s (peek st (.p 9)) k47_7 .skip st := goC_cond
def k47_9 : ACode :=
  .seq k47_8 k47_6
@[simp] theorem xk47_9 : GoC fns Q s k47_9 st ↔ GoC fns Q (.sq k47_6 :: s) k47_8 st := goC_seq
def k47_10 : ACode :=
  .ops [⟨.move .head (.p 0), (some 7), none⟩,
    ⟨.len true (.p 7), (some 8), none⟩,
    ⟨.bin .neq 1 true (.p 8) (.c (.int .i64 24)), (some 9), none⟩] k47_9
@[simp] theorem xk47_10 : GoC fns Q s k47_10 st ↔ GoO fns Q s [⟨.move .head (.p 0), (some 7), none⟩,
    ⟨.len true (.p 7), (some 8), none⟩,
    ⟨.bin .neq 1 true (.p 8) (.c (.int .i64 24)), (some 9), none⟩] k47_9 st := goC_ops
def k47_11 : ACode :=
  .ops [⟨.newbox 2 [.int .u8 0, .int .u8 0, .int .u8 0, .int .u8 0, .int .u8 0, .int .u8 0, .int .u8 0, .int .u8 0, .int .u8 0, .int .u8 0, .int .u8 0, .int .u8 0], (some 2), none⟩,
    ⟨.assign (.c (.nilI)), (some 3), none⟩] k47_10
@[simp] theorem xk47_11 : GoC fns Q s k47_11 st ↔ GoO fns Q s [⟨.newbox 2 [.int .u8 0, .int .u8 0, .int .u8 0, .int .u8 0, .int .u8 0, .int .u8 0, .int .u8 0, .int .u8 0, .int .u8 0, .int .u8 0, .int .u8 0, .int .u8 0], (some 2), none⟩,
    ⟨.assign (.c (.nilI)), (some 3), none⟩] k47_10 st := goC_ops
def af47 : AFunc := ⟨24, k47_11, [.cell 2 true 12, .tmp 3]⟩

theorem ok47 : ∃ hs, pFunc Tryd.prog sg hs Tryd.f47 = some af47 := ⟨fun i => if i == 4 then 1 else if i == 13 then 1 else 0, by kernel_rfl⟩
/-- No. 22 -/
def k22_0 : ACode :=
  .ops [⟨.px (.slArr 12 5 1) [.p 4, .c (.int .i64 0), .c (.int .i64 12)], (some 11), none⟩,
    ⟨.move .head (.p 5), (some 13), none⟩,
    ⟨.bin .eql 5 true (.p 13) (.c (.nilI)), (some 14), none⟩,
    ⟨.hcall 33 [(.t 11, false)], (some 12), none⟩,
    ⟨.assign (.t 12), (some 2), none⟩,
    ⟨.assign (.p 14), (some 3), none⟩] .ret
@[simp] theorem xk22_0 : GoC fns Q s k22_0 st ↔ GoO fns Q s [⟨.px (.slArr 12 5 1) [.p 4, .c (.int .i64 0), .c (.int .i64 12)], (some 11), none⟩,
    ⟨.move .head (.p 5), (some 13), none⟩,
    ⟨.bin .eql 5 true (.p 13) (.c (.nilI)), (some 14), none⟩,
    ⟨.hcall 33 [(.t 11, false)], (some 12), none⟩,
    ⟨.assign (.t 12), (some 2), none⟩,
    ⟨.assign (.p 14), (some 3), none⟩] .ret st := goC_ops
def k22_1 : ACode :=
  .ops [⟨.move .look (.p 0), (some 7), none⟩,
    ⟨.hcall 47 [(.p 7, false)], (some 8), none⟩,
    ⟨.move .look (.t 8), (some 6), none⟩,
    ⟨.extract 6 0, (some 9), none⟩,
    ⟨.extract 6 1, (some 10), none⟩,
    ⟨.newobj [.int .u8 0, .int .u8 0, .int .u8 0, .int .u8 0, .int .u8 0, .int .u8 0, .int .u8 0, .int .u8 0, .int .u8 0, .int .u8 0, .int .u8 0, .int .u8 0], (some 4), none⟩,
    ⟨.store 12 (.p 4) (.p 9), none, none⟩,
    ⟨.assign (.p 10), (some 5), none⟩] k22_0
@[simp] theorem xk22_1 : GoC fns Q s k22_1 st ↔ GoO fns Q s [⟨.move .look (.p 0), (some 7), none⟩,
    ⟨.hcall 47 [(.p 7, false)], (some 8), none⟩,
    ⟨.move .look (.t 8), (some 6), none⟩,
    ⟨.extract 6 0, (some 9), none⟩,
    ⟨.extract 6 1, (some 10), none⟩,
    ⟨.newobj [.int .u8 0, .int .u8 0, .int .u8 0, .int .u8 0, .int .u8 0, .int .u8 0, .int .u8 0, .int .u8 0, .int .u8 0, .int .u8 0, .int .u8 0, .int .u8 0], (some 4), none⟩,
    ⟨.store 12 (.p 4) (.p 9), none, none⟩,
    ⟨.assign (.p 10), (some 5), none⟩] k22_0 st := goC_ops
def k22_2 : ACode :=
  .ops [⟨.assign (.c (.slice .nil 0 1 [])), (some 2), none⟩,
    ⟨.assign (.c (.bool false)), (some 3), none⟩] k22_1
@[simp] theorem xk22_2 : GoC fns Q s k22_2 st ↔ GoO fns Q s [⟨.assign (.c (.slice .nil 0 1 [])), (some 2), none⟩,
    ⟨.assign (.c (.bool false)), (some 3), none⟩] k22_1 st := goC_ops
def af22 : AFunc := ⟨15, k22_2, [.tmp 2, .tmp 3]⟩

theorem ok22 : ∃ hs, pFunc Tryd.prog sg hs Tryd.f22 = some af22 := ⟨fun i => if i == 4 then 1 else 0, by kernel_rfl⟩
/-- No. 48 -/
def k48_0 : ACode :=
  .ops [⟨.assign (.c (.nilI)), (some 4), none⟩] .ret
@[simp] theorem xk48_0 : GoC fns Q s k48_0 st ↔ GoO fns Q s [⟨.assign (.c (.nilI)), (some 4), none⟩] .ret st := goC_ops
def k48_1 : ACode :=
  .ops [⟨.move .look (.p 0), (some 19), none⟩,
    ⟨.load .take true 12 (.p 5), (some 20), none⟩,
    ⟨.nilCheck (.p 19), (some 21), none⟩,
    ⟨.store 12 (.p 21) (.p 20), none, none⟩] k48_0
@[simp] theorem xk48_1 : GoC fns Q s k48_1 st ↔ GoO fns Q s [⟨.move .look (.p 0), (some 19), none⟩,
    ⟨.load .take true 12 (.p 5), (some 20), none⟩,
    ⟨.nilCheck (.p 19), (some 21), none⟩,
    ⟨.store 12 (.p 21) (.p 20), none, none⟩] k48_0 st := goC_ops
def k48_2 : ACode :=
  .ops [⟨.move .take (.p 6), (some 18), none⟩,
    ⟨.assign (.p 18), (some 4), none⟩] .ret
@[simp] theorem xk48_2 : GoC fns Q s k48_2 st ↔ GoO fns Q s [⟨.move .take (.p 6), (some 18), none⟩,
    ⟨.assign (.p 18), (some 4), none⟩] .ret st := goC_ops
def k48_3 : ACode :=
  .cond (.p 17) k48_2 .skip
@[simp] theorem xk48_3 : GoC fns Q s k48_3 st ↔ GB fns Q s (peek st (.p 17)) k48_2 .skip st := goC_cond
def k48_4 : ACode :=
  .seq k48_3 k48_1
@[simp] theorem xk48_4 : GoC fns Q s k48_4 st ↔ GoC fns Q (.sq k48_1 :: s) k48_3 st := goC_seq
def k48_5 : ACode :=
  .ops [⟨.move .head (.p 6), (some 16), none⟩,
    ⟨.bin .neq 5 true (.p 16) (.c (.nilI)), (some 17), none⟩] k48_4
@[simp] theorem xk48_5 : GoC fns Q s k48_5 st ↔ GoO fns Q s [⟨.move .head (.p 6), (some 16), none⟩,
    ⟨.bin .neq 5 true (.p 16) (.c (.nilI)), (some 17), none⟩] k48_4 st := goC_ops
def k48_6 : ACode :=
  .ops [⟨.move .look (.t 1), (some 11), none⟩,
    ⟨.convBS (.t 11), (some 12), none⟩,
    ⟨.hcall 47 [(.p 12, false)], (some 13), none⟩,
    ⟨.move .look (.t 13), (some 10), none⟩,
    ⟨.extract 10 0, (some 14), none⟩,
    ⟨.extract 10 1, (some 15), none⟩,
    ⟨.newbox 5 [.int .u8 0, .int .u8 0, .int .u8 0, .int .u8 0, .int .u8 0, .int .u8 0, .int .u8 0, .int .u8 0, .int .u8 0, .int .u8 0, .int .u8 0, .int .u8 0], (some 5), none⟩,
    ⟨.store 12 (.p 5) (.p 14), none, none⟩,
    ⟨.assign (.p 15), (some 6), none⟩] k48_5
@[simp] theorem xk48_6 : GoC fns Q s k48_6 st ↔ GoO fns Q s [⟨.move .look (.t 1), (some 11), none⟩,
    ⟨.convBS (.t 11), (some 12), none⟩,
    ⟨.hcall 47 [(.p 12, false)], (some 13), none⟩,
    ⟨.move .look (.t 13), (some 10), none⟩,
    ⟨.extract 10 0, (some 14), none⟩,
    ⟨.extract 10 1, (some 15), none⟩,
    ⟨.newbox 5 [.int .u8 0, .int .u8 0, .int .u8 0, .int .u8 0, .int .u8 0, .int .u8 0, .int .u8 0, .int .u8 0, .int .u8 0, .int .u8 0, .int .u8 0, .int .u8 0], (some 5), none⟩,
    ⟨.store 12 (.p 5) (.p 14), none, none⟩,
    ⟨.assign (.p 15), (some 6), none⟩] k48_5 st := goC_ops
def k48_7 : ACode :=
  .ops [⟨.assign (.c (.nilI)), (some 4), none⟩] .ret
@[simp] theorem xk48_7 : GoC fns Q s k48_7 st ↔ GoO fns Q s [⟨.assign (.c (.nilI)), (some 4), none⟩] .ret st := goC_ops
def k48_8 : ACode :=
  .cond (.p 9) k48_7 .skip
@[simp] theorem xk48_8 : GoC fns Q s k48_8 st ↔ GB fns Q s (peek st (.p 9)) k48_7 .skip st := goC_cond
def k48_9 : ACode :=
  .seq k48_8 k48_6
@[simp] theorem xk48_9 : GoC fns Q s k48_9 st ↔ GoC fns Q (.sq k48_6 :: s) k48_8 st := goC_seq
def k48_10 : ACode :=
  .ops [⟨.move .head (.t 1), (some 7), none⟩,
    ⟨.len false (.p 7), (some 8), none⟩,
    ⟨.bin .eql 1 true (.p 8) (.c (.int .i64 0)), (some 9), none⟩] k48_9
@[simp] theorem xk48_10 : GoC fns Q s k48_10 st ↔ GoO fns Q s [⟨.move .head (.t 1), (some 7), none⟩,
    ⟨.len false (.p 7), (some 8), none⟩,
    ⟨.bin .eql 1 true (.p 8) (.c (.int .i64 0)), (some 9), none⟩] k48_9 st := goC_ops
def k48_11 : ACode :=
  .ops [⟨.assign (.c (.nilI)), (some 4), none⟩] k48_10
@[simp] theorem xk48_11 : GoC fns Q s k48_11 st ↔ GoO fns Q s [⟨.assign (.c (.nilI)), (some 4), none⟩] k48_10 st := goC_ops
def af48 : AFunc := ⟨22, k48_11, [.tmp 4]⟩

theorem ok48 : ∃ hs, pFunc Tryd.prog sg hs Tryd.f48 = some af48 := ⟨fun i => 0, by kernel_rfl⟩
/-- No. 23 -/
def k23_0 : ACode :=
  .ops [⟨.px (.slArr 12 5 1) [.p 6, .c (.int .i64 0), .c (.int .i64 12)], (some 12), none⟩,
    ⟨.move .head (.p 7), (some 14), none⟩,
    ⟨.bin .eql 5 true (.p 14) (.c (.nilI)), (some 15), none⟩,
    ⟨.hcall 33 [(.t 12, false)], (some 13), none⟩,
    ⟨.assign (.t 13), (some 4), none⟩,
    ⟨.assign (.p 15), (some 5), none⟩] .ret
@[simp] theorem xk23_0 : GoC fns Q s k23_0 st ↔ GoO fns Q s [⟨.px (.slArr 12 5 1) [.p 6, .c (.int .i64 0), .c (.int .i64 12)], (some 12), none⟩,
    ⟨.move .head (.p 7), (some 14), none⟩,
    ⟨.bin .eql 5 true (.p 14) (.c (.nilI)), (some 15), none⟩,
    ⟨.hcall 33 [(.t 12, false)], (some 13), none⟩,
    ⟨.assign (.t 13), (some 4), none⟩,
    ⟨.assign (.p 15), (some 5), none⟩] .ret st := goC_ops
def k23_1 : ACode :=
  .ops [⟨.move .look (.t 1), (some 10), none⟩,
    ⟨.hcall 48 [(.p 6, false), (.t 10, false)], (some 11), none⟩,
    ⟨.assign (.p 11), (some 7), none⟩] k23_0
@[simp] theorem xk23_1 : GoC fns Q s k23_1 st ↔ GoO fns Q s [⟨.move .look (.t 1), (some 10), none⟩,
    ⟨.hcall 48 [(.p 6, false), (.t 10, false)], (some 11), none⟩,
    ⟨.assign (.p 11), (some 7), none⟩] k23_0 st := goC_ops
def k23_2 : ACode :=
  .ops [⟨.move .look (.t 0), (some 8), none⟩,
    ⟨.call 43 [(.t 8, false)], (some 9), none⟩,
    ⟨.newobj [.int .u8 0, .int .u8 0, .int .u8 0, .int .u8 0, .int .u8 0, .int .u8 0, .int .u8 0, .int .u8 0, .int .u8 0, .int .u8 0, .int .u8 0, .int .u8 0], (some 6), none⟩,
    ⟨.store 12 (.p 6) (.p 9), none, none⟩] k23_1
@[simp] theorem xk23_2 : GoC fns Q s k23_2 st ↔ GoO fns Q s [⟨.move .look (.t 0), (some 8), none⟩,
    ⟨.call 43 [(.t 8, false)], (some 9), none⟩,
    ⟨.newobj [.int .u8 0, .int .u8 0, .int .u8 0, .int .u8 0, .int .u8 0, .int .u8 0, .int .u8 0, .int .u8 0, .int .u8 0, .int .u8 0, .int .u8 0, .int .u8 0], (some 6), none⟩,
    ⟨.store 12 (.p 6) (.p 9), none, none⟩] k23_1 st := goC_ops
def k23_3 : ACode :=
  .ops [⟨.assign (.c (.slice .nil 0 1 [])), (some 4), none⟩,
    ⟨.assign (.c (.bool false)), (some 5), none⟩] k23_2
@[simp] theorem xk23_3 : GoC fns Q s k23_3 st ↔ GoO fns Q s [⟨.assign (.c (.slice .nil 0 1 [])), (some 4), none⟩,
    ⟨.assign (.c (.bool false)), (some 5), none⟩] k23_2 st := goC_ops
def af23 : AFunc := ⟨16, k23_3, [.tmp 4, .tmp 5]⟩

theorem ok23 : ∃ hs, pFunc Tryd.prog sg hs Tryd.f23 = some af23 := ⟨fun i => if i == 6 then 1 else 0, by kernel_rfl⟩
/-- No. 24 -/
def k24_0 : ACode :=
  .ops [⟨.move .look (.t 4), (some 29), none⟩,
    ⟨.convBS (.t 29), (some 30), none⟩,
    ⟨.assign (.p 30), (some 2), none⟩] .ret
@[simp] theorem xk24_0 : GoC fns Q s k24_0 st ↔ GoO fns Q s [⟨.move .look (.t 4), (some 29), none⟩,
    ⟨.convBS (.t 29), (some 30), none⟩,
    ⟨.assign (.p 30), (some 2), none⟩] .ret st := goC_ops
def k24_1 : ACode :=
  .ops [⟨.move .look (.p 5), (some 10), none⟩,
    ⟨.bin .add 1 true (.p 10) (.c (.int .i64 1)), (some 11), none⟩,
    ⟨.assign (.p 11), (some 5), none⟩] .skip
@[simp] theorem xk24_1 : GoC fns Q s k24_1 st ↔ GoO fns Q s [⟨.move .look (.p 5), (some 10), none⟩,
    ⟨.bin .add 1 true (.p 10) (.c (.int .i64 1)), (some 11), none⟩,
    ⟨.assign (.p 11), (some 5), none⟩] .skip st := goC_ops
def k24_2 : ACode :=
  .ops [⟨.move .take (.t 4), (some 12), none⟩,
    ⟨.move .look (.p 3), (some 13), none⟩,
    ⟨.move .look (.t 0), (some 14), none⟩,
    ⟨.move .look (.p 5), (some 15), none⟩,
    ⟨.indexAddr 1 (.t 14) (.p 15), (some 16), none⟩,
    ⟨.load .look false 1 (.p 16), (some 17), none⟩,
    ⟨.bin .quo 1 true (.p 17) (.c (.int .u8 16)), (some 18), none⟩,
    ⟨.indexStr (.p 13) (.p 18), (some 19), none⟩,
    ⟨.move .look (.p 3), (some 20), none⟩,
    ⟨.move .look (.t 0), (some 21), none⟩,
    ⟨.move .look (.p 5), (some 22), none⟩,
    ⟨.indexAddr 1 (.t 21) (.p 22), (some 23), none⟩,
    ⟨.load .look false 1 (.p 23), (some 24), none⟩,
    ⟨.bin .rem 1 true (.p 24) (.c (.int .u8 16)), (some 25), none⟩,
    ⟨.indexStr (.p 20) (.p 25), (some 26), none⟩,
    ⟨.buildSl 5 1 [.int .u8 0, .int .u8 0] [(0, 1, .p 19), (1, 1, .p 26)], (some 27), none⟩,
    ⟨.append 5 1 1 false (.t 12) (.p 27), (some 28), none⟩,
    ⟨.assign (.t 28), (some 4), none⟩] .skip
@[simp] theorem xk24_2 : GoC fns Q s k24_2 st ↔ GoO fns Q s [⟨.move .take (.t 4), (some 12), none⟩,
    ⟨.move .look (.p 3), (some 13), none⟩,
    ⟨.move .look (.t 0), (some 14), none⟩,
    ⟨.move .look (.p 5), (some 15), none⟩,
    ⟨.indexAddr 1 (.t 14) (.p 15), (some 16), none⟩,
    ⟨.load .look false 1 (.p 16), (some 17), none⟩,
    ⟨.bin .quo 1 true (.p 17) (.c (.int .u8 16)), (some 18), none⟩,
    ⟨.indexStr (.p 13) (.p 18), (some 19), none⟩,
    ⟨.move .look (.p 3), (some 20), none⟩,
    ⟨.move .look (.t 0), (some 21), none⟩,
    ⟨.move .look (.p 5), (some 22), none⟩,
    ⟨.indexAddr 1 (.t 21) (.p 22), (some 23), none⟩,
    ⟨.load .look false 1 (.p 23), (some 24), none⟩,
    ⟨.bin .rem 1 true (.p 24) (.c (.int .u8 16)), (some 25), none⟩,
    ⟨.indexStr (.p 20) (.p 25), (some 26), none⟩,
    ⟨.buildSl 5 1 [.int .u8 0, .int .u8 0] [(0, 1, .p 19), (1, 1, .p 26)], (some 27), none⟩,
    ⟨.append 5 1 1 false (.t 12) (.p 27), (some 28), none⟩,
    ⟨.assign (.t 28), (some 4), none⟩] .skip st := goC_ops
def k24_3 : ACode :=
  .block 1 k24_2
@[simp] theorem xk24_3 : GoC fns Q s k24_3 st ↔ GoC fns Q (.bl 1 :: s) k24_2 st := goC_block
def k24_4 : ACode :=
  .seq k24_3 k24_1
@[simp] theorem xk24_4 : GoC fns Q s k24_4 st ↔ GoC fns Q (.sq k24_1 :: s) k24_3 st := goC_seq
def k24_5 : ACode :=
  .cond (.p 9) .skip (.exit 0)
@[simp] theorem xk24_5 : GoC fns Q s k24_5 st ↔ GB fns Q s (peek st (.p 9)) .skip (.exit 0) st := goC_cond
def k24_6 : ACode :=
  .seq k24_5 k24_4
@[simp] theorem xk24_6 : GoC fns Q s k24_6 st ↔ GoC fns Q (.sq k24_4 :: s) k24_5 st := goC_seq
def k24_7 : ACode :=
  .ops [⟨.move .look (.p 5), (some 6), none⟩,
    ⟨.move .head (.t 0), (some 7), none⟩,
    ⟨.len false (.p 7), (some 8), none⟩,
    ⟨.bin .lss 1 false (.p 6) (.p 8), (some 9), none⟩] k24_6
@[simp] theorem xk24_7 : GoC fns Q s k24_7 st ↔ GoO fns Q s [⟨.move .look (.p 5), (some 6), none⟩,
    ⟨.move .head (.t 0), (some 7), none⟩,
    ⟨.len false (.p 7), (some 8), none⟩,
    ⟨.bin .lss 1 false (.p 6) (.p 8), (some 9), none⟩] k24_6 st := goC_ops
def lc24_0 : ACode :=
  k24_7
@[simp] theorem xlc24_0 : GoC fns Q s lc24_0 st ↔ GoC fns Q s k24_7 st := Iff.rfl
def k24_9 : ACode :=
  .loop lc24_0
@[simp] theorem xk24_9 : GoC fns Q s k24_9 st ↔ (LoopR fns lc24_0 st fun r => GoE fns Q s r.1 r.2) := goC_loop
def k24_10 : ACode :=
  .block 0 k24_9
@[simp] theorem xk24_10 : GoC fns Q s k24_10 st ↔ GoC fns Q (.bl 0 :: s) k24_9 st := goC_block
def k24_11 : ACode :=
  .seq k24_10 k24_0
@[simp] theorem xk24_11 : GoC fns Q s k24_11 st ↔ GoC fns Q (.sq k24_0 :: s) k24_10 st := goC_seq
def k24_12 : ACode :=
  .ops [⟨.assign (.c (.int .i64 0)), (some 5), none⟩] k24_11
@[simp] theorem xk24_12 : GoC fns Q s k24_12 st ↔ GoO fns Q s [⟨.assign (.c (.int .i64 0)), (some 5), none⟩] k24_11 st := goC_ops
def k24_13 : ACode :=
  .ops [⟨.assign (.c (.slice .nil 0 1 [])), (some 4), none⟩] k24_12
@[simp] theorem xk24_13 : GoC fns Q s k24_13 st ↔ GoO fns Q s [⟨.assign (.c (.slice .nil 0 1 [])), (some 4), none⟩] k24_12 st := goC_ops
def k24_14 : ACode :=
  .ops [⟨.assign (.c (.str [48, 49, 50, 51, 52, 53, 54, 55, 56, 57, 97, 98, 99, 100, 101, 102])), (some 3), none⟩] k24_13
@[simp] theorem xk24_14 : GoC fns Q s k24_14 st ↔ GoO fns Q s [⟨.assign (.c (.str [48, 49, 50, 51, 52, 53, 54, 55, 56, 57, 97, 98, 99, 100, 101, 102])), (some 3), none⟩] k24_13 st := goC_ops
def k24_15 : ACode :=
  .ops [⟨.assign (.c (.str [])), (some 2), none⟩] k24_14
@[simp] theorem xk24_15 : GoC fns Q s k24_15 st ↔ GoO fns Q s [⟨.assign (.c (.str [])), (some 2), none⟩] k24_14 st := goC_ops
def af24 : AFunc := ⟨31, k24_15, [.tmp 2]⟩

theorem ok24 : ∃ hs, pFunc Tryd.prog sg hs Tryd.f24 = some af24 := ⟨fun i => 0, by kernel_rfl⟩
/-- No. 25 -/
def k25_0 : ACode :=
  .ops [⟨.move .look (.p 1), (some 7), none⟩,
    ⟨.move .look (.p 7), (some 8), none⟩,
    ⟨.move .look (.t 0), (some 9), (some (8, true))⟩,
    ⟨.convBS (.t 9), (some 10), (some (8, true))⟩,
    ⟨.move .look (.t 2), (some 11), (some (8, true))⟩,
    ⟨.convBS (.t 11), (some 12), (some (8, true))⟩,
    ⟨.bin .eql 2 false (.p 10) (.p 12), (some 13), (some (8, true))⟩,
    ⟨.pick (.p 8) (.p 13) (.c (.bool false)), (some 14), none⟩,
    ⟨.assign (.p 14), (some 6), none⟩] .ret
@[simp] theorem xk25_0 : GoC fns Q s k25_0 st ↔ GoO fns Q s [⟨.move .look (.p 1), (some 7), none⟩,
    ⟨.move .look (.p 7), (some 8), none⟩,
    ⟨.move .look (.t 0), (some 9), (some (8, true))⟩,
    ⟨.convBS (.t 9), (some 10), (some (8, true))⟩,
    ⟨.move .look (.t 2), (some 11), (some (8, true))⟩,
    ⟨.convBS (.t 11), (some 12), (some (8, true))⟩,
    ⟨.bin .eql 2 false (.p 10) (.p 12), (some 13), (some (8, true))⟩,
    ⟨.pick (.p 8) (.p 13) (.c (.bool false)), (some 14), none⟩,
    ⟨.assign (.p 14), (some 6), none⟩] .ret st := goC_ops
def k25_1 : ACode :=
  .ops [⟨.assign (.c (.bool false)), (some 6), none⟩] k25_0
@[simp] theorem xk25_1 : GoC fns Q s k25_1 st ↔ GoO fns Q s [⟨.assign (.c (.bool false)), (some 6), none⟩] k25_0 st := goC_ops
def af25 : AFunc := ⟨15, k25_1, [.tmp 6]⟩

theorem ok25 : ∃ hs, pFunc Tryd.prog sg hs Tryd.f25 = some af25 := ⟨fun i => 0, by kernel_rfl⟩
/-- No. 49 -/
def k49_0 : ACode :=
  .ops [⟨.load .head true 12 (.p 1), (some 3), none⟩,
    ⟨.load .head true 12 (.c (.gl 2)), (some 4), none⟩,
    ⟨.px (.eqArr false 12 .u8) [.p 3, .p 4], (some 5), none⟩,
    ⟨.assign (.p 5), (some 2), none⟩] .ret
@[simp] theorem xk49_0 : GoC fns Q s k49_0 st ↔ GoO fns Q s [⟨.load .head true 12 (.p 1), (some 3), none⟩,
    ⟨.load .head true 12 (.c (.gl 2)), (some 4), none⟩,
    ⟨.px (.eqArr false 12 .u8) [.p 3, .p 4], (some 5), none⟩,
    ⟨.assign (.p 5), (some 2), none⟩] .ret st := goC_ops
def k49_1 : ACode :=
  .ops [⟨.box 1 (.p 0), (some 1), none⟩,
    ⟨.assign (.c (.bool false)), (some 2), none⟩] k49_0
@[simp] theorem xk49_1 : GoC fns Q s k49_1 st ↔ GoO fns Q s [⟨.box 1 (.p 0), (some 1), none⟩,
    ⟨.assign (.c (.bool false)), (some 2), none⟩] k49_0 st := goC_ops
def af49 : AFunc := ⟨6, k49_1, [.tmp 2]⟩

theorem ok49 : ∃ hs, pFunc Tryd.prog sg hs Tryd.f49 = some af49 := ⟨fun i => 0, by kernel_rfl⟩
/-- No. 26 -/
def k26_0 : ACode :=
  .ops [⟨.move .look (.t 0), (some 3), none⟩,
    ⟨.call 43 [(.t 3, false)], (some 4), none⟩,
    ⟨.call 49 [(.p 4, false)], (some 5), none⟩,
    ⟨.assign (.p 5), (some 2), none⟩] .ret
@[simp] theorem xk26_0 : GoC fns Q s k26_0 st ↔ GoO fns Q s [⟨.move .look (.t 0), (some 3), none⟩,
    ⟨.call 43 [(.t 3, false)], (some 4), none⟩,
    ⟨.call 49 [(.p 4, false)], (some 5), none⟩,
    ⟨.assign (.p 5), (some 2), none⟩] .ret st := goC_ops
def k26_1 : ACode :=
  .ops [⟨.assign (.c (.bool false)), (some 2), none⟩] k26_0
@[simp] theorem xk26_1 : GoC fns Q s k26_1 st ↔ GoO fns Q s [⟨.assign (.c (.bool false)), (some 2), none⟩] k26_0 st := goC_ops
def af26 : AFunc := ⟨6, k26_1, [.tmp 2]⟩

theorem ok26 : ∃ hs, pFunc Tryd.prog sg hs Tryd.f26 = some af26 := ⟨fun i => 0, by kernel_rfl⟩
/-- No. 7 -/
def k7_0 : ACode :=
  .ops [⟨.move .head (.p 3), (some 41), none⟩,
    ⟨.move .look (.t 0), (some 42), none⟩,
    ⟨.call 24 [(.t 42, false)], (some 43), none⟩,
    ⟨.bin .eql 2 false (.p 41) (.p 43), (some 44), none⟩,
    ⟨.move .look (.p 44), (some 45), none⟩,
    ⟨.move .look (.t 4), (some 46), (some (45, true))⟩,
    ⟨.move .look (.p 5), (some 47), (some (45, true))⟩,
    ⟨.move .look (.p 3), (some 48), (some (45, true))⟩,
    ⟨.convSB 5 (.p 48), (some 49), (some (45, true))⟩,
    ⟨.call 25 [(.t 46, false), (.p 47, false), (.t 49, false)], (some 50), (some (45, true))⟩,
    ⟨.pick (.p 45) (.p 50) (.c (.bool false)), (some 51), none⟩,
    ⟨.move .look (.p 51), (some 52), none⟩,
    ⟨.move .look (.t 6), (some 53), (some (52, true))⟩,
    ⟨.move .look (.p 7), (some 54), (some (52, true))⟩,
    ⟨.move .look (.p 3), (some 55), (some (52, true))⟩,
    ⟨.bin .add 2 true (.c (.str [34])) (.p 55), (some 56), (some (52, true))⟩,
    ⟨.bin .add 2 true (.p 56) (.c (.str [34])), (some 57), (some (52, true))⟩,
    ⟨.convSB 5 (.p 57), (some 58), (some (52, true))⟩,
    ⟨.call 25 [(.t 53, false), (.p 54, false), (.t 58, false)], (some 59), (some (52, true))⟩,
    ⟨.pick (.p 52) (.p 59) (.c (.bool false)), (some 60), none⟩,
    ⟨.move .look (.p 60), (some 61), none⟩,
    ⟨.move .look (.t 8), (some 62), (some (61, true))⟩,
    ⟨.move .look (.p 9), (some 63), (some (61, true))⟩,
    ⟨.move .look (.t 0), (some 64), (some (61, true))⟩,
    ⟨.call 25 [(.t 62, false), (.p 63, false), (.t 64, false)], (some 65), (some (61, true))⟩,
    ⟨.pick (.p 61) (.p 65) (.c (.bool false)), (some 66), none⟩,
    ⟨.move .look (.p 66), (some 67), none⟩,
    ⟨.move .look (.t 10), (some 68), (some (67, true))⟩,
    ⟨.move .look (.p 11), (some 69), (some (67, true))⟩,
    ⟨.move .look (.t 0), (some 70), (some (67, true))⟩,
    ⟨.call 25 [(.t 68, false), (.p 69, false), (.t 70, false)], (some 71), (some (67, true))⟩,
    ⟨.pick (.p 67) (.p 71) (.c (.bool false)), (some 72), none⟩,
    ⟨.move .look (.p 72), (some 73), none⟩,
    ⟨.move .look (.t 0), (some 74), (some (73, true))⟩,
    ⟨.call 26 [(.t 74, false)], (some 75), (some (73, true))⟩,
    ⟨.move .head (.p 3), (some 76), (some (73, true))⟩,
    ⟨.bin .eql 2 true (.p 76) (.c (.str [48, 48, 48, 48, 48, 48, 48, 48, 48, 48, 48, 48, 48, 48, 48, 48, 48, 48, 48, 48, 48, 48, 48, 48])), (some 77), (some (73, true))⟩,
    ⟨.bin .eql 0 false (.p 75) (.p 77), (some 78), (some (73, true))⟩,
    ⟨.pick (.p 73) (.p 78) (.c (.bool false)), (some 79), none⟩,
    ⟨.assign (.p 79), (some 2), none⟩] .ret
@[simp] theorem xk7_0 : GoC fns Q s k7_0 st ↔ GoO fns Q s [⟨.move .head (.p 3), (some 41), none⟩,
    ⟨.move .look (.t 0), (some 42), none⟩,
    ⟨.call 24 [(.t 42, false)], (some 43), none⟩,
    ⟨.bin .eql 2 false (.p 41) (.p 43), (some 44), none⟩,
    ⟨.move .look (.p 44), (some 45), none⟩,
    ⟨.move .look (.t 4), (some 46), (some (45, true))⟩,
    ⟨.move .look (.p 5), (some 47), (some (45, true))⟩,
    ⟨.move .look (.p 3), (some 48), (some (45, true))⟩,
    ⟨.convSB 5 (.p 48), (some 49), (some (45, true))⟩,
    ⟨.call 25 [(.t 46, false), (.p 47, false), (.t 49, false)], (some 50), (some (45, true))⟩,
    ⟨.pick (.p 45) (.p 50) (.c (.bool false)), (some 51), none⟩,
    ⟨.move .look (.p 51), (some 52), none⟩,
    ⟨.move .look (.t 6), (some 53), (some (52, true))⟩,
    ⟨.move .look (.p 7), (some 54), (some (52, true))⟩,
    ⟨.move .look (.p 3), (some 55), (some (52, true))⟩,
    ⟨.bin .add 2 true (.c (.str [34])) (.p 55), (some 56), (some (52, true))⟩,
    ⟨.bin .add 2 true (.p 56) (.c (.str [34])), (some 57), (some (52, true))⟩,
    ⟨.convSB 5 (.p 57), (some 58), (some (52, true))⟩,
    ⟨.call 25 [(.t 53, false), (.p 54, false), (.t 58, false)], (some 59), (some (52, true))⟩,
    ⟨.pick (.p 52) (.p 59) (.c (.bool false)), (some 60), none⟩,
    ⟨.move .look (.p 60), (some 61), none⟩,
    ⟨.move .look (.t 8), (some 62), (some (61, true))⟩,
    ⟨.move .look (.p 9), (some 63), (some (61, true))⟩,
    ⟨.move .look (.t 0), (some 64), (some (61, true))⟩,
    ⟨.call 25 [(.t 62, false), (.p 63, false), (.t 64, false)], (some 65), (some (61, true))⟩,
    ⟨.pick (.p 61) (.p 65) (.c (.bool false)), (some 66), none⟩,
    ⟨.move .look (.p 66), (some 67), none⟩,
    ⟨.move .look (.t 10), (some 68), (some (67, true))⟩,
    ⟨.move .look (.p 11), (some 69), (some (67, true))⟩,
    ⟨.move .look (.t 0), (some 70), (some (67, true))⟩,
    ⟨.call 25 [(.t 68, false), (.p 69, false), (.t 70, false)], (some 71), (some (67, true))⟩,
    ⟨.pick (.p 67) (.p 71) (.c (.bool false)), (some 72), none⟩,
    ⟨.move .look (.p 72), (some 73), none⟩,
    ⟨.move .look (.t 0), (some 74), (some (73, true))⟩,
    ⟨.call 26 [(.t 74, false)], (some 75), (some (73, true))⟩,
    ⟨.move .head (.p 3), (some 76), (some (73, true))⟩,
    ⟨.bin .eql 2 true (.p 76) (.c (.str [48, 48, 48, 48, 48, 48, 48, 48, 48, 48, 48, 48, 48, 48, 48, 48, 48, 48, 48, 48, 48, 48, 48, 48])), (some 77), (some (73, true))⟩,
    ⟨.bin .eql 0 false (.p 75) (.p 77), (some 78), (some (73, true))⟩,
    ⟨.pick (.p 73) (.p 78) (.c (.bool false)), (some 79), none⟩,
    ⟨.assign (.p 79), (some 2), none⟩] .ret st := goC_ops
def k7_1 : ACode :=
  .ops [⟨.mkSl false 5 1 1 [.int .u8 0] (.c (.int .i64 12)) (.c (.int .i64 12)), (some 36), none⟩,
    ⟨.move .look (.t 4), (some 37), none⟩,
    ⟨.call 23 [(.t 36, false), (.t 37, false)], (some 38), none⟩,
    ⟨.move .look (.t 38), (some 35), none⟩,
    ⟨.extract 35 0, (some 39), none⟩,
    ⟨.extract 35 1, (some 40), none⟩,
    ⟨.assign (.t 39), (some 10), none⟩,
    ⟨.assign (.p 40), (some 11), none⟩] k7_0
@[simp] theorem xk7_1 : GoC fns Q s k7_1 st ↔ GoO fns Q s [⟨.mkSl false 5 1 1 [.int .u8 0] (.c (.int .i64 12)) (.c (.int .i64 12)), (some 36), none⟩,
    ⟨.move .look (.t 4), (some 37), none⟩,
    ⟨.call 23 [(.t 36, false), (.t 37, false)], (some 38), none⟩,
    ⟨.move .look (.t 38), (some 35), none⟩,
    ⟨.extract 35 0, (some 39), none⟩,
    ⟨.extract 35 1, (some 40), none⟩,
    ⟨.assign (.t 39), (some 10), none⟩,
    ⟨.assign (.p 40), (some 11), none⟩] k7_0 st := goC_ops
def k7_2 : ACode :=
  .ops [⟨.move .look (.p 3), (some 31), none⟩,
    ⟨.call 22 [(.p 31, false)], (some 32), none⟩,
    ⟨.move .look (.t 32), (some 30), none⟩,
    ⟨.extract 30 0, (some 33), none⟩,
    ⟨.extract 30 1, (some 34), none⟩,
    ⟨.assign (.t 33), (some 8), none⟩,
    ⟨.assign (.p 34), (some 9), none⟩] k7_1
@[simp] theorem xk7_2 : GoC fns Q s k7_2 st ↔ GoO fns Q s [⟨.move .look (.p 3), (some 31), none⟩,
    ⟨.call 22 [(.p 31, false)], (some 32), none⟩,
    ⟨.move .look (.t 32), (some 30), none⟩,
    ⟨.extract 30 0, (some 33), none⟩,
    ⟨.extract 30 1, (some 34), none⟩,
    ⟨.assign (.t 33), (some 8), none⟩,
    ⟨.assign (.p 34), (some 9), none⟩] k7_1 st := goC_ops
def k7_3 : ACode :=
  .ops [⟨.move .look (.t 0), (some 26), none⟩,
    ⟨.call 21 [(.t 26, false)], (some 27), none⟩,
    ⟨.move .look (.t 27), (some 25), none⟩,
    ⟨.extract 25 0, (some 28), none⟩,
    ⟨.extract 25 1, (some 29), none⟩,
    ⟨.assign (.t 28), (some 6), none⟩,
    ⟨.assign (.p 29), (some 7), none⟩] k7_2
@[simp] theorem xk7_3 : GoC fns Q s k7_3 st ↔ GoO fns Q s [⟨.move .look (.t 0), (some 26), none⟩,
    ⟨.call 21 [(.t 26, false)], (some 27), none⟩,
    ⟨.move .look (.t 27), (some 25), none⟩,
    ⟨.extract 25 0, (some 28), none⟩,
    ⟨.extract 25 1, (some 29), none⟩,
    ⟨.assign (.t 28), (some 6), none⟩,
    ⟨.assign (.p 29), (some 7), none⟩] k7_2 st := goC_ops
def k7_4 : ACode :=
  .ops [⟨.move .look (.t 0), (some 21), none⟩,
    ⟨.call 20 [(.t 21, false)], (some 22), none⟩,
    ⟨.move .look (.t 22), (some 20), none⟩,
    ⟨.extract 20 0, (some 23), none⟩,
    ⟨.extract 20 1, (some 24), none⟩,
    ⟨.assign (.t 23), (some 4), none⟩,
    ⟨.assign (.p 24), (some 5), none⟩] k7_3
@[simp] theorem xk7_4 : GoC fns Q s k7_4 st ↔ GoO fns Q s [⟨.move .look (.t 0), (some 21), none⟩,
    ⟨.call 20 [(.t 21, false)], (some 22), none⟩,
    ⟨.move .look (.t 22), (some 20), none⟩,
    ⟨.extract 20 0, (some 23), none⟩,
    ⟨.extract 20 1, (some 24), none⟩,
    ⟨.assign (.t 23), (some 4), none⟩,
    ⟨.assign (.p 24), (some 5), none⟩] k7_3 st := goC_ops
def k7_5 : ACode :=
  .ops [⟨.move .look (.t 0), (some 18), none⟩,
    ⟨.call 19 [(.t 18, false)], (some 19), none⟩,
    ⟨.assign (.p 19), (some 3), none⟩] k7_4
@[simp] theorem xk7_5 : GoC fns Q s k7_5 st ↔ GoO fns Q s [⟨.move .look (.t 0), (some 18), none⟩,
    ⟨.call 19 [(.t 18, false)], (some 19), none⟩,
    ⟨.assign (.p 19), (some 3), none⟩] k7_4 st := goC_ops
def k7_6 : ACode :=
  .ops [⟨.assign (.c (.bool true)), (some 2), none⟩] .ret
@[simp] theorem xk7_6 : GoC fns Q s k7_6 st ↔ GoO fns Q s [⟨.assign (.c (.bool true)), (some 2), none⟩] .ret st := goC_ops
def k7_7 : ACode :=
  .cond (.p 17) k7_6 .skip
@[simp] theorem xk7_7 : GoC fns Q s k7_7 st ↔ GB fns Q s (peek st (.p 17)) k7_6 .skip st := goC_cond
def k7_8 : ACode :=
  .seq k7_7 k7_5
@[simp] theorem xk7_8 : GoC fns Q s k7_8 st ↔ GoC fns Q (.sq k7_5 :: s) k7_7 st := goC_seq
def k7_9 : ACode :=
  .ops [⟨.move .head (.t 0), (some 15), none⟩,
    ⟨.len false (.p 15), (some 16), none⟩,
    ⟨.bin .neq 1 true (.p 16) (.c (.int .i64 12)), (some 17), none⟩] k7_8
@[simp] theorem xk7_9 : GoC fns Q s k7_9 st ↔ GoO fns Q s [⟨.move .head (.t 0), (some 15), none⟩,
    ⟨.len false (.p 15), (some 16), none⟩,
    ⟨.bin .neq 1 true (.p 16) (.c (.int .i64 12)), (some 17), none⟩] k7_8 st := goC_ops
def k7_10 : ACode :=
  .ops [⟨.assign (.c (.bool true)), (some 2), none⟩] .ret
@[simp] theorem xk7_10 : GoC fns Q s k7_10 st ↔ GoO fns Q s [⟨.assign (.c (.bool true)), (some 2), none⟩] .ret st := goC_ops
def k7_11 : ACode :=
  .cond (.p 14) k7_10 .skip
@[simp] theorem xk7_11 : GoC fns Q s k7_11 st ↔ GB fns Q s (peek st (.p 14)) k7_10 .skip st := goC_cond
def k7_12 : ACode :=
  .seq k7_11 k7_9
@[simp] theorem xk7_12 : GoC fns Q s k7_12 st ↔ GoC fns Q (.sq k7_9 :: s) k7_11 st := goC_seq
def k7_13 : ACode :=
  .ops [⟨.move .head (.t 0), (some 12), none⟩,
    ⟨.len false (.p 12), (some 13), none⟩,
    ⟨.bin .gtr 1 true (.p 13) (.c (.int .i64 2147483647)), (some 14), none⟩] k7_12
@[simp] theorem xk7_13 : GoC fns Q s k7_13 st ↔ GoO fns Q s [⟨.move .head (.t 0), (some 12), none⟩,
    ⟨.len false (.p 12), (some 13), none⟩,
    ⟨.bin .gtr 1 true (.p 13) (.c (.int .i64 2147483647)), (some 14), none⟩] k7_12 st := goC_ops
def k7_14 : ACode :=
  .ops [⟨.assign (.c (.bool false)), (some 2), none⟩] k7_13
@[simp] theorem xk7_14 : GoC fns Q s k7_14 st ↔ GoO fns Q s [⟨.assign (.c (.bool false)), (some 2), none⟩] k7_13 st := goC_ops
def af7 : AFunc := ⟨80, k7_14, [.tmp 2]⟩

theorem ok7 : ∃ hs, pFunc Tryd.prog sg hs Tryd.f7 = some af7 := ⟨fun i => 0, by kernel_rfl⟩
end
def fns : FuncId → Option AFunc
  | 43 => some af43
  | 65 => some af65
  | 44 => some af44
  | 19 => some af19
  | 45 => some af45
  | 33 => some af33
  | 20 => some af20
  | 46 => some af46
  | 21 => some af21
  | 66 => some af66
  | 47 => some af47
  | 22 => some af22
  | 48 => some af48
  | 23 => some af23
  | 24 => some af24
  | 25 => some af25
  | 49 => some af49
  | 26 => some af26
  | 7 => some af7
  | _ => none
theorem run43 {vs : List AV} {h0 : H} (hl : vs.length ≤ 7) {r : AV × H} (h : GoC fns (fun e => xends [.cell 2 true 12] e = some r) [] k43_2 ⟨fun j => (vs[j]?).getD .undef, fun _ => none, h0⟩) : callω fns 43 vs h0 = some r :=
  callω_run fns (af := af43) rfl rfl rfl hl h
theorem runs43 {vs : List AV} {h0 : H} (hl : vs.length ≤ 7) {p : AV × H → Prop} (h : GoC fns (fun e => Run (xends [.cell 2 true 12] e) p) [] k43_2 ⟨fun j => (vs[j]?).getD .undef, fun _ => none, h0⟩) : CW fns 43 vs h0 p :=
  callω_runs fns (af := af43) rfl rfl rfl hl h
theorem run65 {vs : List AV} {h0 : H} (hl : vs.length ≤ 33) {r : AV × H} (h : GoC fns (fun e => xends [.tmp 4] e = some r) [] k65_17 ⟨fun j => (vs[j]?).getD .undef, fun _ => none, h0⟩) : callω fns 65 vs h0 = some r :=
  callω_run fns (af := af65) rfl rfl rfl hl h
theorem runs65 {vs : List AV} {h0 : H} (hl : vs.length ≤ 33) {p : AV × H → Prop} (h : GoC fns (fun e => Run (xends [.tmp 4] e) p) [] k65_17 ⟨fun j => (vs[j]?).getD .undef, fun _ => none, h0⟩) : CW fns 65 vs h0 p :=
  callω_runs fns (af := af65) rfl rfl rfl hl h
theorem run44 {vs : List AV} {h0 : H} (hl : vs.length ≤ 9) {r : AV × H} (h : GoC fns (fun e => xends [.tmp 2] e = some r) [] k44_3 ⟨fun j => (vs[j]?).getD .undef, fun _ => none, h0⟩) : callω fns 44 vs h0 = some r :=
  callω_run fns (af := af44) rfl rfl rfl hl h
theorem runs44 {vs : List AV} {h0 : H} (hl : vs.length ≤ 9) {p : AV × H → Prop} (h : GoC fns (fun e => Run (xends [.tmp 2] e) p) [] k44_3 ⟨fun j => (vs[j]?).getD .undef, fun _ => none, h0⟩) : CW fns 44 vs h0 p :=
  callω_runs fns (af := af44) rfl rfl rfl hl h
theorem run19 {vs : List AV} {h0 : H} (hl : vs.length ≤ 6) {r : AV × H} (h : GoC fns (fun e => xends [.tmp 2] e = some r) [] k19_1 ⟨fun j => (vs[j]?).getD .undef, fun _ => none, h0⟩) : callω fns 19 vs h0 = some r :=
  callω_run fns (af := af19) rfl rfl rfl hl h
theorem runs19 {vs : List AV} {h0 : H} (hl : vs.length ≤ 6) {p : AV × H → Prop} (h : GoC fns (fun e => Run (xends [.tmp 2] e) p) [] k19_1 ⟨fun j => (vs[j]?).getD .undef, fun _ => none, h0⟩) : CW fns 19 vs h0 p :=
  callω_runs fns (af := af19) rfl rfl rfl hl h
theorem run45 {vs : List AV} {h0 : H} (hl : vs.length ≤ 9) {r : AV × H} (h : GoC fns (fun e => xends [.tmp 2, .tmp 3] e = some r) [] k45_3 ⟨fun j => (vs[j]?).getD .undef, fun _ => none, h0⟩) : callω fns 45 vs h0 = some r :=
  callω_run fns (af := af45) rfl rfl rfl hl h
theorem runs45 {vs : List AV} {h0 : H} (hl : vs.length ≤ 9) {p : AV × H → Prop} (h : GoC fns (fun e => Run (xends [.tmp 2, .tmp 3] e) p) [] k45_3 ⟨fun j => (vs[j]?).getD .undef, fun _ => none, h0⟩) : CW fns 45 vs h0 p :=
  callω_runs fns (af := af45) rfl rfl rfl hl h
theorem run33 {vs : List AV} {h0 : H} (hl : vs.length ≤ 5) {r : AV × H} (h : GoC fns (fun e => xends [.tmp 2] e = some r) [] k33_1 ⟨fun j => (vs[j]?).getD .undef, fun _ => none, h0⟩) : callω fns 33 vs h0 = some r :=
  callω_run fns (af := af33) rfl rfl rfl hl h
theorem runs33 {vs : List AV} {h0 : H} (hl : vs.length ≤ 5) {p : AV × H → Prop} (h : GoC fns (fun e => Run (xends [.tmp 2] e) p) [] k33_1 ⟨fun j => (vs[j]?).getD .undef, fun _ => none, h0⟩) : CW fns 33 vs h0 p :=
  callω_runs fns (af := af33) rfl rfl rfl hl h
theorem run20 {vs : List AV} {h0 : H} (hl : vs.length ≤ 16) {r : AV × H} (h : GoC fns (fun e => xends [.tmp 2, .tmp 3] e = some r) [] k20_2 ⟨fun j => (vs[j]?).getD .undef, fun _ => none, h0⟩) : callω fns 20 vs h0 = some r :=
  callω_run fns (af := af20) rfl rfl rfl hl h
theorem runs20 {vs : List AV} {h0 : H} (hl : vs.length ≤ 16) {p : AV × H → Prop} (h : GoC fns (fun e => Run (xends [.tmp 2, .tmp 3] e) p) [] k20_2 ⟨fun j => (vs[j]?).getD .undef, fun _ => none, h0⟩) : CW fns 20 vs h0 p :=
  callω_runs fns (af := af20) rfl rfl rfl hl h
theorem run46 {vs : List AV} {h0 : H} (hl : vs.length ≤ 11) {r : AV × H} (h : GoC fns (fun e => xends [.tmp 2, .tmp 3] e = some r) [] k46_5 ⟨fun j => (vs[j]?).getD .undef, fun _ => none, h0⟩) : callω fns 46 vs h0 = some r :=
  callω_run fns (af := af46) rfl rfl rfl hl h
theorem runs46 {vs : List AV} {h0 : H} (hl : vs.length ≤ 11) {p : AV × H → Prop} (h : GoC fns (fun e => Run (xends [.tmp 2, .tmp 3] e) p) [] k46_5 ⟨fun j => (vs[j]?).getD .undef, fun _ => none, h0⟩) : CW fns 46 vs h0 p :=
  callω_runs fns (af := af46) rfl rfl rfl hl h
theorem run21 {vs : List AV} {h0 : H} (hl : vs.length ≤ 16) {r : AV × H} (h : GoC fns (fun e => xends [.tmp 2, .tmp 3] e = some r) [] k21_2 ⟨fun j => (vs[j]?).getD .undef, fun _ => none, h0⟩) : callω fns 21 vs h0 = some r :=
  callω_run fns (af := af21) rfl rfl rfl hl h
theorem runs21 {vs : List AV} {h0 : H} (hl : vs.length ≤ 16) {p : AV × H → Prop} (h : GoC fns (fun e => Run (xends [.tmp 2, .tmp 3] e) p) [] k21_2 ⟨fun j => (vs[j]?).getD .undef, fun _ => none, h0⟩) : CW fns 21 vs h0 p :=
  callω_runs fns (af := af21) rfl rfl rfl hl h
theorem run66 {vs : List AV} {h0 : H} (hl : vs.length ≤ 70) {r : AV × H} (h : GoC fns (fun e => xends [.tmp 4, .tmp 5] e = some r) [] k66_34 ⟨fun j => (vs[j]?).getD .undef, fun _ => none, h0⟩) : callω fns 66 vs h0 = some r :=
  callω_run fns (af := af66) rfl rfl rfl hl h
theorem runs66 {vs : List AV} {h0 : H} (hl : vs.length ≤ 70) {p : AV × H → Prop} (h : GoC fns (fun e => Run (xends [.tmp 4, .tmp 5] e) p) [] k66_34 ⟨fun j => (vs[j]?).getD .undef, fun _ => none, h0⟩) : CW fns 66 vs h0 p :=
  callω_runs fns (af := af66) rfl rfl rfl hl h
theorem run47 {vs : List AV} {h0 : H} (hl : vs.length ≤ 24) {r : AV × H} (h : GoC fns (fun e => xends [.cell 2 true 12, .tmp 3] e = some r) [] k47_11 ⟨fun j => (vs[j]?).getD .undef, fun _ => none, h0⟩) : callω fns 47 vs h0 = some r :=
  callω_run fns (af := af47) rfl rfl rfl hl h
theorem runs47 {vs : List AV} {h0 : H} (hl : vs.length ≤ 24) {p : AV × H → Prop} (h : GoC fns (fun e => Run (xends [.cell 2 true 12, .tmp 3] e) p) [] k47_11 ⟨fun j => (vs[j]?).getD .undef, fun _ => none, h0⟩) : CW fns 47 vs h0 p :=
  callω_runs fns (af := af47) rfl rfl rfl hl h
theorem run22 {vs : List AV} {h0 : H} (hl : vs.length ≤ 15) {r : AV × H} (h : GoC fns (fun e => xends [.tmp 2, .tmp 3] e = some r) [] k22_2 ⟨fun j => (vs[j]?).getD .undef, fun _ => none, h0⟩) : callω fns 22 vs h0 = some r :=
  callω_run fns (af := af22) rfl rfl rfl hl h
theorem runs22 {vs : List AV} {h0 : H} (hl : vs.length ≤ 15) {p : AV × H → Prop} (h : GoC fns (fun e => Run (xends [.tmp 2, .tmp 3] e) p) [] k22_2 ⟨fun j => (vs[j]?).getD .undef, fun _ => none, h0⟩) : CW fns 22 vs h0 p :=
  callω_runs fns (af := af22) rfl rfl rfl hl h
theorem run48 {vs : List AV} {h0 : H} (hl : vs.length ≤ 22) {r : AV × H} (h : GoC fns (fun e => xends [.tmp 4] e = some r) [] k48_11 ⟨fun j => (vs[j]?).getD .undef, fun _ => none, h0⟩) : callω fns 48 vs h0 = some r :=
  callω_run fns (af := af48) rfl rfl rfl hl h
theorem runs48 {vs : List AV} {h0 : H} (hl : vs.length ≤ 22) {p : AV × H → Prop} (h : GoC fns (fun e => Run (xends [.tmp 4] e) p) [] k48_11 ⟨fun j => (vs[j]?).getD .undef, fun _ => none, h0⟩) : CW fns 48 vs h0 p :=
  callω_runs fns (af := af48) rfl rfl rfl hl h
theorem run23 {vs : List AV} {h0 : H} (hl : vs.length ≤ 16) {r : AV × H} (h : GoC fns (fun e => xends [.tmp 4, .tmp 5] e = some r) [] k23_3 ⟨fun j => (vs[j]?).getD .undef, fun _ => none, h0⟩) : callω fns 23 vs h0 = some r :=
  callω_run fns (af := af23) rfl rfl rfl hl h
theorem runs23 {vs : List AV} {h0 : H} (hl : vs.length ≤ 16) {p : AV × H → Prop} (h : GoC fns (fun e => Run (xends [.tmp 4, .tmp 5] e) p) [] k23_3 ⟨fun j => (vs[j]?).getD .undef, fun _ => none, h0⟩) : CW fns 23 vs h0 p :=
  callω_runs fns (af := af23) rfl rfl rfl hl h
theorem run24 {vs : List AV} {h0 : H} (hl : vs.length ≤ 31) {r : AV × H} (h : GoC fns (fun e => xends [.tmp 2] e = some r) [] k24_15 ⟨fun j => (vs[j]?).getD .undef, fun _ => none, h0⟩) : callω fns 24 vs h0 = some r :=
  callω_run fns (af := af24) rfl rfl rfl hl h
theorem runs24 {vs : List AV} {h0 : H} (hl : vs.length ≤ 31) {p : AV × H → Prop} (h : GoC fns (fun e => Run (xends [.tmp 2] e) p) [] k24_15 ⟨fun j => (vs[j]?).getD .undef, fun _ => none, h0⟩) : CW fns 24 vs h0 p :=
  callω_runs fns (af := af24) rfl rfl rfl hl h
theorem run25 {vs : List AV} {h0 : H} (hl : vs.length ≤ 15) {r : AV × H} (h : GoC fns (fun e => xends [.tmp 6] e = some r) [] k25_1 ⟨fun j => (vs[j]?).getD .undef, fun _ => none, h0⟩) : callω fns 25 vs h0 = some r :=
  callω_run fns (af := af25) rfl rfl rfl hl h
theorem runs25 {vs : List AV} {h0 : H} (hl : vs.length ≤ 15) {p : AV × H → Prop} (h : GoC fns (fun e => Run (xends [.tmp 6] e) p) [] k25_1 ⟨fun j => (vs[j]?).getD .undef, fun _ => none, h0⟩) : CW fns 25 vs h0 p :=
  callω_runs fns (af := af25) rfl rfl rfl hl h
theorem run49 {vs : List AV} {h0 : H} (hl : vs.length ≤ 6) {r : AV × H} (h : GoC fns (fun e => xends [.tmp 2] e = some r) [] k49_1 ⟨fun j => (vs[j]?).getD .undef, fun _ => none, h0⟩) : callω fns 49 vs h0 = some r :=
  callω_run fns (af := af49) rfl rfl rfl hl h
theorem runs49 {vs : List AV} {h0 : H} (hl : vs.length ≤ 6) {p : AV × H → Prop} (h : GoC fns (fun e => Run (xends [.tmp 2] e) p) [] k49_1 ⟨fun j => (vs[j]?).getD .undef, fun _ => none, h0⟩) : CW fns 49 vs h0 p :=
  callω_runs fns (af := af49) rfl rfl rfl hl h
theorem run26 {vs : List AV} {h0 : H} (hl : vs.length ≤ 6) {r : AV × H} (h : GoC fns (fun e => xends [.tmp 2] e = some r) [] k26_1 ⟨fun j => (vs[j]?).getD .undef, fun _ => none, h0⟩) : callω fns 26 vs h0 = some r :=
  callω_run fns (af := af26) rfl rfl rfl hl h
theorem runs26 {vs : List AV} {h0 : H} (hl : vs.length ≤ 6) {p : AV × H → Prop} (h : GoC fns (fun e => Run (xends [.tmp 2] e) p) [] k26_1 ⟨fun j => (vs[j]?).getD .undef, fun _ => none, h0⟩) : CW fns 26 vs h0 p :=
  callω_runs fns (af := af26) rfl rfl rfl hl h
theorem run7 {vs : List AV} {h0 : H} (hl : vs.length ≤ 80) {r : AV × H} (h : GoC fns (fun e => xends [.tmp 2] e = some r) [] k7_14 ⟨fun j => (vs[j]?).getD .undef, fun _ => none, h0⟩) : callω fns 7 vs h0 = some r :=
  callω_run fns (af := af7) rfl rfl rfl hl h
theorem runs7 {vs : List AV} {h0 : H} (hl : vs.length ≤ 80) {p : AV × H → Prop} (h : GoC fns (fun e => Run (xends [.tmp 2] e) p) [] k7_14 ⟨fun j => (vs[j]?).getD .undef, fun _ => none, h0⟩) : CW fns 7 vs h0 p :=
  callω_runs fns (af := af7) rfl rfl rfl hl h

theorem runv43 {vs : List AV} {h0 : H} (hl : vs.length ≤ 7) {v : AV} (h : GoC fns (fun e => Run (xends [.cell 2 true 12] e) fun q => noHeap h0.n q = some v) [] k43_2 ⟨fun j => (vs[j]?).getD .undef, fun _ => none, h0⟩) : callv fns 43 vs h0 = some v :=
  callω_runv fns (af := af43) rfl rfl rfl hl h
theorem runv65 {vs : List AV} {h0 : H} (hl : vs.length ≤ 33) {v : AV} (h : GoC fns (fun e => Run (xends [.tmp 4] e) fun q => noHeap h0.n q = some v) [] k65_17 ⟨fun j => (vs[j]?).getD .undef, fun _ => none, h0⟩) : callv fns 65 vs h0 = some v :=
  callω_runv fns (af := af65) rfl rfl rfl hl h
theorem runv44 {vs : List AV} {h0 : H} (hl : vs.length ≤ 9) {v : AV} (h : GoC fns (fun e => Run (xends [.tmp 2] e) fun q => noHeap h0.n q = some v) [] k44_3 ⟨fun j => (vs[j]?).getD .undef, fun _ => none, h0⟩) : callv fns 44 vs h0 = some v :=
  callω_runv fns (af := af44) rfl rfl rfl hl h
theorem runv19 {vs : List AV} {h0 : H} (hl : vs.length ≤ 6) {v : AV} (h : GoC fns (fun e => Run (xends [.tmp 2] e) fun q => noHeap h0.n q = some v) [] k19_1 ⟨fun j => (vs[j]?).getD .undef, fun _ => none, h0⟩) : callv fns 19 vs h0 = some v :=
  callω_runv fns (af := af19) rfl rfl rfl hl h
theorem runv45 {vs : List AV} {h0 : H} (hl : vs.length ≤ 9) {v : AV} (h : GoC fns (fun e => Run (xends [.tmp 2, .tmp 3] e) fun q => noHeap h0.n q = some v) [] k45_3 ⟨fun j => (vs[j]?).getD .undef, fun _ => none, h0⟩) : callv fns 45 vs h0 = some v :=
  callω_runv fns (af := af45) rfl rfl rfl hl h
theorem runv33 {vs : List AV} {h0 : H} (hl : vs.length ≤ 5) {v : AV} (h : GoC fns (fun e => Run (xends [.tmp 2] e) fun q => noHeap h0.n q = some v) [] k33_1 ⟨fun j => (vs[j]?).getD .undef, fun _ => none, h0⟩) : callv fns 33 vs h0 = some v :=
  callω_runv fns (af := af33) rfl rfl rfl hl h
theorem runv20 {vs : List AV} {h0 : H} (hl : vs.length ≤ 16) {v : AV} (h : GoC fns (fun e => Run (xends [.tmp 2, .tmp 3] e) fun q => noHeap h0.n q = some v) [] k20_2 ⟨fun j => (vs[j]?).getD .undef, fun _ => none, h0⟩) : callv fns 20 vs h0 = some v :=
  callω_runv fns (af := af20) rfl rfl rfl hl h
theorem runv46 {vs : List AV} {h0 : H} (hl : vs.length ≤ 11) {v : AV} (h : GoC fns (fun e => Run (xends [.tmp 2, .tmp 3] e) fun q => noHeap h0.n q = some v) [] k46_5 ⟨fun j => (vs[j]?).getD .undef, fun _ => none, h0⟩) : callv fns 46 vs h0 = some v :=
  callω_runv fns (af := af46) rfl rfl rfl hl h
theorem runv21 {vs : List AV} {h0 : H} (hl : vs.length ≤ 16) {v : AV} (h : GoC fns (fun e => Run (xends [.tmp 2, .tmp 3] e) fun q => noHeap h0.n q = some v) [] k21_2 ⟨fun j => (vs[j]?).getD .undef, fun _ => none, h0⟩) : callv fns 21 vs h0 = some v :=
  callω_runv fns (af := af21) rfl rfl rfl hl h
theorem runv66 {vs : List AV} {h0 : H} (hl : vs.length ≤ 70) {v : AV} (h : GoC fns (fun e => Run (xends [.tmp 4, .tmp 5] e) fun q => noHeap h0.n q = some v) [] k66_34 ⟨fun j => (vs[j]?).getD .undef, fun _ => none, h0⟩) : callv fns 66 vs h0 = some v :=
  callω_runv fns (af := af66) rfl rfl rfl hl h
theorem runv47 {vs : List AV} {h0 : H} (hl : vs.length ≤ 24) {v : AV} (h : GoC fns (fun e => Run (xends [.cell 2 true 12, .tmp 3] e) fun q => noHeap h0.n q = some v) [] k47_11 ⟨fun j => (vs[j]?).getD .undef, fun _ => none, h0⟩) : callv fns 47 vs h0 = some v :=
  callω_runv fns (af := af47) rfl rfl rfl hl h
theorem runv22 {vs : List AV} {h0 : H} (hl : vs.length ≤ 15) {v : AV} (h : GoC fns (fun e => Run (xends [.tmp 2, .tmp 3] e) fun q => noHeap h0.n q = some v) [] k22_2 ⟨fun j => (vs[j]?).getD .undef, fun _ => none, h0⟩) : callv fns 22 vs h0 = some v :=
  callω_runv fns (af := af22) rfl rfl rfl hl h
theorem runv48 {vs : List AV} {h0 : H} (hl : vs.length ≤ 22) {v : AV} (h : GoC fns (fun e => Run (xends [.tmp 4] e) fun q => noHeap h0.n q = some v) [] k48_11 ⟨fun j => (vs[j]?).getD .undef, fun _ => none, h0⟩) : callv fns 48 vs h0 = some v :=
  callω_runv fns (af := af48) rfl rfl rfl hl h
theorem runv23 {vs : List AV} {h0 : H} (hl : vs.length ≤ 16) {v : AV} (h : GoC fns (fun e => Run (xends [.tmp 4, .tmp 5] e) fun q => noHeap h0.n q = some v) [] k23_3 ⟨fun j => (vs[j]?).getD .undef, fun _ => none, h0⟩) : callv fns 23 vs h0 = some v :=
  callω_runv fns (af := af23) rfl rfl rfl hl h
theorem runv24 {vs : List AV} {h0 : H} (hl : vs.length ≤ 31) {v : AV} (h : GoC fns (fun e => Run (xends [.tmp 2] e) fun q => noHeap h0.n q = some v) [] k24_15 ⟨fun j => (vs[j]?).getD .undef, fun _ => none, h0⟩) : callv fns 24 vs h0 = some v :=
  callω_runv fns (af := af24) rfl rfl rfl hl h
theorem runv25 {vs : List AV} {h0 : H} (hl : vs.length ≤ 15) {v : AV} (h : GoC fns (fun e => Run (xends [.tmp 6] e) fun q => noHeap h0.n q = some v) [] k25_1 ⟨fun j => (vs[j]?).getD .undef, fun _ => none, h0⟩) : callv fns 25 vs h0 = some v :=
  callω_runv fns (af := af25) rfl rfl rfl hl h
theorem runv49 {vs : List AV} {h0 : H} (hl : vs.length ≤ 6) {v : AV} (h : GoC fns (fun e => Run (xends [.tmp 2] e) fun q => noHeap h0.n q = some v) [] k49_1 ⟨fun j => (vs[j]?).getD .undef, fun _ => none, h0⟩) : callv fns 49 vs h0 = some v :=
  callω_runv fns (af := af49) rfl rfl rfl hl h
theorem runv26 {vs : List AV} {h0 : H} (hl : vs.length ≤ 6) {v : AV} (h : GoC fns (fun e => Run (xends [.tmp 2] e) fun q => noHeap h0.n q = some v) [] k26_1 ⟨fun j => (vs[j]?).getD .undef, fun _ => none, h0⟩) : callv fns 26 vs h0 = some v :=
  callω_runv fns (af := af26) rfl rfl rfl hl h
theorem runv7 {vs : List AV} {h0 : H} (hl : vs.length ≤ 80) {v : AV} (h : GoC fns (fun e => Run (xends [.tmp 2] e) fun q => noHeap h0.n q = some v) [] k7_14 ⟨fun j => (vs[j]?).getD .undef, fun _ => none, h0⟩) : callv fns 7 vs h0 = some v :=
  callω_runv fns (af := af7) rfl rfl rfl hl h
theorem fnsOk : FnsOk Tryd.prog sg fns := by
  intro f af h
  unfold fns at h
  split at h <;> first
    | (injection h with h; subst h; exact ⟨Tryd.f43, Tryd.func43, by kernel_rfl, ok43⟩)
    | (injection h with h; subst h; exact ⟨Tryd.f65, Tryd.func65, by kernel_rfl, ok65⟩)
    | (injection h with h; subst h; exact ⟨Tryd.f44, Tryd.func44, by kernel_rfl, ok44⟩)
    | (injection h with h; subst h; exact ⟨Tryd.f19, Tryd.func19, by kernel_rfl, ok19⟩)
    | (injection h with h; subst h; exact ⟨Tryd.f45, Tryd.func45, by kernel_rfl, ok45⟩)
    | (injection h with h; subst h; exact ⟨Tryd.f33, Tryd.func33, by kernel_rfl, ok33⟩)
    | (injection h with h; subst h; exact ⟨Tryd.f20, Tryd.func20, by kernel_rfl, ok20⟩)
    | (injection h with h; subst h; exact ⟨Tryd.f46, Tryd.func46, by kernel_rfl, ok46⟩)
    | (injection h with h; subst h; exact ⟨Tryd.f21, Tryd.func21, by kernel_rfl, ok21⟩)
    | (injection h with h; subst h; exact ⟨Tryd.f66, Tryd.func66, by kernel_rfl, ok66⟩)
    | (injection h with h; subst h; exact ⟨Tryd.f47, Tryd.func47, by kernel_rfl, ok47⟩)
    | (injection h with h; subst h; exact ⟨Tryd.f22, Tryd.func22, by kernel_rfl, ok22⟩)
    | (injection h with h; subst h; exact ⟨Tryd.f48, Tryd.func48, by kernel_rfl, ok48⟩)
    | (injection h with h; subst h; exact ⟨Tryd.f23, Tryd.func23, by kernel_rfl, ok23⟩)
    | (injection h with h; subst h; exact ⟨Tryd.f24, Tryd.func24, by kernel_rfl, ok24⟩)
    | (injection h with h; subst h; exact ⟨Tryd.f25, Tryd.func25, by kernel_rfl, ok25⟩)
    | (injection h with h; subst h; exact ⟨Tryd.f49, Tryd.func49, by kernel_rfl, ok49⟩)
    | (injection h with h; subst h; exact ⟨Tryd.f26, Tryd.func26, by kernel_rfl, ok26⟩)
    | (injection h with h; subst h; exact ⟨Tryd.f7, Tryd.func7, by kernel_rfl, ok7⟩)
    | cases h
end Go.Proofs.YtcipaobalemdoaaDoor.Abs
