/- The functions that the law reaches, made ready for the interpreter (printed by a program of this session; the kernel compares each with the given program). -/
import Derived.Test.YtdnfnobgeddbfaaGreatDoorA27
import Derived.Test.YtdnfnobgeddbfaaGreatDoorIsXYtdnfnobgeddbfaaGreatDoor
import Derived.Test.YtdnfnobgeddbfaaGreatDoorProg
import Derived.KernelRfl
namespace Go.Proofs.YtdnfnobgeddbfaaGreatDoor.Abs
set_option linter.all false
set_option maxRecDepth 100000
open Go.Proofs
def sg : FuncId → Nat → Nat := fun f i =>
  0
section
variable {fns : FuncId → Option AFunc} {Q : Ex × St → Prop} {s : List Fr} {c : ACode} {st : St}
def q4_0 : List AOper :=
  [⟨.bin .add 1 true (.p 10) (.c (.int .i64 1)), (some 17), none⟩,
    ⟨.move .look (.p 17), (some 10), none⟩]
@[simp] def eq4_0 := id q4_0.eq_1
def q4_1 : List AOper :=
  [⟨.move .head (.p 4), (some 14), none⟩,
    ⟨.len true (.p 14), (some 15), none⟩,
    ⟨.bin .gtr 1 true (.p 15) (.c (.int .i64 2147483647)), (some 16), none⟩]
@[simp] def eq4_1 := id q4_1.eq_1
def q4_2 : List AOper :=
  [⟨.indexAddr 1 (.t 8) (.p 10), (some 12), none⟩,
    ⟨.load .take false 1 (.p 12), (some 13), none⟩,
    ⟨.assign (.p 13), (some 4), none⟩]
@[simp] def eq4_2 := id q4_2.eq_1
def q4_3 : List AOper :=
  [⟨.move .look (.t 0), (some 8), none⟩,
    ⟨.len false (.p 8), (some 9), none⟩,
    ⟨.move .head (.c (.int .i64 0)), (some 10), none⟩]
@[simp] def eq4_3 := id q4_3.eq_1
def q4_4 : List AOper :=
  [⟨.move .head (.t 0), (some 5), none⟩,
    ⟨.len false (.p 5), (some 6), none⟩,
    ⟨.bin .gtr 1 true (.p 6) (.c (.int .i64 2147483647)), (some 7), none⟩]
@[simp] def eq4_4 := id q4_4.eq_1
def k4_0 : ACode :=
  .ops [⟨.assign (.c (.bool true)), (some 2), none⟩] .ret
@[simp] theorem xk4_0 : GoC fns Q s k4_0 st ↔ GoO fns Q s [⟨.assign (.c (.bool true)), (some 2), none⟩] .ret st := goC_ops
def k4_1 : ACode :=
  .ops q4_0 .skip
@[simp] theorem xk4_1 : GoC fns Q s k4_1 st ↔ GoO fns Q s q4_0 .skip st := goC_ops
def k4_2 : ACode :=
  .ops [⟨.assign (.c (.bool false)), (some 2), none⟩] .ret
@[simp] theorem xk4_2 : GoC fns Q s k4_2 st ↔ GoO fns Q s [⟨.assign (.c (.bool false)), (some 2), none⟩] .ret st := goC_ops
def k4_3 : ACode :=
  .cond (.p 16) k4_2 .skip
@[simp] theorem xk4_3 : GoC fns Q s k4_3 st ↔ GB fns Q s (peek st (.p 16)) k4_2 .skip st := goC_cond
def k4_4 : ACode :=
  .ops q4_1 k4_3
@[simp] theorem xk4_4 : GoC fns Q s k4_4 st ↔ GoO fns Q s q4_1 k4_3 st := goC_ops
def k4_5 : ACode :=
  .ops q4_2 k4_4
@[simp] theorem xk4_5 : GoC fns Q s k4_5 st ↔ GoO fns Q s q4_2 k4_4 st := goC_ops
def k4_6 : ACode :=
  .block 1 k4_5
@[simp] theorem xk4_6 : GoC fns Q s k4_6 st ↔ GoC fns Q (.bl 1 :: s) k4_5 st := goC_block
def k4_7 : ACode :=
  .seq k4_6 k4_1
@[simp] theorem xk4_7 : GoC fns Q s k4_7 st ↔ GoC fns Q (.sq k4_1 :: s) k4_6 st := goC_seq
def k4_8 : ACode :=
  .cond (.p 11) .skip (.exit 0)
@[simp] theorem xk4_8 : GoC fns Q s k4_8 st ↔ GB fns Q s (peek st (.p 11)) .skip (.exit 0) st := goC_cond
def k4_9 : ACode :=
  .seq k4_8 k4_7
@[simp] theorem xk4_9 : GoC fns Q s k4_9 st ↔ GoC fns Q (.sq k4_7 :: s) k4_8 st := goC_seq
def k4_10 : ACode :=
  .ops [⟨.bin .lss 1 false (.p 10) (.p 9), (some 11), none⟩] k4_9
@[simp] theorem xk4_10 : GoC fns Q s k4_10 st ↔ GoO fns Q s [⟨.bin .lss 1 false (.p 10) (.p 9), (some 11), none⟩] k4_9 st := goC_ops
def lc4_0 : ACode :=
  k4_10
@[simp] theorem xlc4_0 : GoC fns Q s lc4_0 st ↔ GoC fns Q s k4_10 st := Iff.rfl
def k4_12 : ACode :=
  .loop lc4_0
@[simp] theorem xk4_12 : GoC fns Q s k4_12 st ↔ (LoopR fns lc4_0 st fun r => GoE fns Q s r.1 r.2) := goC_loop
def k4_13 : ACode :=
  .block 0 k4_12
@[simp] theorem xk4_13 : GoC fns Q s k4_13 st ↔ GoC fns Q (.bl 0 :: s) k4_12 st := goC_block
def k4_14 : ACode :=
  .seq k4_13 k4_0
@[simp] theorem xk4_14 : GoC fns Q s k4_14 st ↔ GoC fns Q (.sq k4_0 :: s) k4_13 st := goC_seq
def k4_15 : ACode :=
  .ops q4_3 k4_14
@[simp] theorem xk4_15 : GoC fns Q s k4_15 st ↔ GoO fns Q s q4_3 k4_14 st := goC_ops
def k4_16 : ACode :=
  .ops [⟨.assign (.c (.bool false)), (some 2), none⟩] .ret
@[simp] theorem xk4_16 : GoC fns Q s k4_16 st ↔ GoO fns Q s [⟨.assign (.c (.bool false)), (some 2), none⟩] .ret st := goC_ops
def k4_17 : ACode :=
  .cond (.p 7) k4_16 .skip
@[simp] theorem xk4_17 : GoC fns Q s k4_17 st ↔ GB fns Q s (peek st (.p 7)) k4_16 .skip st := goC_cond
def k4_18 : ACode :=
  .seq k4_17 k4_15
@[simp] theorem xk4_18 : GoC fns Q s k4_18 st ↔ GoC fns Q (.sq k4_15 :: s) k4_17 st := goC_seq
def k4_19 : ACode :=
  .ops q4_4 k4_18
@[simp] theorem xk4_19 : GoC fns Q s k4_19 st ↔ GoO fns Q s q4_4 k4_18 st := goC_ops
def k4_20 : ACode :=
  .ops [⟨.assign (.c (.bool false)), (some 2), none⟩] k4_19
@[simp] theorem xk4_20 : GoC fns Q s k4_20 st ↔ GoO fns Q s [⟨.assign (.c (.bool false)), (some 2), none⟩] k4_19 st := goC_ops
def af4 : AFunc := ⟨18, k4_20, [.tmp 2], fun _ _ => none⟩

theorem ok4 : ∃ hs, pFunc Tryz.prog sg hs Tryz.f4 = some af4 := ⟨fun i => if i == 8 then 5 else 0, by kernel_rfl⟩
def q57_0 : List AOper :=
  [⟨.move .take (.p 5), (some 35), none⟩,
    ⟨.move .look (.t 0), (some 36), none⟩,
    ⟨.sliceSl 1 (.t 36) (some (.c (.int .i64 4))) none, (some 37), none⟩,
    ⟨.assign (.p 35), (some 2), none⟩,
    ⟨.assign (.t 37), (some 3), none⟩,
    ⟨.assign (.c (.bool true)), (some 4), none⟩]
@[simp] def eq57_0 := id q57_0.eq_1
def q57_1 : List AOper :=
  [⟨.move .look (.t 0), (some 13), none⟩,
    ⟨.indexAddr 1 (.t 13) (.c (.int .i64 0)), (some 14), none⟩,
    ⟨.load .look false 1 (.p 14), (some 15), none⟩,
    ⟨.convInt .i32 (.p 15), (some 16), none⟩,
    ⟨.move .look (.t 0), (some 17), none⟩,
    ⟨.indexAddr 1 (.t 17) (.c (.int .i64 1)), (some 18), none⟩,
    ⟨.load .look false 1 (.p 18), (some 19), none⟩,
    ⟨.convInt .i32 (.p 19), (some 20), none⟩,
    ⟨.bin .shl 1 true (.p 20) (.c (.int .u64 8)), (some 21), none⟩,
    ⟨.bin .or 1 false (.p 16) (.p 21), (some 22), none⟩,
    ⟨.move .look (.t 0), (some 23), none⟩,
    ⟨.indexAddr 1 (.t 23) (.c (.int .i64 2)), (some 24), none⟩,
    ⟨.load .look false 1 (.p 24), (some 25), none⟩,
    ⟨.convInt .i32 (.p 25), (some 26), none⟩,
    ⟨.bin .shl 1 true (.p 26) (.c (.int .u64 16)), (some 27), none⟩,
    ⟨.bin .or 1 false (.p 22) (.p 27), (some 28), none⟩,
    ⟨.move .look (.t 0), (some 29), none⟩,
    ⟨.indexAddr 1 (.t 29) (.c (.int .i64 3)), (some 30), none⟩,
    ⟨.load .look false 1 (.p 30), (some 31), none⟩,
    ⟨.convInt .i32 (.p 31), (some 32), none⟩,
    ⟨.bin .shl 1 true (.p 32) (.c (.int .u64 24)), (some 33), none⟩,
    ⟨.bin .or 1 false (.p 28) (.p 33), (some 34), none⟩,
    ⟨.assign (.p 34), (some 5), none⟩]
@[simp] def eq57_1 := id q57_1.eq_1
def q57_2 : List AOper :=
  [⟨.move .look (.t 0), (some 10), none⟩,
    ⟨.indexAddr 1 (.t 10) (.c (.int .i64 3)), (some 11), none⟩,
    ⟨.load .head false 1 (.p 11), (some 12), none⟩]
@[simp] def eq57_2 := id q57_2.eq_1
def q57_3 : List AOper :=
  [⟨.move .take (.t 0), (some 9), none⟩,
    ⟨.assign (.c (.int .i32 0)), (some 2), none⟩,
    ⟨.assign (.t 9), (some 3), none⟩,
    ⟨.assign (.c (.bool false)), (some 4), none⟩]
@[simp] def eq57_3 := id q57_3.eq_1
def q57_4 : List AOper :=
  [⟨.move .head (.t 0), (some 6), none⟩,
    ⟨.len false (.p 6), (some 7), none⟩,
    ⟨.bin .lss 1 true (.p 7) (.c (.int .i64 4)), (some 8), none⟩]
@[simp] def eq57_4 := id q57_4.eq_1
def q57_5 : List AOper :=
  [⟨.assign (.c (.int .i32 0)), (some 2), none⟩,
    ⟨.assign (.c (.slice .nil 0 1 [])), (some 3), none⟩,
    ⟨.assign (.c (.bool false)), (some 4), none⟩]
@[simp] def eq57_5 := id q57_5.eq_1
def k57_0 : ACode :=
  .ops q57_0 .ret
@[simp] theorem xk57_0 : GoC fns Q s k57_0 st ↔ GoO fns Q s q57_0 .ret st := goC_ops
def k57_1 : ACode :=
  .ops q57_1 k57_0
@[simp] theorem xk57_1 : GoC fns Q s k57_1 st ↔ GoO fns Q s q57_1 k57_0 st := goC_ops
def k57_2 : ACode :=
  .ops q57_2 k57_1
@[simp] theorem xk57_2 : GoC fns Q s k57_2 st ↔ GoO fns Q s q57_2 k57_1 st := goC_ops
def k57_3 : ACode :=
  .ops q57_3 .ret
@[simp] theorem xk57_3 : GoC fns Q s k57_3 st ↔ GoO fns Q s q57_3 .ret st := goC_ops
def k57_4 : ACode :=
  .cond (.p 8) k57_3 .skip
@[simp] theorem xk57_4 : GoC fns Q s k57_4 st ↔ GB fns Q s (peek st (.p 8)) k57_3 .skip st := goC_cond
def k57_5 : ACode :=
  .seq k57_4 k57_2
@[simp] theorem xk57_5 : GoC fns Q s k57_5 st ↔ GoC fns Q (.sq k57_2 :: s) k57_4 st := goC_seq
def k57_6 : ACode :=
  .ops q57_4 k57_5
@[simp] theorem xk57_6 : GoC fns Q s k57_6 st ↔ GoO fns Q s q57_4 k57_5 st := goC_ops
def k57_7 : ACode :=
  .ops q57_5 k57_6
@[simp] theorem xk57_7 : GoC fns Q s k57_7 st ↔ GoO fns Q s q57_5 k57_6 st := goC_ops
def af57 : AFunc := ⟨38, k57_7, [.tmp 2, .tmp 3, .tmp 4], fun _ _ => none⟩

theorem ok57 : ∃ hs, pFunc Tryz.prog sg hs Tryz.f57 = some af57 := ⟨fun i => 0, by kernel_rfl⟩
def q38_0 : List AOper :=
  [⟨.move .take (.p 5), (some 17), none⟩,
    ⟨.move .take (.t 0), (some 18), none⟩,
    ⟨.move .take (.p 6), (some 19), none⟩,
    ⟨.assign (.p 17), (some 2), none⟩,
    ⟨.assign (.t 18), (some 3), none⟩,
    ⟨.assign (.p 19), (some 4), none⟩]
@[simp] def eq38_0 := id q38_0.eq_1
def q38_1 : List AOper :=
  [⟨.move .take (.p 5), (some 15), none⟩,
    ⟨.move .take (.t 0), (some 16), none⟩,
    ⟨.assign (.p 15), (some 2), none⟩,
    ⟨.assign (.t 16), (some 3), none⟩,
    ⟨.assign (.c (.bool false)), (some 4), none⟩]
@[simp] def eq38_1 := id q38_1.eq_1
def q38_2 : List AOper :=
  [⟨.move .look (.p 5), (some 13), none⟩,
    ⟨.bin .lss 1 true (.p 13) (.c (.int .i32 0)), (some 14), none⟩]
@[simp] def eq38_2 := id q38_2.eq_1
def q38_3 : List AOper :=
  [⟨.move .look (.t 0), (some 8), none⟩,
    ⟨.call 57 [(.t 8, false)], (some 9), none⟩,
    ⟨.move .look (.t 9), (some 7), none⟩,
    ⟨.extract 7 0, (some 10), none⟩,
    ⟨.extract 7 1, (some 11), none⟩,
    ⟨.extract 7 2, (some 12), none⟩,
    ⟨.assign (.p 10), (some 5), none⟩,
    ⟨.assign (.t 11), (some 0), none⟩,
    ⟨.assign (.p 12), (some 6), none⟩]
@[simp] def eq38_3 := id q38_3.eq_1
def q38_4 : List AOper :=
  [⟨.assign (.c (.int .i32 0)), (some 2), none⟩,
    ⟨.assign (.c (.slice .nil 0 1 [])), (some 3), none⟩,
    ⟨.assign (.c (.bool false)), (some 4), none⟩]
@[simp] def eq38_4 := id q38_4.eq_1
def k38_0 : ACode :=
  .ops q38_0 .ret
@[simp] theorem xk38_0 : GoC fns Q s k38_0 st ↔ GoO fns Q s q38_0 .ret st := goC_ops
def k38_1 : ACode :=
  .ops q38_1 .ret
@[simp] theorem xk38_1 : GoC fns Q s k38_1 st ↔ GoO fns Q s q38_1 .ret st := goC_ops
def k38_2 : ACode :=
  .cond (.p 14) k38_1 .skip
@[simp] theorem xk38_2 : GoC fns Q s k38_2 st ↔ GB fns Q s (peek st (.p 14)) k38_1 .skip st := goC_cond
def k38_3 : ACode :=
  .seq k38_2 k38_0
@[simp] theorem xk38_3 : GoC fns Q s k38_3 st ↔ GoC fns Q (.sq k38_0 :: s) k38_2 st := goC_seq
def k38_4 : ACode :=
  .ops q38_2 k38_3
@[simp] theorem xk38_4 : GoC fns Q s k38_4 st ↔ GoO fns Q s q38_2 k38_3 st := goC_ops
def k38_5 : ACode :=
  .ops q38_3 k38_4
@[simp] theorem xk38_5 : GoC fns Q s k38_5 st ↔ GoO fns Q s q38_3 k38_4 st := goC_ops
def k38_6 : ACode :=
  .ops q38_4 k38_5
@[simp] theorem xk38_6 : GoC fns Q s k38_6 st ↔ GoO fns Q s q38_4 k38_5 st := goC_ops
def af38 : AFunc := ⟨20, k38_6, [.tmp 2, .tmp 3, .tmp 4], fun _ _ => none⟩

theorem ok38 : ∃ hs, pFunc Tryz.prog sg hs Tryz.f38 = some af38 := ⟨fun i => 0, by kernel_rfl⟩
def q39_0 : List AOper :=
  [⟨.move .look (.t 0), (some 5), none⟩,
    ⟨.move .look (.t 1), (some 6), none⟩,
    ⟨.build [.slice .nil 0 1 [], .slice .nil 0 1 []] [(0, 1, .t 5), (1, 1, .t 6)], (some 7), none⟩,
    ⟨.store 2 (.p 4) (.p 7), none, none⟩]
@[simp] def eq39_0 := id q39_0.eq_1
def k39_0 : ACode :=
  .ops q39_0 .ret
@[simp] theorem xk39_0 : GoC fns Q s k39_0 st ↔ GoO fns Q s q39_0 .ret st := goC_ops
def k39_1 : ACode :=
  .ops [⟨.newbox 4 [.slice .nil 0 1 [], .slice .nil 0 1 []], (some 4), none⟩] k39_0
@[simp] theorem xk39_1 : GoC fns Q s k39_1 st ↔ GoO fns Q s [⟨.newbox 4 [.slice .nil 0 1 [], .slice .nil 0 1 []], (some 4), none⟩] k39_0 st := goC_ops
def af39 : AFunc := ⟨8, k39_1, [.cell 4 true 2], fun _ _ => none⟩

theorem ok39 : ∃ hs, pFunc Tryz.prog sg hs Tryz.f39 = some af39 := ⟨fun i => 0, by kernel_rfl⟩
def q59_0 : List AOper :=
  [⟨.move .look (.t 0), (some 5), none⟩,
    ⟨.move .look (.p 1), (some 6), none⟩,
    ⟨.px .idxB [.p 5, .p 6], (some 7), none⟩,
    ⟨.assign (.p 7), (some 4), none⟩]
@[simp] def eq59_0 := id q59_0.eq_1
def k59_0 : ACode :=
  .ops q59_0 .ret
@[simp] theorem xk59_0 : GoC fns Q s k59_0 st ↔ GoO fns Q s q59_0 .ret st := goC_ops
def k59_1 : ACode :=
  .ops [⟨.assign (.c (.int .i64 0)), (some 4), none⟩] k59_0
@[simp] theorem xk59_1 : GoC fns Q s k59_1 st ↔ GoO fns Q s [⟨.assign (.c (.int .i64 0)), (some 4), none⟩] k59_0 st := goC_ops
def af59 : AFunc := ⟨8, k59_1, [.tmp 4], fun _ _ => none⟩

theorem ok59 : ∃ hs, pFunc Tryz.prog sg hs Tryz.f59 = some af59 := ⟨fun i => 0, by kernel_rfl⟩
def q58_0 : List AOper :=
  [⟨.move .take (.p 6), (some 92), none⟩,
    ⟨.move .take (.p 7), (some 93), none⟩,
    ⟨.assign (.p 92), (some 4), none⟩,
    ⟨.assign (.p 93), (some 5), none⟩]
@[simp] def eq58_0 := id q58_0.eq_1
def q58_1 : List AOper :=
  [⟨.move .look (.p 6), (some 90), none⟩,
    ⟨.bin .lss 1 true (.p 90) (.c (.int .i32 0)), (some 91), none⟩]
@[simp] def eq58_1 := id q58_1.eq_1
def q58_2 : List AOper :=
  [⟨.move .look (.t 0), (some 16), none⟩,
    ⟨.call 38 [(.t 16, false)], (some 17), none⟩,
    ⟨.move .look (.t 17), (some 15), none⟩,
    ⟨.extract 15 0, (some 18), none⟩,
    ⟨.extract 15 1, (some 19), none⟩,
    ⟨.extract 15 2, (some 20), none⟩,
    ⟨.assign (.p 18), (some 6), none⟩,
    ⟨.assign (.p 20), (some 7), none⟩]
@[simp] def eq58_2 := id q58_2.eq_1
def q58_3 : List AOper :=
  [⟨.move .look (.p 6), (some 29), none⟩,
    ⟨.bin .add 1 true (.p 29) (.c (.int .i32 5)), (some 30), none⟩,
    ⟨.assign (.p 30), (some 6), none⟩]
@[simp] def eq58_3 := id q58_3.eq_1
def q58_4 : List AOper :=
  [⟨.move .look (.t 0), (some 24), none⟩,
    ⟨.call 38 [(.t 24, false)], (some 25), none⟩,
    ⟨.move .look (.t 25), (some 23), none⟩,
    ⟨.extract 23 0, (some 26), none⟩,
    ⟨.extract 23 1, (some 27), none⟩,
    ⟨.extract 23 2, (some 28), none⟩,
    ⟨.assign (.p 26), (some 6), none⟩,
    ⟨.assign (.p 28), (some 7), none⟩]
@[simp] def eq58_4 := id q58_4.eq_1
def q58_5 : List AOper :=
  [⟨.move .look (.p 6), (some 41), none⟩,
    ⟨.bin .add 1 true (.p 41) (.c (.int .i32 16)), (some 42), none⟩,
    ⟨.assign (.p 42), (some 6), none⟩]
@[simp] def eq58_5 := id q58_5.eq_1
def q58_6 : List AOper :=
  [⟨.move .look (.t 0), (some 36), none⟩,
    ⟨.call 38 [(.t 36, false)], (some 37), none⟩,
    ⟨.move .look (.t 37), (some 35), none⟩,
    ⟨.extract 35 0, (some 38), none⟩,
    ⟨.extract 35 1, (some 39), none⟩,
    ⟨.extract 35 2, (some 40), none⟩,
    ⟨.assign (.p 38), (some 6), none⟩,
    ⟨.assign (.p 40), (some 7), none⟩]
@[simp] def eq58_6 := id q58_6.eq_1
def q58_7 : List AOper :=
  [⟨.move .look (.p 6), (some 62), none⟩,
    ⟨.bin .add 1 true (.p 62) (.c (.int .i32 4)), (some 63), none⟩,
    ⟨.assign (.p 63), (some 6), none⟩]
@[simp] def eq58_7 := id q58_7.eq_1
def q58_8 : List AOper :=
  [⟨.move .look (.t 0), (some 57), none⟩,
    ⟨.call 38 [(.t 57, false)], (some 58), none⟩,
    ⟨.move .look (.t 58), (some 56), none⟩,
    ⟨.extract 56 0, (some 59), none⟩,
    ⟨.extract 56 1, (some 60), none⟩,
    ⟨.extract 56 2, (some 61), none⟩,
    ⟨.assign (.p 59), (some 6), none⟩,
    ⟨.assign (.p 61), (some 7), none⟩]
@[simp] def eq58_8 := id q58_8.eq_1
def q58_9 : List AOper :=
  [⟨.move .look (.p 8), (some 84), none⟩,
    ⟨.bin .add 1 true (.p 84) (.c (.int .i64 1)), (some 85), none⟩,
    ⟨.move .look (.p 9), (some 86), none⟩,
    ⟨.bin .add 1 false (.p 85) (.p 86), (some 87), none⟩,
    ⟨.bin .add 1 true (.p 87) (.c (.int .i64 1)), (some 88), none⟩,
    ⟨.convInt .i32 (.p 88), (some 89), none⟩,
    ⟨.assign (.p 89), (some 6), none⟩]
@[simp] def eq58_9 := id q58_9.eq_1
def q58_10 : List AOper :=
  [⟨.move .look (.p 9), (some 82), none⟩,
    ⟨.bin .lss 1 true (.p 82) (.c (.int .i64 0)), (some 83), none⟩]
@[simp] def eq58_10 := id q58_10.eq_1
def q58_11 : List AOper :=
  [⟨.move .look (.t 0), (some 77), none⟩,
    ⟨.move .look (.p 8), (some 78), none⟩,
    ⟨.bin .add 1 true (.p 78) (.c (.int .i64 1)), (some 79), none⟩,
    ⟨.sliceSl 1 (.t 77) (some (.p 79)) none, (some 80), none⟩,
    ⟨.call 59 [(.t 80, false), (.c (.int .u8 0), false)], (some 81), none⟩,
    ⟨.assign (.p 81), (some 9), none⟩]
@[simp] def eq58_11 := id q58_11.eq_1
def q58_12 : List AOper :=
  [⟨.move .look (.p 8), (some 75), none⟩,
    ⟨.bin .lss 1 true (.p 75) (.c (.int .i64 0)), (some 76), none⟩]
@[simp] def eq58_12 := id q58_12.eq_1
def q58_13 : List AOper :=
  [⟨.move .look (.t 0), (some 73), none⟩,
    ⟨.call 59 [(.t 73, false), (.c (.int .u8 0), false)], (some 74), none⟩,
    ⟨.assign (.p 74), (some 8), none⟩]
@[simp] def eq58_13 := id q58_13.eq_1
def q58_14 : List AOper :=
  [⟨.bin .eql 1 true (.p 10) (.c (.int .u8 11)), (some 72), none⟩,
    ⟨.assign (.p 72), (some 71), none⟩]
@[simp] def eq58_14 := id q58_14.eq_1
def q58_15 : List AOper :=
  [⟨.bin .eql 1 true (.p 10) (.c (.int .u8 7)), (some 70), none⟩,
    ⟨.assign (.p 70), (some 69), none⟩]
@[simp] def eq58_15 := id q58_15.eq_1
def q58_16 : List AOper :=
  [⟨.bin .eql 1 true (.p 10) (.c (.int .u8 6)), (some 68), none⟩,
    ⟨.assign (.p 68), (some 64), none⟩]
@[simp] def eq58_16 := id q58_16.eq_1
def q58_17 : List AOper :=
  [⟨.bin .eql 1 true (.p 10) (.c (.int .u8 10)), (some 67), none⟩,
    ⟨.assign (.p 67), (some 64), none⟩]
@[simp] def eq58_17 := id q58_17.eq_1
def q58_18 : List AOper :=
  [⟨.bin .eql 1 true (.p 10) (.c (.int .u8 255)), (some 66), none⟩,
    ⟨.assign (.p 66), (some 64), none⟩]
@[simp] def eq58_18 := id q58_18.eq_1
def q58_19 : List AOper :=
  [⟨.bin .eql 1 true (.p 10) (.c (.int .u8 127)), (some 65), none⟩,
    ⟨.assign (.p 65), (some 64), none⟩]
@[simp] def eq58_19 := id q58_19.eq_1
def q58_20 : List AOper :=
  [⟨.bin .eql 1 true (.p 10) (.c (.int .u8 14)), (some 55), none⟩,
    ⟨.assign (.p 55), (some 52), none⟩]
@[simp] def eq58_20 := id q58_20.eq_1
def q58_21 : List AOper :=
  [⟨.bin .eql 1 true (.p 10) (.c (.int .u8 2)), (some 54), none⟩,
    ⟨.assign (.p 54), (some 52), none⟩]
@[simp] def eq58_21 := id q58_21.eq_1
def q58_22 : List AOper :=
  [⟨.bin .eql 1 true (.p 10) (.c (.int .u8 13)), (some 53), none⟩,
    ⟨.assign (.p 53), (some 52), none⟩]
@[simp] def eq58_22 := id q58_22.eq_1
def q58_23 : List AOper :=
  [⟨.bin .eql 1 true (.p 10) (.c (.int .u8 16)), (some 51), none⟩,
    ⟨.assign (.p 51), (some 50), none⟩]
@[simp] def eq58_23 := id q58_23.eq_1
def q58_24 : List AOper :=
  [⟨.bin .eql 1 true (.p 10) (.c (.int .u8 19)), (some 49), none⟩,
    ⟨.assign (.p 49), (some 48), none⟩]
@[simp] def eq58_24 := id q58_24.eq_1
def q58_25 : List AOper :=
  [⟨.bin .eql 1 true (.p 10) (.c (.int .u8 17)), (some 47), none⟩,
    ⟨.assign (.p 47), (some 43), none⟩]
@[simp] def eq58_25 := id q58_25.eq_1
def q58_26 : List AOper :=
  [⟨.bin .eql 1 true (.p 10) (.c (.int .u8 18)), (some 46), none⟩,
    ⟨.assign (.p 46), (some 43), none⟩]
@[simp] def eq58_26 := id q58_26.eq_1
def q58_27 : List AOper :=
  [⟨.bin .eql 1 true (.p 10) (.c (.int .u8 1)), (some 45), none⟩,
    ⟨.assign (.p 45), (some 43), none⟩]
@[simp] def eq58_27 := id q58_27.eq_1
def q58_28 : List AOper :=
  [⟨.bin .eql 1 true (.p 10) (.c (.int .u8 9)), (some 44), none⟩,
    ⟨.assign (.p 44), (some 43), none⟩]
@[simp] def eq58_28 := id q58_28.eq_1
def q58_29 : List AOper :=
  [⟨.bin .eql 1 true (.p 10) (.c (.int .u8 12)), (some 34), none⟩,
    ⟨.assign (.p 34), (some 33), none⟩]
@[simp] def eq58_29 := id q58_29.eq_1
def q58_30 : List AOper :=
  [⟨.bin .eql 1 true (.p 10) (.c (.int .u8 8)), (some 32), none⟩,
    ⟨.assign (.p 32), (some 31), none⟩]
@[simp] def eq58_30 := id q58_30.eq_1
def q58_31 : List AOper :=
  [⟨.bin .eql 1 true (.p 10) (.c (.int .u8 5)), (some 22), none⟩,
    ⟨.assign (.p 22), (some 21), none⟩]
@[simp] def eq58_31 := id q58_31.eq_1
def q58_32 : List AOper :=
  [⟨.bin .eql 1 true (.p 10) (.c (.int .u8 15)), (some 14), none⟩,
    ⟨.assign (.p 14), (some 11), none⟩]
@[simp] def eq58_32 := id q58_32.eq_1
def q58_33 : List AOper :=
  [⟨.bin .eql 1 true (.p 10) (.c (.int .u8 3)), (some 13), none⟩,
    ⟨.assign (.p 13), (some 11), none⟩]
@[simp] def eq58_33 := id q58_33.eq_1
def q58_34 : List AOper :=
  [⟨.bin .eql 1 true (.p 10) (.c (.int .u8 4)), (some 12), none⟩,
    ⟨.assign (.p 12), (some 11), none⟩]
@[simp] def eq58_34 := id q58_34.eq_1
def q58_35 : List AOper :=
  [⟨.assign (.c (.int .i32 0)), (some 4), none⟩,
    ⟨.assign (.c (.bool false)), (some 5), none⟩]
@[simp] def eq58_35 := id q58_35.eq_1
def k58_0 : ACode :=
  .ops q58_0 .ret
@[simp] theorem xk58_0 : GoC fns Q s k58_0 st ↔ GoO fns Q s q58_0 .ret st := goC_ops
def k58_1 : ACode :=
  .ops [⟨.assign (.c (.bool false)), (some 7), none⟩] .skip
@[simp] theorem xk58_1 : GoC fns Q s k58_1 st ↔ GoO fns Q s [⟨.assign (.c (.bool false)), (some 7), none⟩] .skip st := goC_ops
def k58_2 : ACode :=
  .cond (.p 91) k58_1 .skip
@[simp] theorem xk58_2 : GoC fns Q s k58_2 st ↔ GB fns Q s (peek st (.p 91)) k58_1 .skip st := goC_cond
def k58_3 : ACode :=
  .seq k58_2 k58_0
@[simp] theorem xk58_3 : GoC fns Q s k58_3 st ↔ GoC fns Q (.sq k58_0 :: s) k58_2 st := goC_seq
def k58_4 : ACode :=
  .ops q58_1 k58_3
@[simp] theorem xk58_4 : GoC fns Q s k58_4 st ↔ GoO fns Q s q58_1 k58_3 st := goC_ops
def k58_5 : ACode :=
  .ops q58_2 .skip
@[simp] theorem xk58_5 : GoC fns Q s k58_5 st ↔ GoO fns Q s q58_2 .skip st := goC_ops
def k58_6 : ACode :=
  .ops q58_3 .skip
@[simp] theorem xk58_6 : GoC fns Q s k58_6 st ↔ GoO fns Q s q58_3 .skip st := goC_ops
def k58_7 : ACode :=
  .ops q58_4 k58_6
@[simp] theorem xk58_7 : GoC fns Q s k58_7 st ↔ GoO fns Q s q58_4 k58_6 st := goC_ops
def k58_8 : ACode :=
  .ops [⟨.assign (.c (.int .i32 1)), (some 6), none⟩] .skip
@[simp] theorem xk58_8 : GoC fns Q s k58_8 st ↔ GoO fns Q s [⟨.assign (.c (.int .i32 1)), (some 6), none⟩] .skip st := goC_ops
def k58_9 : ACode :=
  .ops q58_5 .skip
@[simp] theorem xk58_9 : GoC fns Q s k58_9 st ↔ GoO fns Q s q58_5 .skip st := goC_ops
def k58_10 : ACode :=
  .ops q58_6 k58_9
@[simp] theorem xk58_10 : GoC fns Q s k58_10 st ↔ GoO fns Q s q58_6 k58_9 st := goC_ops
def k58_11 : ACode :=
  .ops [⟨.assign (.c (.int .i32 8)), (some 6), none⟩] .skip
@[simp] theorem xk58_11 : GoC fns Q s k58_11 st ↔ GoO fns Q s [⟨.assign (.c (.int .i32 8)), (some 6), none⟩] .skip st := goC_ops
def k58_12 : ACode :=
  .ops [⟨.assign (.c (.int .i32 16)), (some 6), none⟩] .skip
@[simp] theorem xk58_12 : GoC fns Q s k58_12 st ↔ GoO fns Q s [⟨.assign (.c (.int .i32 16)), (some 6), none⟩] .skip st := goC_ops
def k58_13 : ACode :=
  .ops [⟨.assign (.c (.int .i32 4)), (some 6), none⟩] .skip
@[simp] theorem xk58_13 : GoC fns Q s k58_13 st ↔ GoO fns Q s [⟨.assign (.c (.int .i32 4)), (some 6), none⟩] .skip st := goC_ops
def k58_14 : ACode :=
  .ops q58_7 .skip
@[simp] theorem xk58_14 : GoC fns Q s k58_14 st ↔ GoO fns Q s q58_7 .skip st := goC_ops
def k58_15 : ACode :=
  .ops q58_8 k58_14
@[simp] theorem xk58_15 : GoC fns Q s k58_15 st ↔ GoO fns Q s q58_8 k58_14 st := goC_ops
def k58_16 : ACode :=
  .ops [⟨.assign (.c (.int .i32 0)), (some 6), none⟩] .skip
@[simp] theorem xk58_16 : GoC fns Q s k58_16 st ↔ GoO fns Q s [⟨.assign (.c (.int .i32 0)), (some 6), none⟩] .skip st := goC_ops
def k58_17 : ACode :=
  .ops [⟨.assign (.c (.int .i32 12)), (some 6), none⟩] .skip
@[simp] theorem xk58_17 : GoC fns Q s k58_17 st ↔ GoO fns Q s [⟨.assign (.c (.int .i32 12)), (some 6), none⟩] .skip st := goC_ops
def k58_18 : ACode :=
  .ops q58_9 .skip
@[simp] theorem xk58_18 : GoC fns Q s k58_18 st ↔ GoO fns Q s q58_9 .skip st := goC_ops
def k58_19 : ACode :=
  .ops [⟨.assign (.c (.bool false)), (some 7), none⟩] (.exit 0)
@[simp] theorem xk58_19 : GoC fns Q s k58_19 st ↔ GoO fns Q s [⟨.assign (.c (.bool false)), (some 7), none⟩] (.exit 0) st := goC_ops
def k58_20 : ACode :=
  .cond (.p 83) k58_19 .skip
@[simp] theorem xk58_20 : GoC fns Q s k58_20 st ↔ GB fns Q s (peek st (.p 83)) k58_19 .skip st := goC_cond
def k58_21 : ACode :=
  .seq k58_20 k58_18
@[simp] theorem xk58_21 : GoC fns Q s k58_21 st ↔ GoC fns Q (.sq k58_18 :: s) k58_20 st := goC_seq
def k58_22 : ACode :=
  .ops q58_10 k58_21
@[simp] theorem xk58_22 : GoC fns Q s k58_22 st ↔ GoO fns Q s q58_10 k58_21 st := goC_ops
def k58_23 : ACode :=
  .ops q58_11 k58_22
@[simp] theorem xk58_23 : GoC fns Q s k58_23 st ↔ GoO fns Q s q58_11 k58_22 st := goC_ops
def k58_24 : ACode :=
  .ops [⟨.assign (.c (.bool false)), (some 7), none⟩] (.exit 0)
@[simp] theorem xk58_24 : GoC fns Q s k58_24 st ↔ GoO fns Q s [⟨.assign (.c (.bool false)), (some 7), none⟩] (.exit 0) st := goC_ops
def k58_25 : ACode :=
  .cond (.p 76) k58_24 .skip
@[simp] theorem xk58_25 : GoC fns Q s k58_25 st ↔ GB fns Q s (peek st (.p 76)) k58_24 .skip st := goC_cond
def k58_26 : ACode :=
  .seq k58_25 k58_23
@[simp] theorem xk58_26 : GoC fns Q s k58_26 st ↔ GoC fns Q (.sq k58_23 :: s) k58_25 st := goC_seq
def k58_27 : ACode :=
  .ops q58_12 k58_26
@[simp] theorem xk58_27 : GoC fns Q s k58_27 st ↔ GoO fns Q s q58_12 k58_26 st := goC_ops
def k58_28 : ACode :=
  .ops q58_13 k58_27
@[simp] theorem xk58_28 : GoC fns Q s k58_28 st ↔ GoO fns Q s q58_13 k58_27 st := goC_ops
def k58_29 : ACode :=
  .ops [⟨.assign (.c (.bool false)), (some 7), none⟩] .skip
@[simp] theorem xk58_29 : GoC fns Q s k58_29 st ↔ GoO fns Q s [⟨.assign (.c (.bool false)), (some 7), none⟩] .skip st := goC_ops
def k58_30 : ACode :=
  .cond (.p 71) k58_28 k58_29
@[simp] theorem xk58_30 : GoC fns Q s k58_30 st ↔ GB fns Q s (peek st (.p 71)) k58_28 k58_29 st := goC_cond
def k58_31 : ACode :=
  .ops q58_14 k58_30
@[simp] theorem xk58_31 : GoC fns Q s k58_31 st ↔ GoO fns Q s q58_14 k58_30 st := goC_ops
def k58_32 : ACode :=
  .cond (.p 69) k58_17 k58_31
@[simp] theorem xk58_32 : GoC fns Q s k58_32 st ↔ GB fns Q s (peek st (.p 69)) k58_17 k58_31 st := goC_cond
def k58_33 : ACode :=
  .ops q58_15 k58_32
@[simp] theorem xk58_33 : GoC fns Q s k58_33 st ↔ GoO fns Q s q58_15 k58_32 st := goC_ops
def k58_34 : ACode :=
  .cond (.p 64) k58_16 k58_33
@[simp] theorem xk58_34 : GoC fns Q s k58_34 st ↔ GB fns Q s (peek st (.p 64)) k58_16 k58_33 st := goC_cond
def k58_35 : ACode :=
  .ops q58_16 .skip
@[simp] theorem xk58_35 : GoC fns Q s k58_35 st ↔ GoO fns Q s q58_16 .skip st := goC_ops
def k58_36 : ACode :=
  .cond (.p 64) .skip k58_35
@[simp] theorem xk58_36 : GoC fns Q s k58_36 st ↔ GB fns Q s (peek st (.p 64)) .skip k58_35 st := goC_cond
def k58_37 : ACode :=
  .ops q58_17 k58_36
@[simp] theorem xk58_37 : GoC fns Q s k58_37 st ↔ GoO fns Q s q58_17 k58_36 st := goC_ops
def k58_38 : ACode :=
  .cond (.p 64) .skip k58_37
@[simp] theorem xk58_38 : GoC fns Q s k58_38 st ↔ GB fns Q s (peek st (.p 64)) .skip k58_37 st := goC_cond
def k58_39 : ACode :=
  .ops q58_18 k58_38
@[simp] theorem xk58_39 : GoC fns Q s k58_39 st ↔ GoO fns Q s q58_18 k58_38 st := goC_ops
def k58_40 : ACode :=
  .cond (.p 64) .skip k58_39
@[simp] theorem xk58_40 : GoC fns Q s k58_40 st ↔ GB fns Q s (peek st (.p 64)) .skip k58_39 st := goC_cond
def k58_41 : ACode :=
  .seq k58_40 k58_34
@[simp] theorem xk58_41 : GoC fns Q s k58_41 st ↔ GoC fns Q (.sq k58_34 :: s) k58_40 st := goC_seq
def k58_42 : ACode :=
  .ops q58_19 k58_41
@[simp] theorem xk58_42 : GoC fns Q s k58_42 st ↔ GoO fns Q s q58_19 k58_41 st := goC_ops
def k58_43 : ACode :=
  .cond (.p 52) k58_15 k58_42
@[simp] theorem xk58_43 : GoC fns Q s k58_43 st ↔ GB fns Q s (peek st (.p 52)) k58_15 k58_42 st := goC_cond
def k58_44 : ACode :=
  .ops q58_20 .skip
@[simp] theorem xk58_44 : GoC fns Q s k58_44 st ↔ GoO fns Q s q58_20 .skip st := goC_ops
def k58_45 : ACode :=
  .cond (.p 52) .skip k58_44
@[simp] theorem xk58_45 : GoC fns Q s k58_45 st ↔ GB fns Q s (peek st (.p 52)) .skip k58_44 st := goC_cond
def k58_46 : ACode :=
  .ops q58_21 k58_45
@[simp] theorem xk58_46 : GoC fns Q s k58_46 st ↔ GoO fns Q s q58_21 k58_45 st := goC_ops
def k58_47 : ACode :=
  .cond (.p 52) .skip k58_46
@[simp] theorem xk58_47 : GoC fns Q s k58_47 st ↔ GB fns Q s (peek st (.p 52)) .skip k58_46 st := goC_cond
def k58_48 : ACode :=
  .seq k58_47 k58_43
@[simp] theorem xk58_48 : GoC fns Q s k58_48 st ↔ GoC fns Q (.sq k58_43 :: s) k58_47 st := goC_seq
def k58_49 : ACode :=
  .ops q58_22 k58_48
@[simp] theorem xk58_49 : GoC fns Q s k58_49 st ↔ GoO fns Q s q58_22 k58_48 st := goC_ops
def k58_50 : ACode :=
  .cond (.p 50) k58_13 k58_49
@[simp] theorem xk58_50 : GoC fns Q s k58_50 st ↔ GB fns Q s (peek st (.p 50)) k58_13 k58_49 st := goC_cond
def k58_51 : ACode :=
  .ops q58_23 k58_50
@[simp] theorem xk58_51 : GoC fns Q s k58_51 st ↔ GoO fns Q s q58_23 k58_50 st := goC_ops
def k58_52 : ACode :=
  .cond (.p 48) k58_12 k58_51
@[simp] theorem xk58_52 : GoC fns Q s k58_52 st ↔ GB fns Q s (peek st (.p 48)) k58_12 k58_51 st := goC_cond
def k58_53 : ACode :=
  .ops q58_24 k58_52
@[simp] theorem xk58_53 : GoC fns Q s k58_53 st ↔ GoO fns Q s q58_24 k58_52 st := goC_ops
def k58_54 : ACode :=
  .cond (.p 43) k58_11 k58_53
@[simp] theorem xk58_54 : GoC fns Q s k58_54 st ↔ GB fns Q s (peek st (.p 43)) k58_11 k58_53 st := goC_cond
def k58_55 : ACode :=
  .ops q58_25 .skip
@[simp] theorem xk58_55 : GoC fns Q s k58_55 st ↔ GoO fns Q s q58_25 .skip st := goC_ops
def k58_56 : ACode :=
  .cond (.p 43) .skip k58_55
@[simp] theorem xk58_56 : GoC fns Q s k58_56 st ↔ GB fns Q s (peek st (.p 43)) .skip k58_55 st := goC_cond
def k58_57 : ACode :=
  .ops q58_26 k58_56
@[simp] theorem xk58_57 : GoC fns Q s k58_57 st ↔ GoO fns Q s q58_26 k58_56 st := goC_ops
def k58_58 : ACode :=
  .cond (.p 43) .skip k58_57
@[simp] theorem xk58_58 : GoC fns Q s k58_58 st ↔ GB fns Q s (peek st (.p 43)) .skip k58_57 st := goC_cond
def k58_59 : ACode :=
  .ops q58_27 k58_58
@[simp] theorem xk58_59 : GoC fns Q s k58_59 st ↔ GoO fns Q s q58_27 k58_58 st := goC_ops
def k58_60 : ACode :=
  .cond (.p 43) .skip k58_59
@[simp] theorem xk58_60 : GoC fns Q s k58_60 st ↔ GB fns Q s (peek st (.p 43)) .skip k58_59 st := goC_cond
def k58_61 : ACode :=
  .seq k58_60 k58_54
@[simp] theorem xk58_61 : GoC fns Q s k58_61 st ↔ GoC fns Q (.sq k58_54 :: s) k58_60 st := goC_seq
def k58_62 : ACode :=
  .ops q58_28 k58_61
@[simp] theorem xk58_62 : GoC fns Q s k58_62 st ↔ GoO fns Q s q58_28 k58_61 st := goC_ops
def k58_63 : ACode :=
  .cond (.p 33) k58_10 k58_62
@[simp] theorem xk58_63 : GoC fns Q s k58_63 st ↔ GB fns Q s (peek st (.p 33)) k58_10 k58_62 st := goC_cond
def k58_64 : ACode :=
  .ops q58_29 k58_63
@[simp] theorem xk58_64 : GoC fns Q s k58_64 st ↔ GoO fns Q s q58_29 k58_63 st := goC_ops
def k58_65 : ACode :=
  .cond (.p 31) k58_8 k58_64
@[simp] theorem xk58_65 : GoC fns Q s k58_65 st ↔ GB fns Q s (peek st (.p 31)) k58_8 k58_64 st := goC_cond
def k58_66 : ACode :=
  .ops q58_30 k58_65
@[simp] theorem xk58_66 : GoC fns Q s k58_66 st ↔ GoO fns Q s q58_30 k58_65 st := goC_ops
def k58_67 : ACode :=
  .cond (.p 21) k58_7 k58_66
@[simp] theorem xk58_67 : GoC fns Q s k58_67 st ↔ GB fns Q s (peek st (.p 21)) k58_7 k58_66 st := goC_cond
def k58_68 : ACode :=
  .ops q58_31 k58_67
@[simp] theorem xk58_68 : GoC fns Q s k58_68 st ↔ GoO fns Q s q58_31 k58_67 st := goC_ops
def k58_69 : ACode :=
  .cond (.p 11) k58_5 k58_68
@[simp] theorem xk58_69 : GoC fns Q s k58_69 st ↔ GB fns Q s (peek st (.p 11)) k58_5 k58_68 st := goC_cond
def k58_70 : ACode :=
  .ops q58_32 .skip
@[simp] theorem xk58_70 : GoC fns Q s k58_70 st ↔ GoO fns Q s q58_32 .skip st := goC_ops
def k58_71 : ACode :=
  .cond (.p 11) .skip k58_70
@[simp] theorem xk58_71 : GoC fns Q s k58_71 st ↔ GB fns Q s (peek st (.p 11)) .skip k58_70 st := goC_cond
def k58_72 : ACode :=
  .ops q58_33 k58_71
@[simp] theorem xk58_72 : GoC fns Q s k58_72 st ↔ GoO fns Q s q58_33 k58_71 st := goC_ops
def k58_73 : ACode :=
  .cond (.p 11) .skip k58_72
@[simp] theorem xk58_73 : GoC fns Q s k58_73 st ↔ GB fns Q s (peek st (.p 11)) .skip k58_72 st := goC_cond
def k58_74 : ACode :=
  .seq k58_73 k58_69
@[simp] theorem xk58_74 : GoC fns Q s k58_74 st ↔ GoC fns Q (.sq k58_69 :: s) k58_73 st := goC_seq
def k58_75 : ACode :=
  .ops q58_34 k58_74
@[simp] theorem xk58_75 : GoC fns Q s k58_75 st ↔ GoO fns Q s q58_34 k58_74 st := goC_ops
def k58_76 : ACode :=
  .block 0 k58_75
@[simp] theorem xk58_76 : GoC fns Q s k58_76 st ↔ GoC fns Q (.bl 0 :: s) k58_75 st := goC_block
def k58_77 : ACode :=
  .seq k58_76 k58_4
@[simp] theorem xk58_77 : GoC fns Q s k58_77 st ↔ GoC fns Q (.sq k58_4 :: s) k58_76 st := goC_seq
def k58_78 : ACode :=
  .ops [⟨.move .head (.p 1), (some 10), none⟩] k58_77
@[simp] theorem xk58_78 : GoC fns Q s k58_78 st ↔ GoO fns Q s [⟨.move .head (.p 1), (some 10), none⟩] k58_77 st := goC_ops
def k58_79 : ACode :=
  .ops [⟨.assign (.c (.bool true)), (some 7), none⟩] k58_78
@[simp] theorem xk58_79 : GoC fns Q s k58_79 st ↔ GoO fns Q s [⟨.assign (.c (.bool true)), (some 7), none⟩] k58_78 st := goC_ops
def k58_80 : ACode :=
  .ops [⟨.assign (.c (.int .i32 0)), (some 6), none⟩] k58_79
@[simp] theorem xk58_80 : GoC fns Q s k58_80 st ↔ GoO fns Q s [⟨.assign (.c (.int .i32 0)), (some 6), none⟩] k58_79 st := goC_ops
def k58_81 : ACode :=
  .ops q58_35 k58_80
@[simp] theorem xk58_81 : GoC fns Q s k58_81 st ↔ GoO fns Q s q58_35 k58_80 st := goC_ops
def af58 : AFunc := ⟨94, k58_81, [.tmp 4, .tmp 5], fun _ _ => none⟩

theorem ok58 : ∃ hs, pFunc Tryz.prog sg hs Tryz.f58 = some af58 := ⟨fun i => 0, by kernel_rfl⟩
def q40_0 : List AOper :=
  [⟨.move .look (.t 0), (some 57), none⟩,
    ⟨.move .head (.p 9), (some 58), none⟩,
    ⟨.sliceSl 1 (.t 57) none (some (.p 58)), (some 59), none⟩,
    ⟨.move .look (.t 0), (some 60), none⟩,
    ⟨.move .head (.p 9), (some 61), none⟩,
    ⟨.sliceSl 1 (.t 60) (some (.p 61)) none, (some 62), none⟩,
    ⟨.assign (.t 59), (some 2), none⟩,
    ⟨.assign (.t 62), (some 3), none⟩,
    ⟨.assign (.c (.bool true)), (some 4), none⟩]
@[simp] def eq40_0 := id q40_0.eq_1
def q40_1 : List AOper :=
  [⟨.move .take (.t 0), (some 56), none⟩,
    ⟨.assign (.c (.slice .nil 0 1 [])), (some 2), none⟩,
    ⟨.assign (.t 56), (some 3), none⟩,
    ⟨.assign (.c (.bool false)), (some 4), none⟩]
@[simp] def eq40_1 := id q40_1.eq_1
def q40_2 : List AOper :=
  [⟨.move .look (.p 9), (some 52), none⟩,
    ⟨.move .head (.t 0), (some 53), none⟩,
    ⟨.len false (.p 53), (some 54), none⟩,
    ⟨.bin .gtr 1 false (.p 52) (.p 54), (some 55), none⟩]
@[simp] def eq40_2 := id q40_2.eq_1
def q40_3 : List AOper :=
  [⟨.move .look (.p 6), (some 48), none⟩,
    ⟨.move .look (.p 7), (some 49), none⟩,
    ⟨.convInt .i64 (.p 49), (some 50), none⟩,
    ⟨.bin .add 1 false (.p 48) (.p 50), (some 51), none⟩,
    ⟨.assign (.p 51), (some 9), none⟩]
@[simp] def eq40_3 := id q40_3.eq_1
def q40_4 : List AOper :=
  [⟨.move .take (.t 0), (some 47), none⟩,
    ⟨.assign (.c (.slice .nil 0 1 [])), (some 2), none⟩,
    ⟨.assign (.t 47), (some 3), none⟩,
    ⟨.assign (.c (.bool false)), (some 4), none⟩]
@[simp] def eq40_4 := id q40_4.eq_1
def q40_5 : List AOper :=
  [⟨.move .look (.p 8), (some 45), none⟩,
    ⟨.un .not (.p 45), (some 46), none⟩]
@[simp] def eq40_5 := id q40_5.eq_1
def q40_6 : List AOper :=
  [⟨.move .look (.t 0), (some 38), none⟩,
    ⟨.move .head (.p 6), (some 39), none⟩,
    ⟨.sliceSl 1 (.t 38) (some (.p 39)) none, (some 40), none⟩,
    ⟨.move .look (.p 5), (some 41), none⟩,
    ⟨.call 58 [(.t 40, false), (.p 41, false)], (some 42), none⟩,
    ⟨.move .look (.t 42), (some 37), none⟩,
    ⟨.extract 37 0, (some 43), none⟩,
    ⟨.extract 37 1, (some 44), none⟩,
    ⟨.assign (.p 43), (some 7), none⟩,
    ⟨.assign (.p 44), (some 8), none⟩]
@[simp] def eq40_6 := id q40_6.eq_1
def q40_7 : List AOper :=
  [⟨.move .look (.p 6), (some 35), none⟩,
    ⟨.bin .add 1 true (.p 35) (.c (.int .i64 1)), (some 36), none⟩,
    ⟨.assign (.p 36), (some 6), none⟩]
@[simp] def eq40_7 := id q40_7.eq_1
def q40_8 : List AOper :=
  [⟨.move .take (.t 0), (some 34), none⟩,
    ⟨.assign (.c (.slice .nil 0 1 [])), (some 2), none⟩,
    ⟨.assign (.t 34), (some 3), none⟩,
    ⟨.assign (.c (.bool false)), (some 4), none⟩]
@[simp] def eq40_8 := id q40_8.eq_1
def q40_9 : List AOper :=
  [⟨.move .look (.p 6), (some 30), none⟩,
    ⟨.move .head (.t 0), (some 31), none⟩,
    ⟨.len false (.p 31), (some 32), none⟩,
    ⟨.bin .geq 1 false (.p 30) (.p 32), (some 33), none⟩]
@[simp] def eq40_9 := id q40_9.eq_1
def q40_10 : List AOper :=
  [⟨.move .look (.p 6), (some 28), none⟩,
    ⟨.bin .add 1 true (.p 28) (.c (.int .i64 1)), (some 29), none⟩,
    ⟨.assign (.p 29), (some 6), none⟩]
@[simp] def eq40_10 := id q40_10.eq_1
def q40_11 : List AOper :=
  [⟨.move .look (.p 6), (some 17), none⟩,
    ⟨.move .head (.t 0), (some 18), none⟩,
    ⟨.len false (.p 18), (some 19), none⟩,
    ⟨.bin .lss 1 false (.p 17) (.p 19), (some 20), none⟩,
    ⟨.move .look (.p 20), (some 21), none⟩,
    ⟨.move .look (.t 0), (some 22), (some (21, true))⟩,
    ⟨.move .look (.p 6), (some 23), (some (21, true))⟩,
    ⟨.indexAddr 1 (.t 22) (.p 23), (some 24), (some (21, true))⟩,
    ⟨.load .head false 1 (.p 24), (some 25), (some (21, true))⟩,
    ⟨.bin .neq 1 true (.p 25) (.c (.int .u8 0)), (some 26), (some (21, true))⟩,
    ⟨.pick (.p 21) (.p 26) (.c (.bool false)), (some 27), none⟩]
@[simp] def eq40_11 := id q40_11.eq_1
def q40_12 : List AOper :=
  [⟨.move .look (.t 0), (some 14), none⟩,
    ⟨.indexAddr 1 (.t 14) (.c (.int .i64 0)), (some 15), none⟩,
    ⟨.load .take false 1 (.p 15), (some 16), none⟩,
    ⟨.assign (.p 16), (some 5), none⟩]
@[simp] def eq40_12 := id q40_12.eq_1
def q40_13 : List AOper :=
  [⟨.move .take (.t 0), (some 13), none⟩,
    ⟨.assign (.c (.slice .nil 0 1 [])), (some 2), none⟩,
    ⟨.assign (.t 13), (some 3), none⟩,
    ⟨.assign (.c (.bool false)), (some 4), none⟩]
@[simp] def eq40_13 := id q40_13.eq_1
def q40_14 : List AOper :=
  [⟨.move .head (.t 0), (some 10), none⟩,
    ⟨.len false (.p 10), (some 11), none⟩,
    ⟨.bin .lss 1 true (.p 11) (.c (.int .i64 1)), (some 12), none⟩]
@[simp] def eq40_14 := id q40_14.eq_1
def q40_15 : List AOper :=
  [⟨.assign (.c (.slice .nil 0 1 [])), (some 2), none⟩,
    ⟨.assign (.c (.slice .nil 0 1 [])), (some 3), none⟩,
    ⟨.assign (.c (.bool false)), (some 4), none⟩]
@[simp] def eq40_15 := id q40_15.eq_1
def k40_0 : ACode :=
  .ops q40_0 .ret
@[simp] theorem xk40_0 : GoC fns Q s k40_0 st ↔ GoO fns Q s q40_0 .ret st := goC_ops
def k40_1 : ACode :=
  .ops q40_1 .ret
@[simp] theorem xk40_1 : GoC fns Q s k40_1 st ↔ GoO fns Q s q40_1 .ret st := goC_ops
def k40_2 : ACode :=
  .cond (.p 55) k40_1 .skip
@[simp] theorem xk40_2 : GoC fns Q s k40_2 st ↔ GB fns Q s (peek st (.p 55)) k40_1 .skip st := goC_cond
def k40_3 : ACode :=
  .seq k40_2 k40_0
@[simp] theorem xk40_3 : GoC fns Q s k40_3 st ↔ GoC fns Q (.sq k40_0 :: s) k40_2 st := goC_seq
def k40_4 : ACode :=
  .ops q40_2 k40_3
@[simp] theorem xk40_4 : GoC fns Q s k40_4 st ↔ GoO fns Q s q40_2 k40_3 st := goC_ops
def k40_5 : ACode :=
  .ops q40_3 k40_4
@[simp] theorem xk40_5 : GoC fns Q s k40_5 st ↔ GoO fns Q s q40_3 k40_4 st := goC_ops
def k40_6 : ACode :=
  .ops q40_4 .ret
@[simp] theorem xk40_6 : GoC fns Q s k40_6 st ↔ GoO fns Q s q40_4 .ret st := goC_ops
def k40_7 : ACode :=
  .cond (.p 46) k40_6 .skip
@[simp] theorem xk40_7 : GoC fns Q s k40_7 st ↔ GB fns Q s (peek st (.p 46)) k40_6 .skip st := goC_cond
def k40_8 : ACode :=
  .seq k40_7 k40_5
@[simp] theorem xk40_8 : GoC fns Q s k40_8 st ↔ GoC fns Q (.sq k40_5 :: s) k40_7 st := goC_seq
def k40_9 : ACode :=
  .ops q40_5 k40_8
@[simp] theorem xk40_9 : GoC fns Q s k40_9 st ↔ GoO fns Q s q40_5 k40_8 st := goC_ops
def k40_10 : ACode :=
  .ops q40_6 k40_9
@[simp] theorem xk40_10 : GoC fns Q s k40_10 st ↔ GoO fns Q s q40_6 k40_9 st := goC_ops
def k40_11 : ACode :=
  .ops q40_7 k40_10
@[simp] theorem xk40_11 : GoC fns Q s k40_11 st ↔ GoO fns Q s q40_7 k40_10 st := goC_ops
def k40_12 : ACode :=
  .ops q40_8 .ret
@[simp] theorem xk40_12 : GoC fns Q s k40_12 st ↔ GoO fns Q s q40_8 .ret st := goC_ops
def k40_13 : ACode :=
  .cond (.p 33) k40_12 .skip
@[simp] theorem xk40_13 : GoC fns Q s k40_13 st ↔ GB fns Q s (peek st (.p 33)) k40_12 .skip st := goC_cond
def k40_14 : ACode :=
  .seq k40_13 k40_11
@[simp] theorem xk40_14 : GoC fns Q s k40_14 st ↔ GoC fns Q (.sq k40_11 :: s) k40_13 st := goC_seq
def k40_15 : ACode :=
  .ops q40_9 k40_14
@[simp] theorem xk40_15 : GoC fns Q s k40_15 st ↔ GoO fns Q s q40_9 k40_14 st := goC_ops
def k40_16 : ACode :=
  .ops q40_10 .skip
@[simp] theorem xk40_16 : GoC fns Q s k40_16 st ↔ GoO fns Q s q40_10 .skip st := goC_ops
def k40_17 : ACode :=
  .block 1 k40_16
@[simp] theorem xk40_17 : GoC fns Q s k40_17 st ↔ GoC fns Q (.bl 1 :: s) k40_16 st := goC_block
def k40_18 : ACode :=
  .cond (.p 27) .skip (.exit 0)
@[simp] theorem xk40_18 : GoC fns Q s k40_18 st ↔ GB fns Q s (peek st (.p 27)) .skip (.exit 0) st := goC_cond
def k40_19 : ACode :=
  .seq k40_18 k40_17
@[simp] theorem xk40_19 : GoC fns Q s k40_19 st ↔ GoC fns Q (.sq k40_17 :: s) k40_18 st := goC_seq
def k40_20 : ACode :=
  .ops q40_11 k40_19
@[simp] theorem xk40_20 : GoC fns Q s k40_20 st ↔ GoO fns Q s q40_11 k40_19 st := goC_ops
def lc40_0 : ACode :=
  k40_20
@[simp] theorem xlc40_0 : GoC fns Q s lc40_0 st ↔ GoC fns Q s k40_20 st := Iff.rfl
def k40_22 : ACode :=
  .loop lc40_0
@[simp] theorem xk40_22 : GoC fns Q s k40_22 st ↔ (LoopR fns lc40_0 st fun r => GoE fns Q s r.1 r.2) := goC_loop
def k40_23 : ACode :=
  .block 0 k40_22
@[simp] theorem xk40_23 : GoC fns Q s k40_23 st ↔ GoC fns Q (.bl 0 :: s) k40_22 st := goC_block
def k40_24 : ACode :=
  .seq k40_23 k40_15
@[simp] theorem xk40_24 : GoC fns Q s k40_24 st ↔ GoC fns Q (.sq k40_15 :: s) k40_23 st := goC_seq
def k40_25 : ACode :=
  .ops [⟨.assign (.c (.int .i64 1)), (some 6), none⟩] k40_24
@[simp] theorem xk40_25 : GoC fns Q s k40_25 st ↔ GoO fns Q s [⟨.assign (.c (.int .i64 1)), (some 6), none⟩] k40_24 st := goC_ops
def k40_26 : ACode :=
  .ops q40_12 k40_25
@[simp] theorem xk40_26 : GoC fns Q s k40_26 st ↔ GoO fns Q s q40_12 k40_25 st := goC_ops
def k40_27 : ACode :=
  .ops q40_13 .ret
@[simp] theorem xk40_27 : GoC fns Q s k40_27 st ↔ GoO fns Q s q40_13 .ret st := goC_ops
def k40_28 : ACode :=
  .cond (.p 12) k40_27 .skip
@[simp] theorem xk40_28 : GoC fns Q s k40_28 st ↔ GB fns Q s (peek st (.p 12)) k40_27 .skip st := goC_cond
def k40_29 : ACode :=
  .seq k40_28 k40_26
@[simp] theorem xk40_29 : GoC fns Q s k40_29 st ↔ GoC fns Q (.sq k40_26 :: s) k40_28 st := goC_seq
def k40_30 : ACode :=
  .ops q40_14 k40_29
@[simp] theorem xk40_30 : GoC fns Q s k40_30 st ↔ GoO fns Q s q40_14 k40_29 st := goC_ops
def k40_31 : ACode :=
  .ops q40_15 k40_30
@[simp] theorem xk40_31 : GoC fns Q s k40_31 st ↔ GoO fns Q s q40_15 k40_30 st := goC_ops
def af40 : AFunc := ⟨63, k40_31, [.tmp 2, .tmp 3, .tmp 4], fun _ _ => none⟩

theorem ok40 : ∃ hs, pFunc Tryz.prog sg hs Tryz.f40 = some af40 := ⟨fun i => 0, by kernel_rfl⟩
def q72_0 : List AOper :=
  [⟨.move .look (.t 0), (some 25), none⟩,
    ⟨.move .head (.p 7), (some 26), none⟩,
    ⟨.sliceSl 1 (.t 25) none (some (.p 26)), (some 27), none⟩,
    ⟨.move .look (.t 0), (some 28), none⟩,
    ⟨.move .head (.p 7), (some 29), none⟩,
    ⟨.sliceSl 1 (.t 28) (some (.p 29)) none, (some 30), none⟩,
    ⟨.assign (.t 27), (some 4), none⟩,
    ⟨.assign (.t 30), (some 5), none⟩,
    ⟨.assign (.c (.bool true)), (some 6), none⟩]
@[simp] def eq72_0 := id q72_0.eq_1
def q72_1 : List AOper :=
  [⟨.move .take (.t 0), (some 24), none⟩,
    ⟨.assign (.c (.slice .nil 0 1 [])), (some 4), none⟩,
    ⟨.assign (.t 24), (some 5), none⟩,
    ⟨.assign (.c (.bool false)), (some 6), none⟩]
@[simp] def eq72_1 := id q72_1.eq_1
def q72_2 : List AOper :=
  [⟨.move .look (.p 8), (some 15), none⟩,
    ⟨.un .not (.p 15), (some 16), none⟩,
    ⟨.move .look (.p 16), (some 17), none⟩,
    ⟨.move .look (.p 7), (some 18), (some (17, false))⟩,
    ⟨.convInt .i64 (.p 18), (some 19), (some (17, false))⟩,
    ⟨.move .head (.t 0), (some 20), (some (17, false))⟩,
    ⟨.len false (.p 20), (some 21), (some (17, false))⟩,
    ⟨.bin .gtr 1 false (.p 19) (.p 21), (some 22), (some (17, false))⟩,
    ⟨.pick (.p 17) (.c (.bool true)) (.p 22), (some 23), none⟩]
@[simp] def eq72_2 := id q72_2.eq_1
def q72_3 : List AOper :=
  [⟨.move .look (.t 0), (some 10), none⟩,
    ⟨.move .look (.p 1), (some 11), none⟩,
    ⟨.call 58 [(.t 10, false), (.p 11, false)], (some 12), none⟩,
    ⟨.move .look (.t 12), (some 9), none⟩,
    ⟨.extract 9 0, (some 13), none⟩,
    ⟨.extract 9 1, (some 14), none⟩,
    ⟨.assign (.p 13), (some 7), none⟩,
    ⟨.assign (.p 14), (some 8), none⟩]
@[simp] def eq72_3 := id q72_3.eq_1
def q72_4 : List AOper :=
  [⟨.assign (.c (.slice .nil 0 1 [])), (some 4), none⟩,
    ⟨.assign (.c (.slice .nil 0 1 [])), (some 5), none⟩,
    ⟨.assign (.c (.bool false)), (some 6), none⟩]
@[simp] def eq72_4 := id q72_4.eq_1
def k72_0 : ACode :=
  .ops q72_0 .ret
@[simp] theorem xk72_0 : GoC fns Q s k72_0 st ↔ GoO fns Q s q72_0 .ret st := goC_ops
def k72_1 : ACode :=
  .ops q72_1 .ret
@[simp] theorem xk72_1 : GoC fns Q s k72_1 st ↔ GoO fns Q s q72_1 .ret st := goC_ops
def k72_2 : ACode :=
  .cond (.p 23) k72_1 .skip
@[simp] theorem xk72_2 : GoC fns Q s k72_2 st ↔ GB fns Q s (peek st (.p 23)) k72_1 .skip st := goC_cond
def k72_3 : ACode :=
  .seq k72_2 k72_0
@[simp] theorem xk72_3 : GoC fns Q s k72_3 st ↔ GoC fns Q (.sq k72_0 :: s) k72_2 st := goC_seq
def k72_4 : ACode :=
  .ops q72_2 k72_3
@[simp] theorem xk72_4 : GoC fns Q s k72_4 st ↔ GoO fns Q s q72_2 k72_3 st := goC_ops
def k72_5 : ACode :=
  .ops q72_3 k72_4
@[simp] theorem xk72_5 : GoC fns Q s k72_5 st ↔ GoO fns Q s q72_3 k72_4 st := goC_ops
def k72_6 : ACode :=
  .ops q72_4 k72_5
@[simp] theorem xk72_6 : GoC fns Q s k72_6 st ↔ GoO fns Q s q72_4 k72_5 st := goC_ops
def af72 : AFunc := ⟨31, k72_6, [.tmp 4, .tmp 5, .tmp 6], fun _ _ => none⟩

theorem ok72 : ∃ hs, pFunc Tryz.prog sg hs Tryz.f72 = some af72 := ⟨fun i => 0, by kernel_rfl⟩
def q60_0 : List AOper :=
  [⟨.fieldAddr 1 (.p 1), (some 17), none⟩,
    ⟨.load .look false 1 (.p 17), (some 18), none⟩,
    ⟨.fieldAddr 1 (.p 1), (some 19), none⟩,
    ⟨.load .look false 1 (.p 19), (some 20), none⟩,
    ⟨.call 39 [(.t 18, false), (.t 20, false)], (some 21), none⟩,
    ⟨.mkIface 93 (.p 21), (some 22), none⟩,
    ⟨.assign (.p 22), (some 2), none⟩]
@[simp] def eq60_0 := id q60_0.eq_1
def q60_1 : List AOper :=
  [⟨.move .look (.p 5), (some 15), none⟩,
    ⟨.un .not (.p 15), (some 16), none⟩]
@[simp] def eq60_1 := id q60_1.eq_1
def q60_2 : List AOper :=
  [⟨.fieldAddr 1 (.p 1), (some 7), none⟩,
    ⟨.load .look false 1 (.p 7), (some 8), none⟩,
    ⟨.fieldAddr 0 (.p 1), (some 9), none⟩,
    ⟨.load .look false 1 (.p 9), (some 10), none⟩,
    ⟨.call 72 [(.t 8, false), (.p 10, false)], (some 11), none⟩,
    ⟨.move .look (.t 11), (some 6), none⟩,
    ⟨.extract 6 0, (some 12), none⟩,
    ⟨.extract 6 1, (some 13), none⟩,
    ⟨.extract 6 2, (some 14), none⟩,
    ⟨.assign (.t 12), (some 3), none⟩,
    ⟨.assign (.t 13), (some 4), none⟩,
    ⟨.assign (.p 14), (some 5), none⟩]
@[simp] def eq60_2 := id q60_2.eq_1
def q60_3 : List AOper :=
  [⟨.box 1 (.p 0), (some 1), none⟩,
    ⟨.assign (.c (.nilI)), (some 2), none⟩]
@[simp] def eq60_3 := id q60_3.eq_1
def k60_0 : ACode :=
  .ops [⟨.assign (.c (.nilI)), (some 2), none⟩] .ret
@[simp] theorem xk60_0 : GoC fns Q s k60_0 st ↔ GoO fns Q s [⟨.assign (.c (.nilI)), (some 2), none⟩] .ret st := goC_ops
def k60_1 : ACode :=
  .ops q60_0 .ret
@[simp] theorem xk60_1 : GoC fns Q s k60_1 st ↔ GoO fns Q s q60_0 .ret st := goC_ops
def k60_2 : ACode :=
  .cond (.p 16) k60_1 .skip
@[simp] theorem xk60_2 : GoC fns Q s k60_2 st ↔ GB fns Q s (peek st (.p 16)) k60_1 .skip st := goC_cond
def k60_3 : ACode :=
  .seq k60_2 k60_0
@[simp] theorem xk60_3 : GoC fns Q s k60_3 st ↔ GoC fns Q (.sq k60_0 :: s) k60_2 st := goC_seq
def k60_4 : ACode :=
  .ops q60_1 k60_3
@[simp] theorem xk60_4 : GoC fns Q s k60_4 st ↔ GoO fns Q s q60_1 k60_3 st := goC_ops
def k60_5 : ACode :=
  .ops q60_2 k60_4
@[simp] theorem xk60_5 : GoC fns Q s k60_5 st ↔ GoO fns Q s q60_2 k60_4 st := goC_ops
def k60_6 : ACode :=
  .ops q60_3 k60_5
@[simp] theorem xk60_6 : GoC fns Q s k60_6 st ↔ GoO fns Q s q60_3 k60_5 st := goC_ops
def af60 : AFunc := ⟨23, k60_6, [.tmp 2], fun _ _ => none⟩

theorem ok60 : ∃ hs, pFunc Tryz.prog sg hs Tryz.f60 = some af60 := ⟨fun i => 0, by kernel_rfl⟩
def q41_0 : List AOper :=
  [⟨.move .look (.t 0), (some 14), none⟩,
    ⟨.indexAddr 1 (.t 14) (.c (.int .i64 0)), (some 15), none⟩,
    ⟨.load .look false 1 (.p 15), (some 16), none⟩,
    ⟨.move .look (.t 0), (some 17), none⟩,
    ⟨.move .look (.p 3), (some 18), none⟩,
    ⟨.bin .add 1 true (.p 18) (.c (.int .i64 2)), (some 19), none⟩,
    ⟨.sliceSl 1 (.t 17) (some (.p 19)) none, (some 20), none⟩,
    ⟨.build [.int .u8 0, .slice .nil 0 1 []] [(0, 1, .p 16), (1, 1, .t 20)], (some 21), none⟩,
    ⟨.call 60 [(.p 21, false)], (some 22), none⟩,
    ⟨.assign (.p 22), (some 2), none⟩]
@[simp] def eq41_0 := id q41_0.eq_1
def q41_1 : List AOper :=
  [⟨.mkIface 98 (.c (.str [101, 108, 101, 109, 101, 110, 116, 32, 105, 115, 32, 109, 105, 115, 115, 105, 110, 103, 32, 107, 101, 121])), (some 13), none⟩,
    ⟨.assign (.p 13), (some 2), none⟩]
@[simp] def eq41_1 := id q41_1.eq_1
def q41_2 : List AOper :=
  [⟨.move .head (.p 3), (some 11), none⟩,
    ⟨.bin .eql 1 true (.p 11) (.c (.int .i64 (-1))), (some 12), none⟩]
@[simp] def eq41_2 := id q41_2.eq_1
def q41_3 : List AOper :=
  [⟨.move .look (.t 0), (some 8), none⟩,
    ⟨.sliceSl 1 (.t 8) (some (.c (.int .i64 1))) none, (some 9), none⟩,
    ⟨.call 59 [(.t 9, false), (.c (.int .u8 0), false)], (some 10), none⟩,
    ⟨.assign (.p 10), (some 3), none⟩]
@[simp] def eq41_3 := id q41_3.eq_1
def q41_4 : List AOper :=
  [⟨.mkIface 98 (.c (.str [101, 108, 101, 109, 101, 110, 116, 32, 105, 115, 32, 109, 105, 115, 115, 105, 110, 103, 32, 116, 121, 112, 101])), (some 7), none⟩,
    ⟨.assign (.p 7), (some 2), none⟩]
@[simp] def eq41_4 := id q41_4.eq_1
def q41_5 : List AOper :=
  [⟨.move .head (.t 0), (some 4), none⟩,
    ⟨.len false (.p 4), (some 5), none⟩,
    ⟨.bin .lss 1 true (.p 5) (.c (.int .i64 1)), (some 6), none⟩]
@[simp] def eq41_5 := id q41_5.eq_1
def k41_0 : ACode :=
  .ops q41_0 .ret
@[simp] theorem xk41_0 : GoC fns Q s k41_0 st ↔ GoO fns Q s q41_0 .ret st := goC_ops
def k41_1 : ACode :=
  .ops q41_1 .ret
@[simp] theorem xk41_1 : GoC fns Q s k41_1 st ↔ GoO fns Q s q41_1 .ret st := goC_ops
def k41_2 : ACode :=
  .cond (.p 12) k41_1 .skip
@[simp] theorem xk41_2 : GoC fns Q s k41_2 st ↔ GB fns Q s (peek st (.p 12)) k41_1 .skip st := goC_cond
def k41_3 : ACode :=
  .seq k41_2 k41_0
@[simp] theorem xk41_3 : GoC fns Q s k41_3 st ↔ GoC fns Q (.sq k41_0 :: s) k41_2 st := goC_seq
def k41_4 : ACode :=
  .ops q41_2 k41_3
@[simp] theorem xk41_4 : GoC fns Q s k41_4 st ↔ GoO fns Q s q41_2 k41_3 st := goC_ops
def k41_5 : ACode :=
  .ops q41_3 k41_4
@[simp] theorem xk41_5 : GoC fns Q s k41_5 st ↔ GoO fns Q s q41_3 k41_4 st := goC_ops
def k41_6 : ACode :=
  .ops q41_4 .ret
@[simp] theorem xk41_6 : GoC fns Q s k41_6 st ↔ GoO fns Q s q41_4 .ret st := goC_ops
def k41_7 : ACode :=
  .cond (.p 6) k41_6 .skip
@[simp] theorem xk41_7 : GoC fns Q s k41_7 st ↔ GB fns Q s (peek st (.p 6)) k41_6 .skip st := goC_cond
def k41_8 : ACode :=
  .seq k41_7 k41_5
@[simp] theorem xk41_8 : GoC fns Q s k41_8 st ↔ GoC fns Q (.sq k41_5 :: s) k41_7 st := goC_seq
def k41_9 : ACode :=
  .ops q41_5 k41_8
@[simp] theorem xk41_9 : GoC fns Q s k41_9 st ↔ GoO fns Q s q41_5 k41_8 st := goC_ops
def k41_10 : ACode :=
  .ops [⟨.assign (.c (.nilI)), (some 2), none⟩] k41_9
@[simp] theorem xk41_10 : GoC fns Q s k41_10 st ↔ GoO fns Q s [⟨.assign (.c (.nilI)), (some 2), none⟩] k41_9 st := goC_ops
def af41 : AFunc := ⟨23, k41_10, [.tmp 2], fun _ _ => none⟩

theorem ok41 : ∃ hs, pFunc Tryz.prog sg hs Tryz.f41 = some af41 := ⟨fun i => 0, by kernel_rfl⟩
def q22_0 : List AOper :=
  [⟨.move .take (.t 8), (some 54), none⟩,
    ⟨.assign (.t 54), (some 2), none⟩,
    ⟨.assign (.c (.nilI)), (some 3), none⟩]
@[simp] def eq22_0 := id q22_0.eq_1
def q22_1 : List AOper :=
  [⟨.move .take (.t 8), (some 50), none⟩,
    ⟨.move .look (.t 7), (some 51), none⟩,
    ⟨.buildSl 56 1 [.slice .nil 0 1 []] [(0, 1, .t 51)], (some 52), none⟩,
    ⟨.append 56 1 24 false (.t 50) (.p 52), (some 53), none⟩,
    ⟨.assign (.t 53), (some 8), none⟩]
@[simp] def eq22_1 := id q22_1.eq_1
def q22_2 : List AOper :=
  [⟨.move .take (.t 8), (some 48), none⟩,
    ⟨.move .take (.p 9), (some 49), none⟩,
    ⟨.assign (.t 48), (some 2), none⟩,
    ⟨.assign (.p 49), (some 3), none⟩]
@[simp] def eq22_2 := id q22_2.eq_1
def q22_3 : List AOper :=
  [⟨.move .head (.p 9), (some 46), none⟩,
    ⟨.bin .neq 5 true (.p 46) (.c (.nilI)), (some 47), none⟩]
@[simp] def eq22_3 := id q22_3.eq_1
def q22_4 : List AOper :=
  [⟨.move .look (.t 7), (some 44), none⟩,
    ⟨.call 41 [(.t 44, false)], (some 45), none⟩,
    ⟨.assign (.p 45), (some 9), none⟩]
@[simp] def eq22_4 := id q22_4.eq_1
def q22_5 : List AOper :=
  [⟨.move .take (.t 8), (some 39), none⟩,
    ⟨.move .look (.t 0), (some 40), none⟩,
    ⟨.move .look (.t 5), (some 41), none⟩,
    ⟨.call 39 [(.t 40, false), (.t 41, false)], (some 42), none⟩,
    ⟨.mkIface 93 (.p 42), (some 43), none⟩,
    ⟨.assign (.t 39), (some 2), none⟩,
    ⟨.assign (.p 43), (some 3), none⟩]
@[simp] def eq22_5 := id q22_5.eq_1
def q22_6 : List AOper :=
  [⟨.move .look (.p 6), (some 37), none⟩,
    ⟨.un .not (.p 37), (some 38), none⟩]
@[simp] def eq22_6 := id q22_6.eq_1
def q22_7 : List AOper :=
  [⟨.move .look (.p 4), (some 32), none⟩,
    ⟨.move .head (.t 7), (some 33), none⟩,
    ⟨.len false (.p 33), (some 34), none⟩,
    ⟨.convInt .i32 (.p 34), (some 35), none⟩,
    ⟨.bin .sub 1 false (.p 32) (.p 35), (some 36), none⟩,
    ⟨.assign (.p 36), (some 4), none⟩]
@[simp] def eq22_7 := id q22_7.eq_1
def q22_8 : List AOper :=
  [⟨.move .look (.t 5), (some 27), none⟩,
    ⟨.call 40 [(.t 27, false)], (some 28), none⟩,
    ⟨.move .look (.t 28), (some 26), none⟩,
    ⟨.extract 26 0, (some 29), none⟩,
    ⟨.extract 26 1, (some 30), none⟩,
    ⟨.extract 26 2, (some 31), none⟩,
    ⟨.assign (.t 29), (some 7), none⟩,
    ⟨.assign (.t 30), (some 5), none⟩,
    ⟨.assign (.p 31), (some 6), none⟩]
@[simp] def eq22_8 := id q22_8.eq_1
def q22_9 : List AOper :=
  [⟨.move .look (.p 4), (some 24), none⟩,
    ⟨.bin .gtr 1 true (.p 24) (.c (.int .i32 1)), (some 25), none⟩]
@[simp] def eq22_9 := id q22_9.eq_1
def q22_10 : List AOper :=
  [⟨.move .look (.p 4), (some 22), none⟩,
    ⟨.bin .sub 1 true (.p 22) (.c (.int .i32 4)), (some 23), none⟩,
    ⟨.assign (.p 23), (some 4), none⟩]
@[simp] def eq22_10 := id q22_10.eq_1
def q22_11 : List AOper :=
  [⟨.move .look (.t 0), (some 18), none⟩,
    ⟨.move .look (.t 5), (some 19), none⟩,
    ⟨.call 39 [(.t 18, false), (.t 19, false)], (some 20), none⟩,
    ⟨.mkIface 93 (.p 20), (some 21), none⟩,
    ⟨.assign (.c (.slice .nil 0 1 [])), (some 2), none⟩,
    ⟨.assign (.p 21), (some 3), none⟩]
@[simp] def eq22_11 := id q22_11.eq_1
def q22_12 : List AOper :=
  [⟨.move .look (.p 6), (some 16), none⟩,
    ⟨.un .not (.p 16), (some 17), none⟩]
@[simp] def eq22_12 := id q22_12.eq_1
def q22_13 : List AOper :=
  [⟨.move .look (.t 0), (some 11), none⟩,
    ⟨.call 38 [(.t 11, false)], (some 12), none⟩,
    ⟨.move .look (.t 12), (some 10), none⟩,
    ⟨.extract 10 0, (some 13), none⟩,
    ⟨.extract 10 1, (some 14), none⟩,
    ⟨.extract 10 2, (some 15), none⟩,
    ⟨.assign (.p 13), (some 4), none⟩,
    ⟨.assign (.t 14), (some 5), none⟩,
    ⟨.assign (.p 15), (some 6), none⟩]
@[simp] def eq22_13 := id q22_13.eq_1
def q22_14 : List AOper :=
  [⟨.assign (.c (.slice .nil 0 1 [])), (some 2), none⟩,
    ⟨.assign (.c (.nilI)), (some 3), none⟩]
@[simp] def eq22_14 := id q22_14.eq_1
def k22_0 : ACode :=
  .ops q22_0 .ret
@[simp] theorem xk22_0 : GoC fns Q s k22_0 st ↔ GoO fns Q s q22_0 .ret st := goC_ops
def k22_1 : ACode :=
  .ops q22_1 .skip
@[simp] theorem xk22_1 : GoC fns Q s k22_1 st ↔ GoO fns Q s q22_1 .skip st := goC_ops
def k22_2 : ACode :=
  .ops q22_2 .ret
@[simp] theorem xk22_2 : GoC fns Q s k22_2 st ↔ GoO fns Q s q22_2 .ret st := goC_ops
def k22_3 : ACode :=
  .cond (.p 47) k22_2 .skip
@[simp] theorem xk22_3 : GoC fns Q s k22_3 st ↔ GB fns Q s (peek st (.p 47)) k22_2 .skip st := goC_cond
def k22_4 : ACode :=
  .seq k22_3 k22_1
@[simp] theorem xk22_4 : GoC fns Q s k22_4 st ↔ GoC fns Q (.sq k22_1 :: s) k22_3 st := goC_seq
def k22_5 : ACode :=
  .ops q22_3 k22_4
@[simp] theorem xk22_5 : GoC fns Q s k22_5 st ↔ GoO fns Q s q22_3 k22_4 st := goC_ops
def k22_6 : ACode :=
  .ops q22_4 k22_5
@[simp] theorem xk22_6 : GoC fns Q s k22_6 st ↔ GoO fns Q s q22_4 k22_5 st := goC_ops
def k22_7 : ACode :=
  .ops q22_5 .ret
@[simp] theorem xk22_7 : GoC fns Q s k22_7 st ↔ GoO fns Q s q22_5 .ret st := goC_ops
def k22_8 : ACode :=
  .cond (.p 38) k22_7 .skip
@[simp] theorem xk22_8 : GoC fns Q s k22_8 st ↔ GB fns Q s (peek st (.p 38)) k22_7 .skip st := goC_cond
def k22_9 : ACode :=
  .seq k22_8 k22_6
@[simp] theorem xk22_9 : GoC fns Q s k22_9 st ↔ GoC fns Q (.sq k22_6 :: s) k22_8 st := goC_seq
def k22_10 : ACode :=
  .ops q22_6 k22_9
@[simp] theorem xk22_10 : GoC fns Q s k22_10 st ↔ GoO fns Q s q22_6 k22_9 st := goC_ops
def k22_11 : ACode :=
  .ops q22_7 k22_10
@[simp] theorem xk22_11 : GoC fns Q s k22_11 st ↔ GoO fns Q s q22_7 k22_10 st := goC_ops
def k22_12 : ACode :=
  .ops q22_8 k22_11
@[simp] theorem xk22_12 : GoC fns Q s k22_12 st ↔ GoO fns Q s q22_8 k22_11 st := goC_ops
def k22_13 : ACode :=
  .block 1 k22_12
@[simp] theorem xk22_13 : GoC fns Q s k22_13 st ↔ GoC fns Q (.bl 1 :: s) k22_12 st := goC_block
def k22_14 : ACode :=
  .cond (.p 25) .skip (.exit 0)
@[simp] theorem xk22_14 : GoC fns Q s k22_14 st ↔ GB fns Q s (peek st (.p 25)) .skip (.exit 0) st := goC_cond
def k22_15 : ACode :=
  .seq k22_14 k22_13
@[simp] theorem xk22_15 : GoC fns Q s k22_15 st ↔ GoC fns Q (.sq k22_13 :: s) k22_14 st := goC_seq
def k22_16 : ACode :=
  .ops q22_9 k22_15
@[simp] theorem xk22_16 : GoC fns Q s k22_16 st ↔ GoO fns Q s q22_9 k22_15 st := goC_ops
def lc22_0 : ACode :=
  k22_16
@[simp] theorem xlc22_0 : GoC fns Q s lc22_0 st ↔ GoC fns Q s k22_16 st := Iff.rfl
def k22_18 : ACode :=
  .loop lc22_0
@[simp] theorem xk22_18 : GoC fns Q s k22_18 st ↔ (LoopR fns lc22_0 st fun r => GoE fns Q s r.1 r.2) := goC_loop
def k22_19 : ACode :=
  .block 0 k22_18
@[simp] theorem xk22_19 : GoC fns Q s k22_19 st ↔ GoC fns Q (.bl 0 :: s) k22_18 st := goC_block
def k22_20 : ACode :=
  .seq k22_19 k22_0
@[simp] theorem xk22_20 : GoC fns Q s k22_20 st ↔ GoC fns Q (.sq k22_0 :: s) k22_19 st := goC_seq
def k22_21 : ACode :=
  .ops [⟨.assign (.c (.slice .nil 0 1 [])), (some 8), none⟩] k22_20
@[simp] theorem xk22_21 : GoC fns Q s k22_21 st ↔ GoO fns Q s [⟨.assign (.c (.slice .nil 0 1 [])), (some 8), none⟩] k22_20 st := goC_ops
def k22_22 : ACode :=
  .ops [⟨.assign (.c (.slice .nil 0 1 [])), (some 7), none⟩] k22_21
@[simp] theorem xk22_22 : GoC fns Q s k22_22 st ↔ GoO fns Q s [⟨.assign (.c (.slice .nil 0 1 [])), (some 7), none⟩] k22_21 st := goC_ops
def k22_23 : ACode :=
  .ops q22_10 k22_22
@[simp] theorem xk22_23 : GoC fns Q s k22_23 st ↔ GoO fns Q s q22_10 k22_22 st := goC_ops
def k22_24 : ACode :=
  .ops q22_11 .ret
@[simp] theorem xk22_24 : GoC fns Q s k22_24 st ↔ GoO fns Q s q22_11 .ret st := goC_ops
def k22_25 : ACode :=
  .cond (.p 17) k22_24 .skip
@[simp] theorem xk22_25 : GoC fns Q s k22_25 st ↔ GB fns Q s (peek st (.p 17)) k22_24 .skip st := goC_cond
def k22_26 : ACode :=
  .seq k22_25 k22_23
@[simp] theorem xk22_26 : GoC fns Q s k22_26 st ↔ GoC fns Q (.sq k22_23 :: s) k22_25 st := goC_seq
def k22_27 : ACode :=
  .ops q22_12 k22_26
@[simp] theorem xk22_27 : GoC fns Q s k22_27 st ↔ GoO fns Q s q22_12 k22_26 st := goC_ops
def k22_28 : ACode :=
  .ops q22_13 k22_27
@[simp] theorem xk22_28 : GoC fns Q s k22_28 st ↔ GoO fns Q s q22_13 k22_27 st := goC_ops
def k22_29 : ACode :=
  .ops q22_14 k22_28
@[simp] theorem xk22_29 : GoC fns Q s k22_29 st ↔ GoO fns Q s q22_14 k22_28 st := goC_ops
def af22 : AFunc := ⟨55, k22_29, [.tmp 2, .tmp 3], fun _ _ => none⟩

theorem ok22 : ∃ hs, pFunc Tryz.prog sg hs Tryz.f22 = some af22 := ⟨fun i => 0, by kernel_rfl⟩
def q20_0 : List AOper :=
  [⟨.move .take (.t 7), (some 36), none⟩,
    ⟨.assign (.t 36), (some 2), none⟩,
    ⟨.assign (.c (.nilI)), (some 3), none⟩]
@[simp] def eq20_0 := id q20_0.eq_1
def q20_1 : List AOper :=
  [⟨.bin .add 1 true (.p 27) (.c (.int .i64 1)), (some 35), none⟩,
    ⟨.move .look (.p 35), (some 27), none⟩]
@[simp] def eq20_1 := id q20_1.eq_1
def q20_2 : List AOper :=
  [⟨.move .take (.t 7), (some 31), none⟩,
    ⟨.move .look (.t 9), (some 32), none⟩,
    ⟨.buildSl 50 1 [.slice .nil 0 1 []] [(0, 1, .t 32)], (some 33), none⟩,
    ⟨.append 50 1 24 false (.t 31) (.p 33), (some 34), none⟩,
    ⟨.assign (.t 34), (some 7), none⟩]
@[simp] def eq20_2 := id q20_2.eq_1
def q20_3 : List AOper :=
  [⟨.indexAddr 1 (.t 25) (.p 27), (some 29), none⟩,
    ⟨.load .take false 1 (.p 29), (some 30), none⟩,
    ⟨.assign (.t 30), (some 9), none⟩]
@[simp] def eq20_3 := id q20_3.eq_1
def q20_4 : List AOper :=
  [⟨.move .look (.t 5), (some 25), none⟩,
    ⟨.len false (.p 25), (some 26), none⟩,
    ⟨.move .head (.c (.int .i64 0)), (some 27), none⟩]
@[simp] def eq20_4 := id q20_4.eq_1
def q20_5 : List AOper :=
  [⟨.move .head (.t 5), (some 22), none⟩,
    ⟨.len false (.p 22), (some 23), none⟩,
    ⟨.mkSl false 50 1 24 [.slice .nil 0 1 []] (.c (.int .i64 0)) (.p 23), (some 24), none⟩,
    ⟨.assign (.t 24), (some 7), none⟩]
@[simp] def eq20_5 := id q20_5.eq_1
def q20_6 : List AOper :=
  [⟨.move .take (.p 6), (some 21), none⟩,
    ⟨.assign (.c (.slice .nil 0 1 [])), (some 2), none⟩,
    ⟨.assign (.p 21), (some 3), none⟩]
@[simp] def eq20_6 := id q20_6.eq_1
def q20_7 : List AOper :=
  [⟨.move .head (.p 6), (some 19), none⟩,
    ⟨.bin .neq 5 true (.p 19) (.c (.nilI)), (some 20), none⟩]
@[simp] def eq20_7 := id q20_7.eq_1
def q20_8 : List AOper :=
  [⟨.move .look (.t 4), (some 15), none⟩,
    ⟨.call 22 [(.t 15, false)], (some 16), none⟩,
    ⟨.move .look (.t 16), (some 14), none⟩,
    ⟨.extract 14 0, (some 17), none⟩,
    ⟨.extract 14 1, (some 18), none⟩,
    ⟨.assign (.t 17), (some 5), none⟩,
    ⟨.assign (.p 18), (some 6), none⟩]
@[simp] def eq20_8 := id q20_8.eq_1
def q20_9 : List AOper :=
  [⟨.assign (.c (.slice .nil 0 1 [])), (some 2), none⟩,
    ⟨.assign (.c (.nilI)), (some 3), none⟩]
@[simp] def eq20_9 := id q20_9.eq_1
def q20_10 : List AOper :=
  [⟨.move .head (.t 4), (some 11), none⟩,
    ⟨.len false (.p 11), (some 12), none⟩,
    ⟨.bin .eql 1 true (.p 12) (.c (.int .i64 0)), (some 13), none⟩]
@[simp] def eq20_10 := id q20_10.eq_1
def q20_11 : List AOper :=
  [⟨.move .take (.t 0), (some 10), none⟩,
    ⟨.assign (.t 10), (some 4), none⟩]
@[simp] def eq20_11 := id q20_11.eq_1
def q20_12 : List AOper :=
  [⟨.assign (.c (.slice .nil 0 1 [])), (some 2), none⟩,
    ⟨.assign (.c (.nilI)), (some 3), none⟩]
@[simp] def eq20_12 := id q20_12.eq_1
def k20_0 : ACode :=
  .ops q20_0 .ret
@[simp] theorem xk20_0 : GoC fns Q s k20_0 st ↔ GoO fns Q s q20_0 .ret st := goC_ops
def k20_1 : ACode :=
  .ops q20_1 .skip
@[simp] theorem xk20_1 : GoC fns Q s k20_1 st ↔ GoO fns Q s q20_1 .skip st := goC_ops
def k20_2 : ACode :=
  .ops q20_2 .skip
@[simp] theorem xk20_2 : GoC fns Q s k20_2 st ↔ GoO fns Q s q20_2 .skip st := goC_ops
def k20_3 : ACode :=
  .ops q20_3 k20_2
@[simp] theorem xk20_3 : GoC fns Q s k20_3 st ↔ GoO fns Q s q20_3 k20_2 st := goC_ops
def k20_4 : ACode :=
  .block 1 k20_3
@[simp] theorem xk20_4 : GoC fns Q s k20_4 st ↔ GoC fns Q (.bl 1 :: s) k20_3 st := goC_block
def k20_5 : ACode :=
  .seq k20_4 k20_1
@[simp] theorem xk20_5 : GoC fns Q s k20_5 st ↔ GoC fns Q (.sq k20_1 :: s) k20_4 st := goC_seq
def k20_6 : ACode :=
  .cond (.p 28) .skip (.exit 0)
@[simp] theorem xk20_6 : GoC fns Q s k20_6 st ↔ GB fns Q s (peek st (.p 28)) .skip (.exit 0) st := goC_cond
def k20_7 : ACode :=
  .seq k20_6 k20_5
@[simp] theorem xk20_7 : GoC fns Q s k20_7 st ↔ GoC fns Q (.sq k20_5 :: s) k20_6 st := goC_seq
def k20_8 : ACode :=
  .ops [⟨.bin .lss 1 false (.p 27) (.p 26), (some 28), none⟩] k20_7
@[simp] theorem xk20_8 : GoC fns Q s k20_8 st ↔ GoO fns Q s [⟨.bin .lss 1 false (.p 27) (.p 26), (some 28), none⟩] k20_7 st := goC_ops
def lc20_0 : ACode :=
  k20_8
@[simp] theorem xlc20_0 : GoC fns Q s lc20_0 st ↔ GoC fns Q s k20_8 st := Iff.rfl
def k20_10 : ACode :=
  .loop lc20_0
@[simp] theorem xk20_10 : GoC fns Q s k20_10 st ↔ (LoopR fns lc20_0 st fun r => GoE fns Q s r.1 r.2) := goC_loop
def k20_11 : ACode :=
  .block 0 k20_10
@[simp] theorem xk20_11 : GoC fns Q s k20_11 st ↔ GoC fns Q (.bl 0 :: s) k20_10 st := goC_block
def k20_12 : ACode :=
  .seq k20_11 k20_0
@[simp] theorem xk20_12 : GoC fns Q s k20_12 st ↔ GoC fns Q (.sq k20_0 :: s) k20_11 st := goC_seq
def k20_13 : ACode :=
  .ops q20_4 k20_12
@[simp] theorem xk20_13 : GoC fns Q s k20_13 st ↔ GoO fns Q s q20_4 k20_12 st := goC_ops
def k20_14 : ACode :=
  .ops q20_5 k20_13
@[simp] theorem xk20_14 : GoC fns Q s k20_14 st ↔ GoO fns Q s q20_5 k20_13 st := goC_ops
def k20_15 : ACode :=
  .ops q20_6 .ret
@[simp] theorem xk20_15 : GoC fns Q s k20_15 st ↔ GoO fns Q s q20_6 .ret st := goC_ops
def k20_16 : ACode :=
  .cond (.p 20) k20_15 .skip
@[simp] theorem xk20_16 : GoC fns Q s k20_16 st ↔ GB fns Q s (peek st (.p 20)) k20_15 .skip st := goC_cond
def k20_17 : ACode :=
  .seq k20_16 k20_14
@[simp] theorem xk20_17 : GoC fns Q s k20_17 st ↔ GoC fns Q (.sq k20_14 :: s) k20_16 st := goC_seq
def k20_18 : ACode :=
  .ops q20_7 k20_17
@[simp] theorem xk20_18 : GoC fns Q s k20_18 st ↔ GoO fns Q s q20_7 k20_17 st := goC_ops
def k20_19 : ACode :=
  .ops q20_8 k20_18
@[simp] theorem xk20_19 : GoC fns Q s k20_19 st ↔ GoO fns Q s q20_8 k20_18 st := goC_ops
def k20_20 : ACode :=
  .ops q20_9 .ret
@[simp] theorem xk20_20 : GoC fns Q s k20_20 st ↔ GoO fns Q s q20_9 .ret st := goC_ops
def k20_21 : ACode :=
  .cond (.p 13) k20_20 .skip
@[simp] theorem xk20_21 : GoC fns Q s k20_21 st ↔ GB fns Q s (peek st (.p 13)) k20_20 .skip st := goC_cond
def k20_22 : ACode :=
  .seq k20_21 k20_19
@[simp] theorem xk20_22 : GoC fns Q s k20_22 st ↔ GoC fns Q (.sq k20_19 :: s) k20_21 st := goC_seq
def k20_23 : ACode :=
  .ops q20_10 k20_22
@[simp] theorem xk20_23 : GoC fns Q s k20_23 st ↔ GoO fns Q s q20_10 k20_22 st := goC_ops
def k20_24 : ACode :=
  .ops q20_11 k20_23
@[simp] theorem xk20_24 : GoC fns Q s k20_24 st ↔ GoO fns Q s q20_11 k20_23 st := goC_ops
def k20_25 : ACode :=
  .ops q20_12 k20_24
@[simp] theorem xk20_25 : GoC fns Q s k20_25 st ↔ GoO fns Q s q20_12 k20_24 st := goC_ops
def af20 : AFunc := ⟨37, k20_25, [.tmp 2, .tmp 3], fun _ _ => none⟩

theorem ok20 : ∃ hs, pFunc Tryz.prog sg hs Tryz.f20 = some af20 := ⟨fun i => if i == 25 then 5 else 0, by kernel_rfl⟩
def q21_0 : List AOper :=
  [⟨.move .look (.t 0), (some 3), none⟩,
    ⟨.append 5 1 1 false (.c (.slice .nil 0 1 [])) (.p 3), (some 4), none⟩,
    ⟨.assign (.t 4), (some 2), none⟩]
@[simp] def eq21_0 := id q21_0.eq_1
def k21_0 : ACode :=
  .ops q21_0 .ret
@[simp] theorem xk21_0 : GoC fns Q s k21_0 st ↔ GoO fns Q s q21_0 .ret st := goC_ops
def k21_1 : ACode :=
  .ops [⟨.assign (.c (.slice .nil 0 1 [])), (some 2), none⟩] k21_0
@[simp] theorem xk21_1 : GoC fns Q s k21_1 st ↔ GoO fns Q s [⟨.assign (.c (.slice .nil 0 1 [])), (some 2), none⟩] k21_0 st := goC_ops
def af21 : AFunc := ⟨5, k21_1, [.tmp 2], fun _ _ => none⟩

theorem ok21 : ∃ hs, pFunc Tryz.prog sg hs Tryz.f21 = some af21 := ⟨fun i => 0, by kernel_rfl⟩
def q5_0 : List AOper :=
  [⟨.move .take (.t 6), (some 26), none⟩,
    ⟨.move .head (.p 5), (some 27), none⟩,
    ⟨.bin .eql 5 true (.p 27) (.c (.nilI)), (some 28), none⟩,
    ⟨.assign (.t 26), (some 2), none⟩,
    ⟨.assign (.p 28), (some 3), none⟩]
@[simp] def eq5_0 := id q5_0.eq_1
def q5_1 : List AOper :=
  [⟨.bin .add 1 true (.p 16) (.c (.int .i64 1)), (some 25), none⟩,
    ⟨.move .look (.p 25), (some 16), none⟩]
@[simp] def eq5_1 := id q5_1.eq_1
def q5_2 : List AOper :=
  [⟨.move .take (.t 6), (some 20), none⟩,
    ⟨.move .look (.t 8), (some 21), none⟩,
    ⟨.call 21 [(.t 21, false)], (some 22), none⟩,
    ⟨.buildSl 22 1 [.slice .nil 0 1 []] [(0, 1, .t 22)], (some 23), none⟩,
    ⟨.append 22 1 24 false (.t 20) (.p 23), (some 24), none⟩,
    ⟨.assign (.t 24), (some 6), none⟩]
@[simp] def eq5_2 := id q5_2.eq_1
def q5_3 : List AOper :=
  [⟨.indexAddr 1 (.t 14) (.p 16), (some 18), none⟩,
    ⟨.load .take false 1 (.p 18), (some 19), none⟩,
    ⟨.assign (.t 19), (some 8), none⟩]
@[simp] def eq5_3 := id q5_3.eq_1
def q5_4 : List AOper :=
  [⟨.move .look (.t 4), (some 14), none⟩,
    ⟨.len false (.p 14), (some 15), none⟩,
    ⟨.move .head (.c (.int .i64 0)), (some 16), none⟩]
@[simp] def eq5_4 := id q5_4.eq_1
def q5_5 : List AOper :=
  [⟨.move .look (.t 0), (some 10), none⟩,
    ⟨.call 20 [(.t 10, false)], (some 11), none⟩,
    ⟨.move .look (.t 11), (some 9), none⟩,
    ⟨.extract 9 0, (some 12), none⟩,
    ⟨.extract 9 1, (some 13), none⟩,
    ⟨.assign (.t 12), (some 4), none⟩,
    ⟨.assign (.p 13), (some 5), none⟩]
@[simp] def eq5_5 := id q5_5.eq_1
def q5_6 : List AOper :=
  [⟨.assign (.c (.slice .nil 0 1 [])), (some 2), none⟩,
    ⟨.assign (.c (.bool false)), (some 3), none⟩]
@[simp] def eq5_6 := id q5_6.eq_1
def k5_0 : ACode :=
  .ops q5_0 .ret
@[simp] theorem xk5_0 : GoC fns Q s k5_0 st ↔ GoO fns Q s q5_0 .ret st := goC_ops
def k5_1 : ACode :=
  .ops q5_1 .skip
@[simp] theorem xk5_1 : GoC fns Q s k5_1 st ↔ GoO fns Q s q5_1 .skip st := goC_ops
def k5_2 : ACode :=
  .ops q5_2 .skip
@[simp] theorem xk5_2 : GoC fns Q s k5_2 st ↔ GoO fns Q s q5_2 .skip st := goC_ops
def k5_3 : ACode :=
  .ops q5_3 k5_2
@[simp] theorem xk5_3 : GoC fns Q s k5_3 st ↔ GoO fns Q s q5_3 k5_2 st := goC_ops
def k5_4 : ACode :=
  .block 1 k5_3
@[simp] theorem xk5_4 : GoC fns Q s k5_4 st ↔ GoC fns Q (.bl 1 :: s) k5_3 st := goC_block
def k5_5 : ACode :=
  .seq k5_4 k5_1
@[simp] theorem xk5_5 : GoC fns Q s k5_5 st ↔ GoC fns Q (.sq k5_1 :: s) k5_4 st := goC_seq
def k5_6 : ACode :=
  .cond (.p 17) .skip (.exit 0)
@[simp] theorem xk5_6 : GoC fns Q s k5_6 st ↔ GB fns Q s (peek st (.p 17)) .skip (.exit 0) st := goC_cond
def k5_7 : ACode :=
  .seq k5_6 k5_5
@[simp] theorem xk5_7 : GoC fns Q s k5_7 st ↔ GoC fns Q (.sq k5_5 :: s) k5_6 st := goC_seq
def k5_8 : ACode :=
  .ops [⟨.bin .lss 1 false (.p 16) (.p 15), (some 17), none⟩] k5_7
@[simp] theorem xk5_8 : GoC fns Q s k5_8 st ↔ GoO fns Q s [⟨.bin .lss 1 false (.p 16) (.p 15), (some 17), none⟩] k5_7 st := goC_ops
def lc5_0 : ACode :=
  k5_8
@[simp] theorem xlc5_0 : GoC fns Q s lc5_0 st ↔ GoC fns Q s k5_8 st := Iff.rfl
def k5_10 : ACode :=
  .loop lc5_0
@[simp] theorem xk5_10 : GoC fns Q s k5_10 st ↔ (LoopR fns lc5_0 st fun r => GoE fns Q s r.1 r.2) := goC_loop
def k5_11 : ACode :=
  .block 0 k5_10
@[simp] theorem xk5_11 : GoC fns Q s k5_11 st ↔ GoC fns Q (.bl 0 :: s) k5_10 st := goC_block
def k5_12 : ACode :=
  .seq k5_11 k5_0
@[simp] theorem xk5_12 : GoC fns Q s k5_12 st ↔ GoC fns Q (.sq k5_0 :: s) k5_11 st := goC_seq
def k5_13 : ACode :=
  .ops q5_4 k5_12
@[simp] theorem xk5_13 : GoC fns Q s k5_13 st ↔ GoO fns Q s q5_4 k5_12 st := goC_ops
def k5_14 : ACode :=
  .ops [⟨.assign (.c (.slice .nil 0 1 [])), (some 6), none⟩] k5_13
@[simp] theorem xk5_14 : GoC fns Q s k5_14 st ↔ GoO fns Q s [⟨.assign (.c (.slice .nil 0 1 [])), (some 6), none⟩] k5_13 st := goC_ops
def k5_15 : ACode :=
  .ops q5_5 k5_14
@[simp] theorem xk5_15 : GoC fns Q s k5_15 st ↔ GoO fns Q s q5_5 k5_14 st := goC_ops
def k5_16 : ACode :=
  .ops q5_6 k5_15
@[simp] theorem xk5_16 : GoC fns Q s k5_16 st ↔ GoO fns Q s q5_6 k5_15 st := goC_ops
def af5 : AFunc := ⟨29, k5_16, [.tmp 2, .tmp 3], fun _ _ => none⟩

theorem ok5 : ∃ hs, pFunc Tryz.prog sg hs Tryz.f5 = some af5 := ⟨fun i => if i == 14 then 5 else 0, by kernel_rfl⟩
def q6_0 : List AOper :=
  [⟨.move .take (.t 6), (some 26), none⟩,
    ⟨.move .head (.p 5), (some 27), none⟩,
    ⟨.bin .eql 5 true (.p 27) (.c (.nilI)), (some 28), none⟩,
    ⟨.assign (.t 26), (some 2), none⟩,
    ⟨.assign (.p 28), (some 3), none⟩]
@[simp] def eq6_0 := id q6_0.eq_1
def q6_1 : List AOper :=
  [⟨.bin .add 1 true (.p 16) (.c (.int .i64 1)), (some 25), none⟩,
    ⟨.move .look (.p 25), (some 16), none⟩]
@[simp] def eq6_1 := id q6_1.eq_1
def q6_2 : List AOper :=
  [⟨.move .take (.t 6), (some 20), none⟩,
    ⟨.move .look (.t 8), (some 21), none⟩,
    ⟨.call 21 [(.t 21, false)], (some 22), none⟩,
    ⟨.buildSl 22 1 [.slice .nil 0 1 []] [(0, 1, .t 22)], (some 23), none⟩,
    ⟨.append 22 1 24 false (.t 20) (.p 23), (some 24), none⟩,
    ⟨.assign (.t 24), (some 6), none⟩]
@[simp] def eq6_2 := id q6_2.eq_1
def q6_3 : List AOper :=
  [⟨.indexAddr 1 (.t 14) (.p 16), (some 18), none⟩,
    ⟨.load .take false 1 (.p 18), (some 19), none⟩,
    ⟨.assign (.t 19), (some 8), none⟩]
@[simp] def eq6_3 := id q6_3.eq_1
def q6_4 : List AOper :=
  [⟨.move .look (.t 4), (some 14), none⟩,
    ⟨.len false (.p 14), (some 15), none⟩,
    ⟨.move .head (.c (.int .i64 0)), (some 16), none⟩]
@[simp] def eq6_4 := id q6_4.eq_1
def q6_5 : List AOper :=
  [⟨.move .look (.t 0), (some 10), none⟩,
    ⟨.call 22 [(.t 10, false)], (some 11), none⟩,
    ⟨.move .look (.t 11), (some 9), none⟩,
    ⟨.extract 9 0, (some 12), none⟩,
    ⟨.extract 9 1, (some 13), none⟩,
    ⟨.assign (.t 12), (some 4), none⟩,
    ⟨.assign (.p 13), (some 5), none⟩]
@[simp] def eq6_5 := id q6_5.eq_1
def q6_6 : List AOper :=
  [⟨.assign (.c (.slice .nil 0 1 [])), (some 2), none⟩,
    ⟨.assign (.c (.bool false)), (some 3), none⟩]
@[simp] def eq6_6 := id q6_6.eq_1
def k6_0 : ACode :=
  .ops q6_0 .ret
@[simp] theorem xk6_0 : GoC fns Q s k6_0 st ↔ GoO fns Q s q6_0 .ret st := goC_ops
def k6_1 : ACode :=
  .ops q6_1 .skip
@[simp] theorem xk6_1 : GoC fns Q s k6_1 st ↔ GoO fns Q s q6_1 .skip st := goC_ops
def k6_2 : ACode :=
  .ops q6_2 .skip
@[simp] theorem xk6_2 : GoC fns Q s k6_2 st ↔ GoO fns Q s q6_2 .skip st := goC_ops
def k6_3 : ACode :=
  .ops q6_3 k6_2
@[simp] theorem xk6_3 : GoC fns Q s k6_3 st ↔ GoO fns Q s q6_3 k6_2 st := goC_ops
def k6_4 : ACode :=
  .block 1 k6_3
@[simp] theorem xk6_4 : GoC fns Q s k6_4 st ↔ GoC fns Q (.bl 1 :: s) k6_3 st := goC_block
def k6_5 : ACode :=
  .seq k6_4 k6_1
@[simp] theorem xk6_5 : GoC fns Q s k6_5 st ↔ GoC fns Q (.sq k6_1 :: s) k6_4 st := goC_seq
def k6_6 : ACode :=
  .cond (.p 17) .skip (.exit 0)
@[simp] theorem xk6_6 : GoC fns Q s k6_6 st ↔ GB fns Q s (peek st (.p 17)) .skip (.exit 0) st := goC_cond
def k6_7 : ACode :=
  .seq k6_6 k6_5
@[simp] theorem xk6_7 : GoC fns Q s k6_7 st ↔ GoC fns Q (.sq k6_5 :: s) k6_6 st := goC_seq
def k6_8 : ACode :=
  .ops [⟨.bin .lss 1 false (.p 16) (.p 15), (some 17), none⟩] k6_7
@[simp] theorem xk6_8 : GoC fns Q s k6_8 st ↔ GoO fns Q s [⟨.bin .lss 1 false (.p 16) (.p 15), (some 17), none⟩] k6_7 st := goC_ops
def lc6_0 : ACode :=
  k6_8
@[simp] theorem xlc6_0 : GoC fns Q s lc6_0 st ↔ GoC fns Q s k6_8 st := Iff.rfl
def k6_10 : ACode :=
  .loop lc6_0
@[simp] theorem xk6_10 : GoC fns Q s k6_10 st ↔ (LoopR fns lc6_0 st fun r => GoE fns Q s r.1 r.2) := goC_loop
def k6_11 : ACode :=
  .block 0 k6_10
@[simp] theorem xk6_11 : GoC fns Q s k6_11 st ↔ GoC fns Q (.bl 0 :: s) k6_10 st := goC_block
def k6_12 : ACode :=
  .seq k6_11 k6_0
@[simp] theorem xk6_12 : GoC fns Q s k6_12 st ↔ GoC fns Q (.sq k6_0 :: s) k6_11 st := goC_seq
def k6_13 : ACode :=
  .ops q6_4 k6_12
@[simp] theorem xk6_13 : GoC fns Q s k6_13 st ↔ GoO fns Q s q6_4 k6_12 st := goC_ops
def k6_14 : ACode :=
  .ops [⟨.assign (.c (.slice .nil 0 1 [])), (some 6), none⟩] k6_13
@[simp] theorem xk6_14 : GoC fns Q s k6_14 st ↔ GoO fns Q s [⟨.assign (.c (.slice .nil 0 1 [])), (some 6), none⟩] k6_13 st := goC_ops
def k6_15 : ACode :=
  .ops q6_5 k6_14
@[simp] theorem xk6_15 : GoC fns Q s k6_15 st ↔ GoO fns Q s q6_5 k6_14 st := goC_ops
def k6_16 : ACode :=
  .ops q6_6 k6_15
@[simp] theorem xk6_16 : GoC fns Q s k6_16 st ↔ GoO fns Q s q6_6 k6_15 st := goC_ops
def af6 : AFunc := ⟨29, k6_16, [.tmp 2, .tmp 3], fun _ _ => none⟩

theorem ok6 : ∃ hs, pFunc Tryz.prog sg hs Tryz.f6 = some af6 := ⟨fun i => if i == 14 then 5 else 0, by kernel_rfl⟩
def q7_0 : List AOper :=
  [⟨.bin .add 1 true (.p 13) (.c (.int .i64 1)), (some 27), none⟩,
    ⟨.move .look (.p 27), (some 13), none⟩]
@[simp] def eq7_0 := id q7_0.eq_1
def q7_1 : List AOper :=
  [⟨.move .look (.t 0), (some 16), none⟩,
    ⟨.move .look (.p 5), (some 17), none⟩,
    ⟨.indexAddr 1 (.t 16) (.p 17), (some 18), none⟩,
    ⟨.load .look false 1 (.p 18), (some 19), none⟩,
    ⟨.convBS (.t 19), (some 20), none⟩,
    ⟨.move .look (.t 1), (some 21), none⟩,
    ⟨.move .look (.p 5), (some 22), none⟩,
    ⟨.indexAddr 1 (.t 21) (.p 22), (some 23), none⟩,
    ⟨.load .look false 1 (.p 23), (some 24), none⟩,
    ⟨.convBS (.t 24), (some 25), none⟩,
    ⟨.bin .neq 2 false (.p 20) (.p 25), (some 26), none⟩]
@[simp] def eq7_1 := id q7_1.eq_1
def q7_2 : List AOper :=
  [⟨.move .take (.p 13), (some 15), none⟩,
    ⟨.assign (.p 15), (some 5), none⟩]
@[simp] def eq7_2 := id q7_2.eq_1
def q7_3 : List AOper :=
  [⟨.move .head (.t 0), (some 11), none⟩,
    ⟨.len false (.p 11), (some 12), none⟩,
    ⟨.move .head (.c (.int .i64 0)), (some 13), none⟩]
@[simp] def eq7_3 := id q7_3.eq_1
def q7_4 : List AOper :=
  [⟨.move .head (.t 0), (some 6), none⟩,
    ⟨.len false (.p 6), (some 7), none⟩,
    ⟨.move .head (.t 1), (some 8), none⟩,
    ⟨.len false (.p 8), (some 9), none⟩,
    ⟨.bin .neq 1 false (.p 7) (.p 9), (some 10), none⟩]
@[simp] def eq7_4 := id q7_4.eq_1
def k7_0 : ACode :=
  .ops [⟨.assign (.c (.bool true)), (some 4), none⟩] .ret
@[simp] theorem xk7_0 : GoC fns Q s k7_0 st ↔ GoO fns Q s [⟨.assign (.c (.bool true)), (some 4), none⟩] .ret st := goC_ops
def k7_1 : ACode :=
  .ops q7_0 .skip
@[simp] theorem xk7_1 : GoC fns Q s k7_1 st ↔ GoO fns Q s q7_0 .skip st := goC_ops
def k7_2 : ACode :=
  .ops [⟨.assign (.c (.bool false)), (some 4), none⟩] .ret
@[simp] theorem xk7_2 : GoC fns Q s k7_2 st ↔ GoO fns Q s [⟨.assign (.c (.bool false)), (some 4), none⟩] .ret st := goC_ops
def k7_3 : ACode :=
  .cond (.p 26) k7_2 .skip
@[simp] theorem xk7_3 : GoC fns Q s k7_3 st ↔ GB fns Q s (peek st (.p 26)) k7_2 .skip st := goC_cond
def k7_4 : ACode :=
  .ops q7_1 k7_3
@[simp] theorem xk7_4 : GoC fns Q s k7_4 st ↔ GoO fns Q s q7_1 k7_3 st := goC_ops
def k7_5 : ACode :=
  .ops q7_2 k7_4
@[simp] theorem xk7_5 : GoC fns Q s k7_5 st ↔ GoO fns Q s q7_2 k7_4 st := goC_ops
def k7_6 : ACode :=
  .block 1 k7_5
@[simp] theorem xk7_6 : GoC fns Q s k7_6 st ↔ GoC fns Q (.bl 1 :: s) k7_5 st := goC_block
def k7_7 : ACode :=
  .seq k7_6 k7_1
@[simp] theorem xk7_7 : GoC fns Q s k7_7 st ↔ GoC fns Q (.sq k7_1 :: s) k7_6 st := goC_seq
def k7_8 : ACode :=
  .cond (.p 14) .skip (.exit 0)
@[simp] theorem xk7_8 : GoC fns Q s k7_8 st ↔ GB fns Q s (peek st (.p 14)) .skip (.exit 0) st := goC_cond
def k7_9 : ACode :=
  .seq k7_8 k7_7
@[simp] theorem xk7_9 : GoC fns Q s k7_9 st ↔ GoC fns Q (.sq k7_7 :: s) k7_8 st := goC_seq
def k7_10 : ACode :=
  .ops [⟨.bin .lss 1 false (.p 13) (.p 12), (some 14), none⟩] k7_9
@[simp] theorem xk7_10 : GoC fns Q s k7_10 st ↔ GoO fns Q s [⟨.bin .lss 1 false (.p 13) (.p 12), (some 14), none⟩] k7_9 st := goC_ops
def lc7_0 : ACode :=
  k7_10
@[simp] theorem xlc7_0 : GoC fns Q s lc7_0 st ↔ GoC fns Q s k7_10 st := Iff.rfl
def k7_12 : ACode :=
  .loop lc7_0
@[simp] theorem xk7_12 : GoC fns Q s k7_12 st ↔ (LoopR fns lc7_0 st fun r => GoE fns Q s r.1 r.2) := goC_loop
def k7_13 : ACode :=
  .block 0 k7_12
@[simp] theorem xk7_13 : GoC fns Q s k7_13 st ↔ GoC fns Q (.bl 0 :: s) k7_12 st := goC_block
def k7_14 : ACode :=
  .seq k7_13 k7_0
@[simp] theorem xk7_14 : GoC fns Q s k7_14 st ↔ GoC fns Q (.sq k7_0 :: s) k7_13 st := goC_seq
def k7_15 : ACode :=
  .ops q7_3 k7_14
@[simp] theorem xk7_15 : GoC fns Q s k7_15 st ↔ GoO fns Q s q7_3 k7_14 st := goC_ops
def k7_16 : ACode :=
  .ops [⟨.assign (.c (.bool false)), (some 4), none⟩] .ret
@[simp] theorem xk7_16 : GoC fns Q s k7_16 st ↔ GoO fns Q s [⟨.assign (.c (.bool false)), (some 4), none⟩] .ret st := goC_ops
def k7_17 : ACode :=
  .cond (.p 10) k7_16 .skip
@[simp] theorem xk7_17 : GoC fns Q s k7_17 st ↔ GB fns Q s (peek st (.p 10)) k7_16 .skip st := goC_cond
def k7_18 : ACode :=
  .seq k7_17 k7_15
@[simp] theorem xk7_18 : GoC fns Q s k7_18 st ↔ GoC fns Q (.sq k7_15 :: s) k7_17 st := goC_seq
def k7_19 : ACode :=
  .ops q7_4 k7_18
@[simp] theorem xk7_19 : GoC fns Q s k7_19 st ↔ GoO fns Q s q7_4 k7_18 st := goC_ops
def k7_20 : ACode :=
  .ops [⟨.assign (.c (.bool false)), (some 4), none⟩] k7_19
@[simp] theorem xk7_20 : GoC fns Q s k7_20 st ↔ GoO fns Q s [⟨.assign (.c (.bool false)), (some 4), none⟩] k7_19 st := goC_ops
def af7 : AFunc := ⟨28, k7_20, [.tmp 4], fun _ _ => none⟩

theorem ok7 : ∃ hs, pFunc Tryz.prog sg hs Tryz.f7 = some af7 := ⟨fun i => 0, by kernel_rfl⟩
def q63_0 : List AOper :=
  [⟨.move .look (.p 0), (some 7), none⟩,
    ⟨.bin .add 2 true (.p 7) (.c (.str [32, 108, 101, 110, 103, 116, 104, 32, 101, 120, 99, 101, 101, 100, 115, 32, 97, 118, 97, 105, 108, 97, 98, 108, 101, 32, 98, 121, 116, 101, 115])), (some 8), none⟩,
    ⟨.mkIface 97 (.p 8), (some 9), none⟩,
    ⟨.assign (.p 9), (some 6), none⟩]
@[simp] def eq63_0 := id q63_0.eq_1
def k63_0 : ACode :=
  .ops q63_0 .ret
@[simp] theorem xk63_0 : GoC fns Q s k63_0 st ↔ GoO fns Q s q63_0 .ret st := goC_ops
def k63_1 : ACode :=
  .ops [⟨.assign (.c (.nilI)), (some 6), none⟩] k63_0
@[simp] theorem xk63_1 : GoC fns Q s k63_1 st ↔ GoO fns Q s [⟨.assign (.c (.nilI)), (some 6), none⟩] k63_0 st := goC_ops
def af63 : AFunc := ⟨10, k63_1, [.tmp 6], fun _ _ => none⟩

theorem ok63 : ∃ hs, pFunc Tryz.prog sg hs Tryz.f63 = some af63 := ⟨fun i => 0, by kernel_rfl⟩
def q43_0 : List AOper :=
  [⟨.move .look (.p 0), (some 5), none⟩,
    ⟨.move .look (.p 1), (some 6), none⟩,
    ⟨.call 63 [(.c (.str [100, 111, 99, 117, 109, 101, 110, 116]), false), (.p 5, false), (.p 6, false)], (some 7), none⟩,
    ⟨.assign (.p 7), (some 4), none⟩]
@[simp] def eq43_0 := id q43_0.eq_1
def k43_0 : ACode :=
  .ops q43_0 .ret
@[simp] theorem xk43_0 : GoC fns Q s k43_0 st ↔ GoO fns Q s q43_0 .ret st := goC_ops
def k43_1 : ACode :=
  .ops [⟨.assign (.c (.nilI)), (some 4), none⟩] k43_0
@[simp] theorem xk43_1 : GoC fns Q s k43_1 st ↔ GoO fns Q s [⟨.assign (.c (.nilI)), (some 4), none⟩] k43_0 st := goC_ops
def af43 : AFunc := ⟨8, k43_1, [.tmp 4], fun _ _ => none⟩

theorem ok43 : ∃ hs, pFunc Tryz.prog sg hs Tryz.f43 = some af43 := ⟨fun i => 0, by kernel_rfl⟩
def q25_0 : List AOper :=
  [⟨.mkIface 97 (.c (.str [100, 111, 99, 117, 109, 101, 110, 116, 32, 111, 114, 32, 97, 114, 114, 97, 121, 32, 101, 110, 100, 32, 105, 115, 32, 109, 105, 115, 115, 105, 110, 103, 32, 110, 117, 108, 108, 32, 98, 121, 116, 101])), (some 75), none⟩,
    ⟨.assign (.p 75), (some 2), none⟩]
@[simp] def eq25_0 := id q25_0.eq_1
def q25_1 : List AOper :=
  [⟨.move .head (.t 4), (some 66), none⟩,
    ⟨.len false (.p 66), (some 67), none⟩,
    ⟨.bin .lss 1 true (.p 67) (.c (.int .i64 1)), (some 68), none⟩,
    ⟨.move .look (.p 68), (some 69), none⟩,
    ⟨.move .look (.t 4), (some 70), (some (69, false))⟩,
    ⟨.indexAddr 1 (.t 70) (.c (.int .i64 0)), (some 71), (some (69, false))⟩,
    ⟨.load .head false 1 (.p 71), (some 72), (some (69, false))⟩,
    ⟨.bin .neq 1 true (.p 72) (.c (.int .u8 0)), (some 73), (some (69, false))⟩,
    ⟨.pick (.p 69) (.c (.bool true)) (.p 73), (some 74), none⟩]
@[simp] def eq25_1 := id q25_1.eq_1
def q25_2 : List AOper :=
  [⟨.move .take (.p 7), (some 65), none⟩,
    ⟨.assign (.p 65), (some 2), none⟩]
@[simp] def eq25_2 := id q25_2.eq_1
def q25_3 : List AOper :=
  [⟨.move .head (.p 7), (some 63), none⟩,
    ⟨.bin .neq 5 true (.p 63) (.c (.nilI)), (some 64), none⟩]
@[simp] def eq25_3 := id q25_3.eq_1
def q25_4 : List AOper :=
  [⟨.move .look (.t 6), (some 61), none⟩,
    ⟨.call 41 [(.t 61, false)], (some 62), none⟩,
    ⟨.assign (.p 62), (some 7), none⟩]
@[simp] def eq25_4 := id q25_4.eq_1
def q25_5 : List AOper :=
  [⟨.move .look (.t 0), (some 57), none⟩,
    ⟨.move .look (.t 4), (some 58), none⟩,
    ⟨.call 39 [(.t 57, false), (.t 58, false)], (some 59), none⟩,
    ⟨.mkIface 93 (.p 59), (some 60), none⟩,
    ⟨.assign (.p 60), (some 2), none⟩]
@[simp] def eq25_5 := id q25_5.eq_1
def q25_6 : List AOper :=
  [⟨.move .look (.p 5), (some 55), none⟩,
    ⟨.un .not (.p 55), (some 56), none⟩]
@[simp] def eq25_6 := id q25_6.eq_1
def q25_7 : List AOper :=
  [⟨.move .look (.p 3), (some 50), none⟩,
    ⟨.move .head (.t 6), (some 51), none⟩,
    ⟨.len false (.p 51), (some 52), none⟩,
    ⟨.convInt .i32 (.p 52), (some 53), none⟩,
    ⟨.bin .sub 1 false (.p 50) (.p 53), (some 54), none⟩,
    ⟨.assign (.p 54), (some 3), none⟩]
@[simp] def eq25_7 := id q25_7.eq_1
def q25_8 : List AOper :=
  [⟨.move .look (.t 4), (some 45), none⟩,
    ⟨.call 40 [(.t 45, false)], (some 46), none⟩,
    ⟨.move .look (.t 46), (some 44), none⟩,
    ⟨.extract 44 0, (some 47), none⟩,
    ⟨.extract 44 1, (some 48), none⟩,
    ⟨.extract 44 2, (some 49), none⟩,
    ⟨.assign (.t 47), (some 6), none⟩,
    ⟨.assign (.t 48), (some 4), none⟩,
    ⟨.assign (.p 49), (some 5), none⟩]
@[simp] def eq25_8 := id q25_8.eq_1
def q25_9 : List AOper :=
  [⟨.move .look (.p 3), (some 42), none⟩,
    ⟨.bin .gtr 1 true (.p 42) (.c (.int .i32 1)), (some 43), none⟩]
@[simp] def eq25_9 := id q25_9.eq_1
def q25_10 : List AOper :=
  [⟨.move .look (.p 3), (some 40), none⟩,
    ⟨.bin .sub 1 true (.p 40) (.c (.int .i32 4)), (some 41), none⟩,
    ⟨.assign (.p 41), (some 3), none⟩]
@[simp] def eq25_10 := id q25_10.eq_1
def q25_11 : List AOper :=
  [⟨.mkIface 97 (.c (.str [100, 111, 99, 117, 109, 101, 110, 116, 32, 111, 114, 32, 97, 114, 114, 97, 121, 32, 101, 110, 100, 32, 105, 115, 32, 109, 105, 115, 115, 105, 110, 103, 32, 110, 117, 108, 108, 32, 98, 121, 116, 101])), (some 39), none⟩,
    ⟨.assign (.p 39), (some 2), none⟩]
@[simp] def eq25_11 := id q25_11.eq_1
def q25_12 : List AOper :=
  [⟨.move .look (.t 0), (some 33), none⟩,
    ⟨.move .look (.p 3), (some 34), none⟩,
    ⟨.bin .sub 1 true (.p 34) (.c (.int .i32 1)), (some 35), none⟩,
    ⟨.indexAddr 1 (.t 33) (.p 35), (some 36), none⟩,
    ⟨.load .head false 1 (.p 36), (some 37), none⟩,
    ⟨.bin .neq 1 true (.p 37) (.c (.int .u8 0)), (some 38), none⟩]
@[simp] def eq25_12 := id q25_12.eq_1
def q25_13 : List AOper :=
  [⟨.mkIface 97 (.c (.str [100, 111, 99, 117, 109, 101, 110, 116, 32, 111, 114, 32, 97, 114, 114, 97, 121, 32, 108, 101, 110, 103, 116, 104, 32, 105, 115, 32, 105, 110, 118, 97, 108, 105, 100])), (some 32), none⟩,
    ⟨.assign (.p 32), (some 2), none⟩]
@[simp] def eq25_13 := id q25_13.eq_1
def q25_14 : List AOper :=
  [⟨.move .look (.p 3), (some 30), none⟩,
    ⟨.bin .lss 1 true (.p 30) (.c (.int .i32 5)), (some 31), none⟩]
@[simp] def eq25_14 := id q25_14.eq_1
def q25_15 : List AOper :=
  [⟨.move .look (.p 3), (some 25), none⟩,
    ⟨.convInt .i64 (.p 25), (some 26), none⟩,
    ⟨.move .head (.t 0), (some 27), none⟩,
    ⟨.len false (.p 27), (some 28), none⟩,
    ⟨.call 43 [(.p 26, false), (.p 28, false)], (some 29), none⟩,
    ⟨.assign (.p 29), (some 2), none⟩]
@[simp] def eq25_15 := id q25_15.eq_1
def q25_16 : List AOper :=
  [⟨.move .look (.p 3), (some 20), none⟩,
    ⟨.convInt .i64 (.p 20), (some 21), none⟩,
    ⟨.move .head (.t 0), (some 22), none⟩,
    ⟨.len false (.p 22), (some 23), none⟩,
    ⟨.bin .gtr 1 false (.p 21) (.p 23), (some 24), none⟩]
@[simp] def eq25_16 := id q25_16.eq_1
def q25_17 : List AOper :=
  [⟨.move .look (.t 0), (some 16), none⟩,
    ⟨.move .look (.t 4), (some 17), none⟩,
    ⟨.call 39 [(.t 16, false), (.t 17, false)], (some 18), none⟩,
    ⟨.mkIface 93 (.p 18), (some 19), none⟩,
    ⟨.assign (.p 19), (some 2), none⟩]
@[simp] def eq25_17 := id q25_17.eq_1
def q25_18 : List AOper :=
  [⟨.move .look (.p 5), (some 14), none⟩,
    ⟨.un .not (.p 14), (some 15), none⟩]
@[simp] def eq25_18 := id q25_18.eq_1
def q25_19 : List AOper :=
  [⟨.move .look (.t 0), (some 9), none⟩,
    ⟨.call 38 [(.t 9, false)], (some 10), none⟩,
    ⟨.move .look (.t 10), (some 8), none⟩,
    ⟨.extract 8 0, (some 11), none⟩,
    ⟨.extract 8 1, (some 12), none⟩,
    ⟨.extract 8 2, (some 13), none⟩,
    ⟨.assign (.p 11), (some 3), none⟩,
    ⟨.assign (.t 12), (some 4), none⟩,
    ⟨.assign (.p 13), (some 5), none⟩]
@[simp] def eq25_19 := id q25_19.eq_1
def k25_0 : ACode :=
  .ops [⟨.assign (.c (.nilI)), (some 2), none⟩] .ret
@[simp] theorem xk25_0 : GoC fns Q s k25_0 st ↔ GoO fns Q s [⟨.assign (.c (.nilI)), (some 2), none⟩] .ret st := goC_ops
def k25_1 : ACode :=
  .ops q25_0 .ret
@[simp] theorem xk25_1 : GoC fns Q s k25_1 st ↔ GoO fns Q s q25_0 .ret st := goC_ops
def k25_2 : ACode :=
  .cond (.p 74) k25_1 .skip
@[simp] theorem xk25_2 : GoC fns Q s k25_2 st ↔ GB fns Q s (peek st (.p 74)) k25_1 .skip st := goC_cond
def k25_3 : ACode :=
  .seq k25_2 k25_0
@[simp] theorem xk25_3 : GoC fns Q s k25_3 st ↔ GoC fns Q (.sq k25_0 :: s) k25_2 st := goC_seq
def k25_4 : ACode :=
  .ops q25_1 k25_3
@[simp] theorem xk25_4 : GoC fns Q s k25_4 st ↔ GoO fns Q s q25_1 k25_3 st := goC_ops
def k25_5 : ACode :=
  .ops q25_2 .ret
@[simp] theorem xk25_5 : GoC fns Q s k25_5 st ↔ GoO fns Q s q25_2 .ret st := goC_ops
def k25_6 : ACode :=
  .cond (.p 64) k25_5 .skip
@[simp] theorem xk25_6 : GoC fns Q s k25_6 st ↔ GB fns Q s (peek st (.p 64)) k25_5 .skip st := goC_cond
def k25_7 : ACode :=
  .ops q25_3 k25_6
@[simp] theorem xk25_7 : GoC fns Q s k25_7 st ↔ GoO fns Q s q25_3 k25_6 st := goC_ops
def k25_8 : ACode :=
  .ops q25_4 k25_7
@[simp] theorem xk25_8 : GoC fns Q s k25_8 st ↔ GoO fns Q s q25_4 k25_7 st := goC_ops
def k25_9 : ACode :=
  .ops q25_5 .ret
@[simp] theorem xk25_9 : GoC fns Q s k25_9 st ↔ GoO fns Q s q25_5 .ret st := goC_ops
def k25_10 : ACode :=
  .cond (.p 56) k25_9 .skip
@[simp] theorem xk25_10 : GoC fns Q s k25_10 st ↔ GB fns Q s (peek st (.p 56)) k25_9 .skip st := goC_cond
def k25_11 : ACode :=
  .seq k25_10 k25_8
@[simp] theorem xk25_11 : GoC fns Q s k25_11 st ↔ GoC fns Q (.sq k25_8 :: s) k25_10 st := goC_seq
def k25_12 : ACode :=
  .ops q25_6 k25_11
@[simp] theorem xk25_12 : GoC fns Q s k25_12 st ↔ GoO fns Q s q25_6 k25_11 st := goC_ops
def k25_13 : ACode :=
  .ops q25_7 k25_12
@[simp] theorem xk25_13 : GoC fns Q s k25_13 st ↔ GoO fns Q s q25_7 k25_12 st := goC_ops
def k25_14 : ACode :=
  .ops q25_8 k25_13
@[simp] theorem xk25_14 : GoC fns Q s k25_14 st ↔ GoO fns Q s q25_8 k25_13 st := goC_ops
def k25_15 : ACode :=
  .block 1 k25_14
@[simp] theorem xk25_15 : GoC fns Q s k25_15 st ↔ GoC fns Q (.bl 1 :: s) k25_14 st := goC_block
def k25_16 : ACode :=
  .cond (.p 43) .skip (.exit 0)
@[simp] theorem xk25_16 : GoC fns Q s k25_16 st ↔ GB fns Q s (peek st (.p 43)) .skip (.exit 0) st := goC_cond
def k25_17 : ACode :=
  .seq k25_16 k25_15
@[simp] theorem xk25_17 : GoC fns Q s k25_17 st ↔ GoC fns Q (.sq k25_15 :: s) k25_16 st := goC_seq
def k25_18 : ACode :=
  .ops q25_9 k25_17
@[simp] theorem xk25_18 : GoC fns Q s k25_18 st ↔ GoO fns Q s q25_9 k25_17 st := goC_ops
def lc25_0 : ACode :=
  k25_18
@[simp] theorem xlc25_0 : GoC fns Q s lc25_0 st ↔ GoC fns Q s k25_18 st := Iff.rfl
def k25_20 : ACode :=
  .loop lc25_0
@[simp] theorem xk25_20 : GoC fns Q s k25_20 st ↔ (LoopR fns lc25_0 st fun r => GoE fns Q s r.1 r.2) := goC_loop
def k25_21 : ACode :=
  .block 0 k25_20
@[simp] theorem xk25_21 : GoC fns Q s k25_21 st ↔ GoC fns Q (.bl 0 :: s) k25_20 st := goC_block
def k25_22 : ACode :=
  .seq k25_21 k25_4
@[simp] theorem xk25_22 : GoC fns Q s k25_22 st ↔ GoC fns Q (.sq k25_4 :: s) k25_21 st := goC_seq
def k25_23 : ACode :=
  .ops [⟨.assign (.c (.slice .nil 0 1 [])), (some 6), none⟩] k25_22
@[simp] theorem xk25_23 : GoC fns Q s k25_23 st ↔ GoO fns Q s [⟨.assign (.c (.slice .nil 0 1 [])), (some 6), none⟩] k25_22 st := goC_ops
def k25_24 : ACode :=
  .ops q25_10 k25_23
@[simp] theorem xk25_24 : GoC fns Q s k25_24 st ↔ GoO fns Q s q25_10 k25_23 st := goC_ops
def k25_25 : ACode :=
  .ops q25_11 .ret
@[simp] theorem xk25_25 : GoC fns Q s k25_25 st ↔ GoO fns Q s q25_11 .ret st := goC_ops
def k25_26 : ACode :=
  .cond (.p 38) k25_25 .skip
@[simp] theorem xk25_26 : GoC fns Q s k25_26 st ↔ GB fns Q s (peek st (.p 38)) k25_25 .skip st := goC_cond
def k25_27 : ACode :=
  .seq k25_26 k25_24
@[simp] theorem xk25_27 : GoC fns Q s k25_27 st ↔ GoC fns Q (.sq k25_24 :: s) k25_26 st := goC_seq
def k25_28 : ACode :=
  .ops q25_12 k25_27
@[simp] theorem xk25_28 : GoC fns Q s k25_28 st ↔ GoO fns Q s q25_12 k25_27 st := goC_ops
def k25_29 : ACode :=
  .ops q25_13 .ret
@[simp] theorem xk25_29 : GoC fns Q s k25_29 st ↔ GoO fns Q s q25_13 .ret st := goC_ops
def k25_30 : ACode :=
  .cond (.p 31) k25_29 .skip
@[simp] theorem xk25_30 : GoC fns Q s k25_30 st ↔ GB fns Q s (peek st (.p 31)) k25_29 .skip st := goC_cond
def k25_31 : ACode :=
  .seq k25_30 k25_28
@[simp] theorem xk25_31 : GoC fns Q s k25_31 st ↔ GoC fns Q (.sq k25_28 :: s) k25_30 st := goC_seq
def k25_32 : ACode :=
  .ops q25_14 k25_31
@[simp] theorem xk25_32 : GoC fns Q s k25_32 st ↔ GoO fns Q s q25_14 k25_31 st := goC_ops
def k25_33 : ACode :=
  .ops q25_15 .ret
@[simp] theorem xk25_33 : GoC fns Q s k25_33 st ↔ GoO fns Q s q25_15 .ret st := goC_ops
def k25_34 : ACode :=
  .cond (.p 24) k25_33 .skip
@[simp] theorem xk25_34 : GoC fns Q s k25_34 st ↔ GB fns Q s (peek st (.p 24)) k25_33 .skip st := goC_cond
def k25_35 : ACode :=
  .seq k25_34 k25_32
@[simp] theorem xk25_35 : GoC fns Q s k25_35 st ↔ GoC fns Q (.sq k25_32 :: s) k25_34 st := goC_seq
def k25_36 : ACode :=
  .ops q25_16 k25_35
@[simp] theorem xk25_36 : GoC fns Q s k25_36 st ↔ GoO fns Q s q25_16 k25_35 st := goC_ops
def k25_37 : ACode :=
  .ops q25_17 .ret
@[simp] theorem xk25_37 : GoC fns Q s k25_37 st ↔ GoO fns Q s q25_17 .ret st := goC_ops
def k25_38 : ACode :=
  .cond (.p 15) k25_37 .skip
@[simp] theorem xk25_38 : GoC fns Q s k25_38 st ↔ GB fns Q s (peek st (.p 15)) k25_37 .skip st := goC_cond
def k25_39 : ACode :=
  .seq k25_38 k25_36
@[simp] theorem xk25_39 : GoC fns Q s k25_39 st ↔ GoC fns Q (.sq k25_36 :: s) k25_38 st := goC_seq
def k25_40 : ACode :=
  .ops q25_18 k25_39
@[simp] theorem xk25_40 : GoC fns Q s k25_40 st ↔ GoO fns Q s q25_18 k25_39 st := goC_ops
def k25_41 : ACode :=
  .ops q25_19 k25_40
@[simp] theorem xk25_41 : GoC fns Q s k25_41 st ↔ GoO fns Q s q25_19 k25_40 st := goC_ops
def k25_42 : ACode :=
  .ops [⟨.assign (.c (.nilI)), (some 2), none⟩] k25_41
@[simp] theorem xk25_42 : GoC fns Q s k25_42 st ↔ GoO fns Q s [⟨.assign (.c (.nilI)), (some 2), none⟩] k25_41 st := goC_ops
def af25 : AFunc := ⟨76, k25_42, [.tmp 2], fun _ _ => none⟩

theorem ok25 : ∃ hs, pFunc Tryz.prog sg hs Tryz.f25 = some af25 := ⟨fun i => 0, by kernel_rfl⟩
def q24_0 : List AOper :=
  [⟨.move .look (.t 0), (some 3), none⟩,
    ⟨.call 25 [(.t 3, false)], (some 4), none⟩,
    ⟨.assign (.p 4), (some 2), none⟩]
@[simp] def eq24_0 := id q24_0.eq_1
def k24_0 : ACode :=
  .ops q24_0 .ret
@[simp] theorem xk24_0 : GoC fns Q s k24_0 st ↔ GoO fns Q s q24_0 .ret st := goC_ops
def k24_1 : ACode :=
  .ops [⟨.assign (.c (.nilI)), (some 2), none⟩] k24_0
@[simp] theorem xk24_1 : GoC fns Q s k24_1 st ↔ GoO fns Q s [⟨.assign (.c (.nilI)), (some 2), none⟩] k24_0 st := goC_ops
def af24 : AFunc := ⟨5, k24_1, [.tmp 2], fun _ _ => none⟩

theorem ok24 : ∃ hs, pFunc Tryz.prog sg hs Tryz.f24 = some af24 := ⟨fun i => 0, by kernel_rfl⟩
def q42_0 : List AOper :=
  [⟨.move .look (.p 0), (some 18), none⟩,
    ⟨.move .look (.p 1), (some 19), none⟩,
    ⟨.move .look (.p 5), (some 20), none⟩,
    ⟨.call 62 [(.p 18, false), (.p 19, false), (.p 20, false)], (some 21), none⟩,
    ⟨.assign (.p 21), (some 4), none⟩]
@[simp] def eq42_0 := id q42_0.eq_1
def q42_1 : List AOper :=
  [⟨.move .look (.p 1), (some 15), none⟩,
    ⟨.call 61 [(.p 15, false)], (some 16), none⟩,
    ⟨.dead, (some 17), none⟩,
    ⟨.assign (.p 17), (some 5), none⟩]
@[simp] def eq42_1 := id q42_1.eq_1
def q42_2 : List AOper :=
  [⟨.move .head (.p 0), (some 12), none⟩,
    ⟨.move .head (.p 1), (some 13), none⟩,
    ⟨.bin .eql 5 false (.p 12) (.p 13), (some 14), none⟩,
    ⟨.assign (.p 14), (some 4), none⟩]
@[simp] def eq42_2 := id q42_2.eq_1
def q42_3 : List AOper :=
  [⟨.move .head (.p 0), (some 6), none⟩,
    ⟨.bin .eql 5 true (.p 6) (.c (.nilI)), (some 7), none⟩,
    ⟨.move .look (.p 7), (some 8), none⟩,
    ⟨.move .head (.p 1), (some 9), (some (8, false))⟩,
    ⟨.bin .eql 5 true (.p 9) (.c (.nilI)), (some 10), (some (8, false))⟩,
    ⟨.pick (.p 8) (.c (.bool true)) (.p 10), (some 11), none⟩]
@[simp] def eq42_3 := id q42_3.eq_1
def k42_0 : ACode :=
  .ops q42_0 .ret
@[simp] theorem xk42_0 : GoC fns Q s k42_0 st ↔ GoO fns Q s q42_0 .ret st := goC_ops
def k42_1 : ACode :=
  .ops q42_1 k42_0
@[simp] theorem xk42_1 : GoC fns Q s k42_1 st ↔ GoO fns Q s q42_1 k42_0 st := goC_ops
def k42_2 : ACode :=
  .ops q42_2 .ret
@[simp] theorem xk42_2 : GoC fns Q s k42_2 st ↔ GoO fns Q s q42_2 .ret st := goC_ops
def k42_3 : ACode :=
  .cond (.p 11) k42_2 .skip
@[simp] theorem xk42_3 : GoC fns Q s k42_3 st ↔ GB fns Q s (peek st (.p 11)) k42_2 .skip st := goC_cond
def k42_4 : ACode :=
  .seq k42_3 k42_1
@[simp] theorem xk42_4 : GoC fns Q s k42_4 st ↔ GoC fns Q (.sq k42_1 :: s) k42_3 st := goC_seq
def k42_5 : ACode :=
  .ops q42_3 k42_4
@[simp] theorem xk42_5 : GoC fns Q s k42_5 st ↔ GoO fns Q s q42_3 k42_4 st := goC_ops
def k42_6 : ACode :=
  .ops [⟨.assign (.c (.bool false)), (some 4), none⟩] k42_5
@[simp] theorem xk42_6 : GoC fns Q s k42_6 st ↔ GoO fns Q s [⟨.assign (.c (.bool false)), (some 4), none⟩] k42_5 st := goC_ops
def af42 : AFunc := ⟨22, k42_6, [.tmp 4], isX⟩

theorem ok42 : ∃ hs, pFunc Tryz.prog sg hs Tryz.f42 = some ⟨af42.n, af42.code, af42.res, fun _ _ => none⟩ := ⟨fun i => 0, by kernel_rfl⟩
def q23_0 : List AOper :=
  [⟨.move .look (.p 0), (some 39), none⟩,
    ⟨.load .look false 1 (.c (.gl 3)), (some 40), none⟩,
    ⟨.call 42 [(.p 39, false), (.p 40, false)], (some 41), none⟩,
    ⟨.assign (.p 41), (some 38), none⟩]
@[simp] def eq23_0 := id q23_0.eq_1
def q23_1 : List AOper :=
  [⟨.move .look (.p 0), (some 35), none⟩,
    ⟨.load .look false 1 (.c (.gl 2)), (some 36), none⟩,
    ⟨.call 42 [(.p 35, false), (.p 36, false)], (some 37), none⟩,
    ⟨.assign (.p 37), (some 34), none⟩]
@[simp] def eq23_1 := id q23_1.eq_1
def q23_2 : List AOper :=
  [⟨.move .look (.p 0), (some 31), none⟩,
    ⟨.load .look false 1 (.c (.gl 1)), (some 32), none⟩,
    ⟨.call 42 [(.p 31, false), (.p 32, false)], (some 33), none⟩,
    ⟨.assign (.p 33), (some 27), none⟩]
@[simp] def eq23_2 := id q23_2.eq_1
def q23_3 : List AOper :=
  [⟨.move .look (.p 0), (some 28), none⟩,
    ⟨.load .look false 1 (.c (.gl 0)), (some 29), none⟩,
    ⟨.call 42 [(.p 28, false), (.p 29, false)], (some 30), none⟩,
    ⟨.assign (.p 30), (some 27), none⟩]
@[simp] def eq23_3 := id q23_3.eq_1
def q23_4 : List AOper :=
  [⟨.newbox 3 [.slice .nil 0 1 [], .slice .nil 0 1 []], (some 3), none⟩,
    ⟨.store 2 (.p 3) (.p 12), none, none⟩]
@[simp] def eq23_4 := id q23_4.eq_1
def q23_5 : List AOper :=
  [⟨.bin .eql 2 true (.p 16) (.c (.str [100, 111, 99, 117, 109, 101, 110, 116, 32, 111, 114, 32, 97, 114, 114, 97, 121, 32, 101, 110, 100, 32, 105, 115, 32, 109, 105, 115, 115, 105, 110, 103, 32, 110, 117, 108, 108, 32, 98, 121, 116, 101])), (some 20), none⟩,
    ⟨.assign (.p 20), (some 19), none⟩]
@[simp] def eq23_5 := id q23_5.eq_1
def q23_6 : List AOper :=
  [⟨.bin .eql 2 true (.p 16) (.c (.str [100, 111, 99, 117, 109, 101, 110, 116, 32, 111, 114, 32, 97, 114, 114, 97, 121, 32, 108, 101, 110, 103, 116, 104, 32, 105, 115, 32, 105, 110, 118, 97, 108, 105, 100])), (some 18), none⟩,
    ⟨.assign (.p 18), (some 17), none⟩]
@[simp] def eq23_6 := id q23_6.eq_1
def q23_7 : List AOper :=
  [⟨.newbox 6 [.str [], .int .u8 0], (some 6), none⟩,
    ⟨.store 2 (.p 6) (.p 26), none, none⟩]
@[simp] def eq23_7 := id q23_7.eq_1
def q23_8 : List AOper :=
  [⟨.px (.tassert 100 (.agg [.str [], .int .u8 0]) true) [.p 9], (some 24), none⟩,
    ⟨.extract 24 1, (some 25), none⟩,
    ⟨.extract 24 0, (some 26), none⟩]
@[simp] def eq23_8 := id q23_8.eq_1
def q23_9 : List AOper :=
  [⟨.px (.tassert 98 (.str []) true) [.p 9], (some 21), none⟩,
    ⟨.extract 21 1, (some 22), none⟩,
    ⟨.extract 21 0, (some 23), none⟩]
@[simp] def eq23_9 := id q23_9.eq_1
def q23_10 : List AOper :=
  [⟨.px (.tassert 97 (.str []) true) [.p 9], (some 13), none⟩,
    ⟨.extract 13 1, (some 14), none⟩,
    ⟨.extract 13 0, (some 15), none⟩]
@[simp] def eq23_10 := id q23_10.eq_1
def q23_11 : List AOper :=
  [⟨.px (.tassert 93 (.agg [.slice .nil 0 1 [], .slice .nil 0 1 []]) true) [.p 9], (some 10), none⟩,
    ⟨.extract 10 1, (some 11), none⟩,
    ⟨.extract 10 0, (some 12), none⟩]
@[simp] def eq23_11 := id q23_11.eq_1
def q23_12 : List AOper :=
  [⟨.move .head (.p 0), (some 7), none⟩,
    ⟨.bin .eql 5 true (.p 7) (.c (.nilI)), (some 8), none⟩]
@[simp] def eq23_12 := id q23_12.eq_1
def k23_0 : ACode :=
  .ops [⟨.assign (.c (.int .i64 9)), (some 2), none⟩] .ret
@[simp] theorem xk23_0 : GoC fns Q s k23_0 st ↔ GoO fns Q s [⟨.assign (.c (.int .i64 9)), (some 2), none⟩] .ret st := goC_ops
def k23_1 : ACode :=
  .ops [⟨.assign (.c (.int .i64 7)), (some 2), none⟩] .ret
@[simp] theorem xk23_1 : GoC fns Q s k23_1 st ↔ GoO fns Q s [⟨.assign (.c (.int .i64 7)), (some 2), none⟩] .ret st := goC_ops
def k23_2 : ACode :=
  .ops [⟨.assign (.c (.int .i64 8)), (some 2), none⟩] .ret
@[simp] theorem xk23_2 : GoC fns Q s k23_2 st ↔ GoO fns Q s [⟨.assign (.c (.int .i64 8)), (some 2), none⟩] .ret st := goC_ops
def k23_3 : ACode :=
  .ops [⟨.assign (.c (.int .i64 11)), (some 2), none⟩] .ret
@[simp] theorem xk23_3 : GoC fns Q s k23_3 st ↔ GoO fns Q s [⟨.assign (.c (.int .i64 11)), (some 2), none⟩] .ret st := goC_ops
def k23_4 : ACode :=
  .cond (.p 38) k23_3 .skip
@[simp] theorem xk23_4 : GoC fns Q s k23_4 st ↔ GB fns Q s (peek st (.p 38)) k23_3 .skip st := goC_cond
def k23_5 : ACode :=
  .ops q23_0 k23_4
@[simp] theorem xk23_5 : GoC fns Q s k23_5 st ↔ GoO fns Q s q23_0 k23_4 st := goC_ops
def k23_6 : ACode :=
  .cond (.p 34) k23_2 k23_5
@[simp] theorem xk23_6 : GoC fns Q s k23_6 st ↔ GB fns Q s (peek st (.p 34)) k23_2 k23_5 st := goC_cond
def k23_7 : ACode :=
  .ops q23_1 k23_6
@[simp] theorem xk23_7 : GoC fns Q s k23_7 st ↔ GoO fns Q s q23_1 k23_6 st := goC_ops
def k23_8 : ACode :=
  .cond (.p 27) k23_1 k23_7
@[simp] theorem xk23_8 : GoC fns Q s k23_8 st ↔ GB fns Q s (peek st (.p 27)) k23_1 k23_7 st := goC_cond
def k23_9 : ACode :=
  .ops q23_2 .skip
@[simp] theorem xk23_9 : GoC fns Q s k23_9 st ↔ GoO fns Q s q23_2 .skip st := goC_ops
def k23_10 : ACode :=
  .cond (.p 27) .skip k23_9
@[simp] theorem xk23_10 : GoC fns Q s k23_10 st ↔ GB fns Q s (peek st (.p 27)) .skip k23_9 st := goC_cond
def k23_11 : ACode :=
  .seq k23_10 k23_8
@[simp] theorem xk23_11 : GoC fns Q s k23_11 st ↔ GoC fns Q (.sq k23_8 :: s) k23_10 st := goC_seq
def k23_12 : ACode :=
  .ops q23_3 k23_11
@[simp] theorem xk23_12 : GoC fns Q s k23_12 st ↔ GoO fns Q s q23_3 k23_11 st := goC_ops
def k23_13 : ACode :=
  .block 2 k23_12
@[simp] theorem xk23_13 : GoC fns Q s k23_13 st ↔ GoC fns Q (.bl 2 :: s) k23_12 st := goC_block
def k23_14 : ACode :=
  .seq k23_13 k23_0
@[simp] theorem xk23_14 : GoC fns Q s k23_14 st ↔ GoC fns Q (.sq k23_0 :: s) k23_13 st := goC_seq
def k23_15 : ACode :=
  .ops [⟨.assign (.c (.int .i64 1)), (some 2), none⟩] .ret
@[simp] theorem xk23_15 : GoC fns Q s k23_15 st ↔ GoO fns Q s [⟨.assign (.c (.int .i64 1)), (some 2), none⟩] .ret st := goC_ops
def k23_16 : ACode :=
  .ops q23_4 k23_15
@[simp] theorem xk23_16 : GoC fns Q s k23_16 st ↔ GoO fns Q s q23_4 k23_15 st := goC_ops
def k23_17 : ACode :=
  .ops [⟨.assign (.c (.int .i64 4)), (some 2), none⟩] .ret
@[simp] theorem xk23_17 : GoC fns Q s k23_17 st ↔ GoO fns Q s [⟨.assign (.c (.int .i64 4)), (some 2), none⟩] .ret st := goC_ops
def k23_18 : ACode :=
  .ops [⟨.assign (.c (.int .i64 2)), (some 2), none⟩] .ret
@[simp] theorem xk23_18 : GoC fns Q s k23_18 st ↔ GoO fns Q s [⟨.assign (.c (.int .i64 2)), (some 2), none⟩] .ret st := goC_ops
def k23_19 : ACode :=
  .ops [⟨.assign (.c (.int .i64 3)), (some 2), none⟩] .ret
@[simp] theorem xk23_19 : GoC fns Q s k23_19 st ↔ GoO fns Q s [⟨.assign (.c (.int .i64 3)), (some 2), none⟩] .ret st := goC_ops
def k23_20 : ACode :=
  .cond (.p 19) k23_19 .skip
@[simp] theorem xk23_20 : GoC fns Q s k23_20 st ↔ GB fns Q s (peek st (.p 19)) k23_19 .skip st := goC_cond
def k23_21 : ACode :=
  .ops q23_5 k23_20
@[simp] theorem xk23_21 : GoC fns Q s k23_21 st ↔ GoO fns Q s q23_5 k23_20 st := goC_ops
def k23_22 : ACode :=
  .cond (.p 17) k23_18 k23_21
@[simp] theorem xk23_22 : GoC fns Q s k23_22 st ↔ GB fns Q s (peek st (.p 17)) k23_18 k23_21 st := goC_cond
def k23_23 : ACode :=
  .ops q23_6 k23_22
@[simp] theorem xk23_23 : GoC fns Q s k23_23 st ↔ GoO fns Q s q23_6 k23_22 st := goC_ops
def k23_24 : ACode :=
  .block 1 k23_23
@[simp] theorem xk23_24 : GoC fns Q s k23_24 st ↔ GoC fns Q (.bl 1 :: s) k23_23 st := goC_block
def k23_25 : ACode :=
  .seq k23_24 k23_17
@[simp] theorem xk23_25 : GoC fns Q s k23_25 st ↔ GoC fns Q (.sq k23_17 :: s) k23_24 st := goC_seq
def k23_26 : ACode :=
  .ops [⟨.move .head (.p 4), (some 16), none⟩] k23_25
@[simp] theorem xk23_26 : GoC fns Q s k23_26 st ↔ GoO fns Q s [⟨.move .head (.p 4), (some 16), none⟩] k23_25 st := goC_ops
def k23_27 : ACode :=
  .ops [⟨.assign (.p 15), (some 4), none⟩] k23_26
@[simp] theorem xk23_27 : GoC fns Q s k23_27 st ↔ GoO fns Q s [⟨.assign (.p 15), (some 4), none⟩] k23_26 st := goC_ops
def k23_28 : ACode :=
  .ops [⟨.assign (.c (.int .i64 5)), (some 2), none⟩] .ret
@[simp] theorem xk23_28 : GoC fns Q s k23_28 st ↔ GoO fns Q s [⟨.assign (.c (.int .i64 5)), (some 2), none⟩] .ret st := goC_ops
def k23_29 : ACode :=
  .ops [⟨.assign (.p 23), (some 5), none⟩] k23_28
@[simp] theorem xk23_29 : GoC fns Q s k23_29 st ↔ GoO fns Q s [⟨.assign (.p 23), (some 5), none⟩] k23_28 st := goC_ops
def k23_30 : ACode :=
  .ops [⟨.assign (.c (.int .i64 10)), (some 2), none⟩] .ret
@[simp] theorem xk23_30 : GoC fns Q s k23_30 st ↔ GoO fns Q s [⟨.assign (.c (.int .i64 10)), (some 2), none⟩] .ret st := goC_ops
def k23_31 : ACode :=
  .ops q23_7 k23_30
@[simp] theorem xk23_31 : GoC fns Q s k23_31 st ↔ GoO fns Q s q23_7 k23_30 st := goC_ops
def k23_32 : ACode :=
  .cond (.p 25) k23_31 .skip
@[simp] theorem xk23_32 : GoC fns Q s k23_32 st ↔ GB fns Q s (peek st (.p 25)) k23_31 .skip st := goC_cond
def k23_33 : ACode :=
  .ops q23_8 k23_32
@[simp] theorem xk23_33 : GoC fns Q s k23_33 st ↔ GoO fns Q s q23_8 k23_32 st := goC_ops
def k23_34 : ACode :=
  .cond (.p 22) k23_29 k23_33
@[simp] theorem xk23_34 : GoC fns Q s k23_34 st ↔ GB fns Q s (peek st (.p 22)) k23_29 k23_33 st := goC_cond
def k23_35 : ACode :=
  .ops q23_9 k23_34
@[simp] theorem xk23_35 : GoC fns Q s k23_35 st ↔ GoO fns Q s q23_9 k23_34 st := goC_ops
def k23_36 : ACode :=
  .cond (.p 14) k23_27 k23_35
@[simp] theorem xk23_36 : GoC fns Q s k23_36 st ↔ GB fns Q s (peek st (.p 14)) k23_27 k23_35 st := goC_cond
def k23_37 : ACode :=
  .ops q23_10 k23_36
@[simp] theorem xk23_37 : GoC fns Q s k23_37 st ↔ GoO fns Q s q23_10 k23_36 st := goC_ops
def k23_38 : ACode :=
  .cond (.p 11) k23_16 k23_37
@[simp] theorem xk23_38 : GoC fns Q s k23_38 st ↔ GB fns Q s (peek st (.p 11)) k23_16 k23_37 st := goC_cond
def k23_39 : ACode :=
  .ops q23_11 k23_38
@[simp] theorem xk23_39 : GoC fns Q s k23_39 st ↔ GoO fns Q s q23_11 k23_38 st := goC_ops
def k23_40 : ACode :=
  .block 0 k23_39
@[simp] theorem xk23_40 : GoC fns Q s k23_40 st ↔ GoC fns Q (.bl 0 :: s) k23_39 st := goC_block
def k23_41 : ACode :=
  .seq k23_40 k23_14
@[simp] theorem xk23_41 : GoC fns Q s k23_41 st ↔ GoC fns Q (.sq k23_14 :: s) k23_40 st := goC_seq
def k23_42 : ACode :=
  .ops [⟨.move .head (.p 0), (some 9), none⟩] k23_41
@[simp] theorem xk23_42 : GoC fns Q s k23_42 st ↔ GoO fns Q s [⟨.move .head (.p 0), (some 9), none⟩] k23_41 st := goC_ops
def k23_43 : ACode :=
  .ops [⟨.assign (.c (.int .i64 0)), (some 2), none⟩] .ret
@[simp] theorem xk23_43 : GoC fns Q s k23_43 st ↔ GoO fns Q s [⟨.assign (.c (.int .i64 0)), (some 2), none⟩] .ret st := goC_ops
def k23_44 : ACode :=
  .cond (.p 8) k23_43 .skip
@[simp] theorem xk23_44 : GoC fns Q s k23_44 st ↔ GB fns Q s (peek st (.p 8)) k23_43 .skip st := goC_cond
def k23_45 : ACode :=
  .seq k23_44 k23_42
@[simp] theorem xk23_45 : GoC fns Q s k23_45 st ↔ GoC fns Q (.sq k23_42 :: s) k23_44 st := goC_seq
def k23_46 : ACode :=
  .ops q23_12 k23_45
@[simp] theorem xk23_46 : GoC fns Q s k23_46 st ↔ GoO fns Q s q23_12 k23_45 st := goC_ops
def k23_47 : ACode :=
  .ops [⟨.assign (.c (.int .i64 0)), (some 2), none⟩] k23_46
@[simp] theorem xk23_47 : GoC fns Q s k23_47 st ↔ GoO fns Q s [⟨.assign (.c (.int .i64 0)), (some 2), none⟩] k23_46 st := goC_ops
def af23 : AFunc := ⟨42, k23_47, [.tmp 2], fun _ _ => none⟩

theorem ok23 : ∃ hs, pFunc Tryz.prog sg hs Tryz.f23 = some af23 := ⟨fun i => 0, by kernel_rfl⟩
def q8_0 : List AOper :=
  [⟨.move .look (.t 0), (some 3), none⟩,
    ⟨.call 24 [(.t 3, false)], (some 4), none⟩,
    ⟨.call 23 [(.p 4, false)], (some 5), none⟩,
    ⟨.assign (.p 5), (some 2), none⟩]
@[simp] def eq8_0 := id q8_0.eq_1
def k8_0 : ACode :=
  .ops q8_0 .ret
@[simp] theorem xk8_0 : GoC fns Q s k8_0 st ↔ GoO fns Q s q8_0 .ret st := goC_ops
def k8_1 : ACode :=
  .ops [⟨.assign (.c (.int .i64 0)), (some 2), none⟩] k8_0
@[simp] theorem xk8_1 : GoC fns Q s k8_1 st ↔ GoO fns Q s [⟨.assign (.c (.int .i64 0)), (some 2), none⟩] k8_0 st := goC_ops
def af8 : AFunc := ⟨6, k8_1, [.tmp 2], fun _ _ => none⟩

theorem ok8 : ∃ hs, pFunc Tryz.prog sg hs Tryz.f8 = some af8 := ⟨fun i => 0, by kernel_rfl⟩
def q9_0 : List AOper :=
  [⟨.move .look (.t 0), (some 3), none⟩,
    ⟨.call 25 [(.t 3, false)], (some 4), none⟩,
    ⟨.call 23 [(.p 4, false)], (some 5), none⟩,
    ⟨.assign (.p 5), (some 2), none⟩]
@[simp] def eq9_0 := id q9_0.eq_1
def k9_0 : ACode :=
  .ops q9_0 .ret
@[simp] theorem xk9_0 : GoC fns Q s k9_0 st ↔ GoO fns Q s q9_0 .ret st := goC_ops
def k9_1 : ACode :=
  .ops [⟨.assign (.c (.int .i64 0)), (some 2), none⟩] k9_0
@[simp] theorem xk9_1 : GoC fns Q s k9_1 st ↔ GoO fns Q s [⟨.assign (.c (.int .i64 0)), (some 2), none⟩] k9_0 st := goC_ops
def af9 : AFunc := ⟨6, k9_1, [.tmp 2], fun _ _ => none⟩

theorem ok9 : ∃ hs, pFunc Tryz.prog sg hs Tryz.f9 = some af9 := ⟨fun i => 0, by kernel_rfl⟩
def q70_0 : List AOper :=
  [⟨.move .look (.p 1), (some 21), none⟩,
    ⟨.move .look (.t 7), (some 22), none⟩,
    ⟨.build [.int .u8 0, .slice .nil 0 1 []] [(0, 1, .p 21), (1, 1, .t 22)], (some 23), none⟩,
    ⟨.move .take (.t 8), (some 24), none⟩,
    ⟨.store 2 (.p 4) (.p 23), none, none⟩,
    ⟨.assign (.t 24), (some 5), none⟩,
    ⟨.assign (.c (.bool true)), (some 6), none⟩]
@[simp] def eq70_0 := id q70_0.eq_1
def q70_1 : List AOper :=
  [⟨.build [.int .u8 0, .slice .nil 0 1 []] [], (some 19), none⟩,
    ⟨.move .take (.t 0), (some 20), none⟩,
    ⟨.store 2 (.p 4) (.p 19), none, none⟩,
    ⟨.assign (.t 20), (some 5), none⟩,
    ⟨.assign (.c (.bool false)), (some 6), none⟩]
@[simp] def eq70_1 := id q70_1.eq_1
def q70_2 : List AOper :=
  [⟨.move .look (.p 9), (some 17), none⟩,
    ⟨.un .not (.p 17), (some 18), none⟩]
@[simp] def eq70_2 := id q70_2.eq_1
def q70_3 : List AOper :=
  [⟨.move .look (.t 0), (some 11), none⟩,
    ⟨.move .look (.p 1), (some 12), none⟩,
    ⟨.call 72 [(.t 11, false), (.p 12, false)], (some 13), none⟩,
    ⟨.move .look (.t 13), (some 10), none⟩,
    ⟨.extract 10 0, (some 14), none⟩,
    ⟨.extract 10 1, (some 15), none⟩,
    ⟨.extract 10 2, (some 16), none⟩,
    ⟨.assign (.t 14), (some 7), none⟩,
    ⟨.assign (.t 15), (some 8), none⟩,
    ⟨.assign (.p 16), (some 9), none⟩]
@[simp] def eq70_3 := id q70_3.eq_1
def q70_4 : List AOper :=
  [⟨.newbox 4 [.int .u8 0, .slice .nil 0 1 []], (some 4), none⟩,
    ⟨.assign (.c (.slice .nil 0 1 [])), (some 5), none⟩,
    ⟨.assign (.c (.bool false)), (some 6), none⟩]
@[simp] def eq70_4 := id q70_4.eq_1
def k70_0 : ACode :=
  .ops q70_0 .ret
@[simp] theorem xk70_0 : GoC fns Q s k70_0 st ↔ GoO fns Q s q70_0 .ret st := goC_ops
def k70_1 : ACode :=
  .ops q70_1 .ret
@[simp] theorem xk70_1 : GoC fns Q s k70_1 st ↔ GoO fns Q s q70_1 .ret st := goC_ops
def k70_2 : ACode :=
  .cond (.p 18) k70_1 .skip
@[simp] theorem xk70_2 : GoC fns Q s k70_2 st ↔ GB fns Q s (peek st (.p 18)) k70_1 .skip st := goC_cond
def k70_3 : ACode :=
  .seq k70_2 k70_0
@[simp] theorem xk70_3 : GoC fns Q s k70_3 st ↔ GoC fns Q (.sq k70_0 :: s) k70_2 st := goC_seq
def k70_4 : ACode :=
  .ops q70_2 k70_3
@[simp] theorem xk70_4 : GoC fns Q s k70_4 st ↔ GoO fns Q s q70_2 k70_3 st := goC_ops
def k70_5 : ACode :=
  .ops q70_3 k70_4
@[simp] theorem xk70_5 : GoC fns Q s k70_5 st ↔ GoO fns Q s q70_3 k70_4 st := goC_ops
def k70_6 : ACode :=
  .ops q70_4 k70_5
@[simp] theorem xk70_6 : GoC fns Q s k70_6 st ↔ GoO fns Q s q70_4 k70_5 st := goC_ops
def af70 : AFunc := ⟨25, k70_6, [.cell 4 true 2, .tmp 5, .tmp 6], fun _ _ => none⟩

theorem ok70 : ∃ hs, pFunc Tryz.prog sg hs Tryz.f70 = some af70 := ⟨fun i => 0, by kernel_rfl⟩
def q56_0 : List AOper :=
  [⟨.load .take true 2 (.p 5), (some 39), none⟩,
    ⟨.store 2 (.p 2) (.p 39), none, none⟩,
    ⟨.assign (.c (.nilI)), (some 3), none⟩]
@[simp] def eq56_0 := id q56_0.eq_1
def q56_1 : List AOper :=
  [⟨.build [.int .u8 0, .slice .nil 0 1 []] [], (some 34), none⟩,
    ⟨.move .look (.t 0), (some 35), none⟩,
    ⟨.move .look (.t 6), (some 36), none⟩,
    ⟨.call 39 [(.t 35, false), (.t 36, false)], (some 37), none⟩,
    ⟨.mkIface 93 (.p 37), (some 38), none⟩,
    ⟨.store 2 (.p 2) (.p 34), none, none⟩,
    ⟨.assign (.p 38), (some 3), none⟩]
@[simp] def eq56_1 := id q56_1.eq_1
def q56_2 : List AOper :=
  [⟨.move .look (.p 7), (some 32), none⟩,
    ⟨.un .not (.p 32), (some 33), none⟩]
@[simp] def eq56_2 := id q56_2.eq_1
def q56_3 : List AOper :=
  [⟨.move .look (.t 0), (some 21), none⟩,
    ⟨.move .look (.p 4), (some 22), none⟩,
    ⟨.bin .add 1 true (.p 22) (.c (.int .i64 2)), (some 23), none⟩,
    ⟨.sliceSl 1 (.t 21) (some (.p 23)) none, (some 24), none⟩,
    ⟨.move .look (.t 0), (some 25), none⟩,
    ⟨.indexAddr 1 (.t 25) (.c (.int .i64 0)), (some 26), none⟩,
    ⟨.load .look false 1 (.p 26), (some 27), none⟩,
    ⟨.call 70 [(.t 24, false), (.p 27, false)], (some 28), none⟩,
    ⟨.move .look (.t 28), (some 20), none⟩,
    ⟨.extract 20 0, (some 29), none⟩,
    ⟨.extract 20 1, (some 30), none⟩,
    ⟨.extract 20 2, (some 31), none⟩,
    ⟨.newbox1 5 [.int .u8 0, .slice .nil 0 1 []], (some 5), none⟩,
    ⟨.store 2 (.p 5) (.p 29), none, none⟩,
    ⟨.assign (.t 30), (some 6), none⟩,
    ⟨.assign (.p 31), (some 7), none⟩]
@[simp] def eq56_3 := id q56_3.eq_1
def q56_4 : List AOper :=
  [⟨.build [.int .u8 0, .slice .nil 0 1 []] [], (some 18), none⟩,
    ⟨.mkIface 98 (.c (.str [101, 108, 101, 109, 101, 110, 116, 32, 105, 115, 32, 109, 105, 115, 115, 105, 110, 103, 32, 107, 101, 121])), (some 19), none⟩,
    ⟨.store 2 (.p 2) (.p 18), none, none⟩,
    ⟨.assign (.p 19), (some 3), none⟩]
@[simp] def eq56_4 := id q56_4.eq_1
def q56_5 : List AOper :=
  [⟨.move .head (.p 4), (some 16), none⟩,
    ⟨.bin .eql 1 true (.p 16) (.c (.int .i64 (-1))), (some 17), none⟩]
@[simp] def eq56_5 := id q56_5.eq_1
def q56_6 : List AOper :=
  [⟨.move .look (.t 0), (some 13), none⟩,
    ⟨.sliceSl 1 (.t 13) (some (.c (.int .i64 1))) none, (some 14), none⟩,
    ⟨.call 59 [(.t 14, false), (.c (.int .u8 0), false)], (some 15), none⟩,
    ⟨.assign (.p 15), (some 4), none⟩]
@[simp] def eq56_6 := id q56_6.eq_1
def q56_7 : List AOper :=
  [⟨.build [.int .u8 0, .slice .nil 0 1 []] [], (some 11), none⟩,
    ⟨.mkIface 98 (.c (.str [101, 108, 101, 109, 101, 110, 116, 32, 105, 115, 32, 109, 105, 115, 115, 105, 110, 103, 32, 116, 121, 112, 101])), (some 12), none⟩,
    ⟨.store 2 (.p 2) (.p 11), none, none⟩,
    ⟨.assign (.p 12), (some 3), none⟩]
@[simp] def eq56_7 := id q56_7.eq_1
def q56_8 : List AOper :=
  [⟨.move .head (.t 0), (some 8), none⟩,
    ⟨.len false (.p 8), (some 9), none⟩,
    ⟨.bin .eql 1 true (.p 9) (.c (.int .i64 0)), (some 10), none⟩]
@[simp] def eq56_8 := id q56_8.eq_1
def q56_9 : List AOper :=
  [⟨.newbox 2 [.int .u8 0, .slice .nil 0 1 []], (some 2), none⟩,
    ⟨.assign (.c (.nilI)), (some 3), none⟩]
@[simp] def eq56_9 := id q56_9.eq_1
def k56_0 : ACode :=
  .ops q56_0 .ret
@[simp] theorem xk56_0 : GoC fns Q s k56_0 st ↔ GoO fns Q s q56_0 .ret st := goC_ops
def k56_1 : ACode :=
  .ops q56_1 .ret
@[simp] theorem xk56_1 : GoC fns Q s k56_1 st ↔ GoO fns Q s q56_1 .ret st := goC_ops
def k56_2 : ACode :=
  .cond (.p 33) k56_1 .skip
@[simp] theorem xk56_2 : GoC fns Q s k56_2 st ↔ GB fns Q s (peek st (.p 33)) k56_1 .skip st := goC_cond
def k56_3 : ACode :=
  .seq k56_2 k56_0
@[simp] theorem xk56_3 : GoC fns Q s k56_3 st ↔ GoC fns Q (.sq k56_0 :: s) k56_2 st := goC_seq
def k56_4 : ACode :=
  .ops q56_2 k56_3
@[simp] theorem xk56_4 : GoC fns Q s k56_4 st ↔ GoO fns Q s q56_2 k56_3 st := goC_ops
def k56_5 : ACode :=
  .ops q56_3 k56_4
@[simp] theorem xk56_5 : GoC fns Q s k56_5 st ↔ GoO fns Q s q56_3 k56_4 st := goC_ops
def k56_6 : ACode :=
  .ops q56_4 .ret
@[simp] theorem xk56_6 : GoC fns Q s k56_6 st ↔ GoO fns Q s q56_4 .ret st := goC_ops
def k56_7 : ACode :=
  .cond (.p 17) k56_6 .skip
@[simp] theorem xk56_7 : GoC fns Q s k56_7 st ↔ GB fns Q s (peek st (.p 17)) k56_6 .skip st := goC_cond
def k56_8 : ACode :=
  .seq k56_7 k56_5
@[simp] theorem xk56_8 : GoC fns Q s k56_8 st ↔ GoC fns Q (.sq k56_5 :: s) k56_7 st := goC_seq
def k56_9 : ACode :=
  .ops q56_5 k56_8
@[simp] theorem xk56_9 : GoC fns Q s k56_9 st ↔ GoO fns Q s q56_5 k56_8 st := goC_ops
def k56_10 : ACode :=
  .ops q56_6 k56_9
@[simp] theorem xk56_10 : GoC fns Q s k56_10 st ↔ GoO fns Q s q56_6 k56_9 st := goC_ops
def k56_11 : ACode :=
  .ops q56_7 .ret
@[simp] theorem xk56_11 : GoC fns Q s k56_11 st ↔ GoO fns Q s q56_7 .ret st := goC_ops
def k56_12 : ACode :=
  .cond (.p 10) k56_11 .skip
@[simp] theorem xk56_12 : GoC fns Q s k56_12 st ↔ GB fns Q s (peek st (.p 10)) k56_11 .skip st := goC_cond
def k56_13 : ACode :=
  .seq k56_12 k56_10
@[simp] theorem xk56_13 : GoC fns Q s k56_13 st ↔ GoC fns Q (.sq k56_10 :: s) k56_12 st := goC_seq
def k56_14 : ACode :=
  .ops q56_8 k56_13
@[simp] theorem xk56_14 : GoC fns Q s k56_14 st ↔ GoO fns Q s q56_8 k56_13 st := goC_ops
def k56_15 : ACode :=
  .ops q56_9 k56_14
@[simp] theorem xk56_15 : GoC fns Q s k56_15 st ↔ GoO fns Q s q56_9 k56_14 st := goC_ops
def af56 : AFunc := ⟨40, k56_15, [.cell 2 true 2, .tmp 3], fun _ _ => none⟩

theorem ok56 : ∃ hs, pFunc Tryz.prog sg hs Tryz.f56 = some af56 := ⟨fun i => if i == 5 then 4 else 0, by kernel_rfl⟩
def q52_0 : List AOper :=
  [⟨.load .take true 2 (.p 3), (some 10), none⟩,
    ⟨.store 2 (.p 2) (.p 10), none, none⟩]
@[simp] def eq52_0 := id q52_0.eq_1
def q52_1 : List AOper :=
  [⟨.move .look (.t 0), (some 6), none⟩,
    ⟨.call 56 [(.t 6, false)], (some 7), none⟩,
    ⟨.move .look (.t 7), (some 5), none⟩,
    ⟨.extract 5 0, (some 8), none⟩,
    ⟨.extract 5 1, (some 9), none⟩,
    ⟨.newbox 3 [.int .u8 0, .slice .nil 0 1 []], (some 3), none⟩,
    ⟨.store 2 (.p 3) (.p 8), none, none⟩,
    ⟨.assign (.p 9), (some 4), none⟩]
@[simp] def eq52_1 := id q52_1.eq_1
def k52_0 : ACode :=
  .ops q52_0 .ret
@[simp] theorem xk52_0 : GoC fns Q s k52_0 st ↔ GoO fns Q s q52_0 .ret st := goC_ops
def k52_1 : ACode :=
  .ops q52_1 k52_0
@[simp] theorem xk52_1 : GoC fns Q s k52_1 st ↔ GoO fns Q s q52_1 k52_0 st := goC_ops
def k52_2 : ACode :=
  .ops [⟨.newbox 2 [.int .u8 0, .slice .nil 0 1 []], (some 2), none⟩] k52_1
@[simp] theorem xk52_2 : GoC fns Q s k52_2 st ↔ GoO fns Q s [⟨.newbox 2 [.int .u8 0, .slice .nil 0 1 []], (some 2), none⟩] k52_1 st := goC_ops
def af52 : AFunc := ⟨11, k52_2, [.cell 2 true 2], fun _ _ => none⟩

theorem ok52 : ∃ hs, pFunc Tryz.prog sg hs Tryz.f52 = some af52 := ⟨fun i => 0, by kernel_rfl⟩
def q45_0 : List AOper :=
  [⟨.move .take (.t 8), (some 56), none⟩,
    ⟨.assign (.t 56), (some 2), none⟩,
    ⟨.assign (.c (.nilI)), (some 3), none⟩]
@[simp] def eq45_0 := id q45_0.eq_1
def q45_1 : List AOper :=
  [⟨.move .take (.t 8), (some 51), none⟩,
    ⟨.move .look (.t 7), (some 52), none⟩,
    ⟨.call 52 [(.t 52, false)], (some 53), none⟩,
    ⟨.buildSl 86 2 [.int .u8 0, .slice .nil 0 1 []] [(0, 2, .p 53)], (some 54), none⟩,
    ⟨.append 86 2 32 false (.t 51) (.p 54), (some 55), none⟩,
    ⟨.assign (.t 55), (some 8), none⟩]
@[simp] def eq45_1 := id q45_1.eq_1
def q45_2 : List AOper :=
  [⟨.move .take (.t 8), (some 49), none⟩,
    ⟨.move .take (.p 9), (some 50), none⟩,
    ⟨.assign (.t 49), (some 2), none⟩,
    ⟨.assign (.p 50), (some 3), none⟩]
@[simp] def eq45_2 := id q45_2.eq_1
def q45_3 : List AOper :=
  [⟨.move .head (.p 9), (some 47), none⟩,
    ⟨.bin .neq 5 true (.p 47) (.c (.nilI)), (some 48), none⟩]
@[simp] def eq45_3 := id q45_3.eq_1
def q45_4 : List AOper :=
  [⟨.move .look (.t 7), (some 44), none⟩,
    ⟨.call 52 [(.t 44, false)], (some 45), none⟩,
    ⟨.call 60 [(.p 45, false)], (some 46), none⟩,
    ⟨.assign (.p 46), (some 9), none⟩]
@[simp] def eq45_4 := id q45_4.eq_1
def q45_5 : List AOper :=
  [⟨.move .take (.t 8), (some 39), none⟩,
    ⟨.move .look (.t 0), (some 40), none⟩,
    ⟨.move .look (.t 5), (some 41), none⟩,
    ⟨.call 39 [(.t 40, false), (.t 41, false)], (some 42), none⟩,
    ⟨.mkIface 93 (.p 42), (some 43), none⟩,
    ⟨.assign (.t 39), (some 2), none⟩,
    ⟨.assign (.p 43), (some 3), none⟩]
@[simp] def eq45_5 := id q45_5.eq_1
def q45_6 : List AOper :=
  [⟨.move .look (.p 6), (some 37), none⟩,
    ⟨.un .not (.p 37), (some 38), none⟩]
@[simp] def eq45_6 := id q45_6.eq_1
def q45_7 : List AOper :=
  [⟨.move .look (.p 4), (some 32), none⟩,
    ⟨.move .head (.t 7), (some 33), none⟩,
    ⟨.len false (.p 33), (some 34), none⟩,
    ⟨.convInt .i32 (.p 34), (some 35), none⟩,
    ⟨.bin .sub 1 false (.p 32) (.p 35), (some 36), none⟩,
    ⟨.assign (.p 36), (some 4), none⟩]
@[simp] def eq45_7 := id q45_7.eq_1
def q45_8 : List AOper :=
  [⟨.move .look (.t 5), (some 27), none⟩,
    ⟨.call 40 [(.t 27, false)], (some 28), none⟩,
    ⟨.move .look (.t 28), (some 26), none⟩,
    ⟨.extract 26 0, (some 29), none⟩,
    ⟨.extract 26 1, (some 30), none⟩,
    ⟨.extract 26 2, (some 31), none⟩,
    ⟨.assign (.t 29), (some 7), none⟩,
    ⟨.assign (.t 30), (some 5), none⟩,
    ⟨.assign (.p 31), (some 6), none⟩]
@[simp] def eq45_8 := id q45_8.eq_1
def q45_9 : List AOper :=
  [⟨.move .look (.p 4), (some 24), none⟩,
    ⟨.bin .gtr 1 true (.p 24) (.c (.int .i32 1)), (some 25), none⟩]
@[simp] def eq45_9 := id q45_9.eq_1
def q45_10 : List AOper :=
  [⟨.move .look (.p 4), (some 22), none⟩,
    ⟨.bin .sub 1 true (.p 22) (.c (.int .i32 4)), (some 23), none⟩,
    ⟨.assign (.p 23), (some 4), none⟩]
@[simp] def eq45_10 := id q45_10.eq_1
def q45_11 : List AOper :=
  [⟨.move .look (.t 0), (some 18), none⟩,
    ⟨.move .look (.t 5), (some 19), none⟩,
    ⟨.call 39 [(.t 18, false), (.t 19, false)], (some 20), none⟩,
    ⟨.mkIface 93 (.p 20), (some 21), none⟩,
    ⟨.assign (.c (.slice .nil 0 1 [])), (some 2), none⟩,
    ⟨.assign (.p 21), (some 3), none⟩]
@[simp] def eq45_11 := id q45_11.eq_1
def q45_12 : List AOper :=
  [⟨.move .look (.p 6), (some 16), none⟩,
    ⟨.un .not (.p 16), (some 17), none⟩]
@[simp] def eq45_12 := id q45_12.eq_1
def q45_13 : List AOper :=
  [⟨.move .look (.t 0), (some 11), none⟩,
    ⟨.call 38 [(.t 11, false)], (some 12), none⟩,
    ⟨.move .look (.t 12), (some 10), none⟩,
    ⟨.extract 10 0, (some 13), none⟩,
    ⟨.extract 10 1, (some 14), none⟩,
    ⟨.extract 10 2, (some 15), none⟩,
    ⟨.assign (.p 13), (some 4), none⟩,
    ⟨.assign (.t 14), (some 5), none⟩,
    ⟨.assign (.p 15), (some 6), none⟩]
@[simp] def eq45_13 := id q45_13.eq_1
def q45_14 : List AOper :=
  [⟨.assign (.c (.slice .nil 0 1 [])), (some 2), none⟩,
    ⟨.assign (.c (.nilI)), (some 3), none⟩]
@[simp] def eq45_14 := id q45_14.eq_1
def k45_0 : ACode :=
  .ops q45_0 .ret
@[simp] theorem xk45_0 : GoC fns Q s k45_0 st ↔ GoO fns Q s q45_0 .ret st := goC_ops
def k45_1 : ACode :=
  .ops q45_1 .skip
@[simp] theorem xk45_1 : GoC fns Q s k45_1 st ↔ GoO fns Q s q45_1 .skip st := goC_ops
def k45_2 : ACode :=
  .ops q45_2 .ret
@[simp] theorem xk45_2 : GoC fns Q s k45_2 st ↔ GoO fns Q s q45_2 .ret st := goC_ops
def k45_3 : ACode :=
  .cond (.p 48) k45_2 .skip
@[simp] theorem xk45_3 : GoC fns Q s k45_3 st ↔ GB fns Q s (peek st (.p 48)) k45_2 .skip st := goC_cond
def k45_4 : ACode :=
  .seq k45_3 k45_1
@[simp] theorem xk45_4 : GoC fns Q s k45_4 st ↔ GoC fns Q (.sq k45_1 :: s) k45_3 st := goC_seq
def k45_5 : ACode :=
  .ops q45_3 k45_4
@[simp] theorem xk45_5 : GoC fns Q s k45_5 st ↔ GoO fns Q s q45_3 k45_4 st := goC_ops
def k45_6 : ACode :=
  .ops q45_4 k45_5
@[simp] theorem xk45_6 : GoC fns Q s k45_6 st ↔ GoO fns Q s q45_4 k45_5 st := goC_ops
def k45_7 : ACode :=
  .ops q45_5 .ret
@[simp] theorem xk45_7 : GoC fns Q s k45_7 st ↔ GoO fns Q s q45_5 .ret st := goC_ops
def k45_8 : ACode :=
  .cond (.p 38) k45_7 .skip
@[simp] theorem xk45_8 : GoC fns Q s k45_8 st ↔ GB fns Q s (peek st (.p 38)) k45_7 .skip st := goC_cond
def k45_9 : ACode :=
  .seq k45_8 k45_6
@[simp] theorem xk45_9 : GoC fns Q s k45_9 st ↔ GoC fns Q (.sq k45_6 :: s) k45_8 st := goC_seq
def k45_10 : ACode :=
  .ops q45_6 k45_9
@[simp] theorem xk45_10 : GoC fns Q s k45_10 st ↔ GoO fns Q s q45_6 k45_9 st := goC_ops
def k45_11 : ACode :=
  .ops q45_7 k45_10
@[simp] theorem xk45_11 : GoC fns Q s k45_11 st ↔ GoO fns Q s q45_7 k45_10 st := goC_ops
def k45_12 : ACode :=
  .ops q45_8 k45_11
@[simp] theorem xk45_12 : GoC fns Q s k45_12 st ↔ GoO fns Q s q45_8 k45_11 st := goC_ops
def k45_13 : ACode :=
  .block 1 k45_12
@[simp] theorem xk45_13 : GoC fns Q s k45_13 st ↔ GoC fns Q (.bl 1 :: s) k45_12 st := goC_block
def k45_14 : ACode :=
  .cond (.p 25) .skip (.exit 0)
@[simp] theorem xk45_14 : GoC fns Q s k45_14 st ↔ GB fns Q s (peek st (.p 25)) .skip (.exit 0) st := goC_cond
def k45_15 : ACode :=
  .seq k45_14 k45_13
@[simp] theorem xk45_15 : GoC fns Q s k45_15 st ↔ GoC fns Q (.sq k45_13 :: s) k45_14 st := goC_seq
def k45_16 : ACode :=
  .ops q45_9 k45_15
@[simp] theorem xk45_16 : GoC fns Q s k45_16 st ↔ GoO fns Q s q45_9 k45_15 st := goC_ops
def lc45_0 : ACode :=
  k45_16
@[simp] theorem xlc45_0 : GoC fns Q s lc45_0 st ↔ GoC fns Q s k45_16 st := Iff.rfl
def k45_18 : ACode :=
  .loop lc45_0
@[simp] theorem xk45_18 : GoC fns Q s k45_18 st ↔ (LoopR fns lc45_0 st fun r => GoE fns Q s r.1 r.2) := goC_loop
def k45_19 : ACode :=
  .block 0 k45_18
@[simp] theorem xk45_19 : GoC fns Q s k45_19 st ↔ GoC fns Q (.bl 0 :: s) k45_18 st := goC_block
def k45_20 : ACode :=
  .seq k45_19 k45_0
@[simp] theorem xk45_20 : GoC fns Q s k45_20 st ↔ GoC fns Q (.sq k45_0 :: s) k45_19 st := goC_seq
def k45_21 : ACode :=
  .ops [⟨.assign (.c (.slice .nil 0 1 [])), (some 8), none⟩] k45_20
@[simp] theorem xk45_21 : GoC fns Q s k45_21 st ↔ GoO fns Q s [⟨.assign (.c (.slice .nil 0 1 [])), (some 8), none⟩] k45_20 st := goC_ops
def k45_22 : ACode :=
  .ops [⟨.assign (.c (.slice .nil 0 1 [])), (some 7), none⟩] k45_21
@[simp] theorem xk45_22 : GoC fns Q s k45_22 st ↔ GoO fns Q s [⟨.assign (.c (.slice .nil 0 1 [])), (some 7), none⟩] k45_21 st := goC_ops
def k45_23 : ACode :=
  .ops q45_10 k45_22
@[simp] theorem xk45_23 : GoC fns Q s k45_23 st ↔ GoO fns Q s q45_10 k45_22 st := goC_ops
def k45_24 : ACode :=
  .ops q45_11 .ret
@[simp] theorem xk45_24 : GoC fns Q s k45_24 st ↔ GoO fns Q s q45_11 .ret st := goC_ops
def k45_25 : ACode :=
  .cond (.p 17) k45_24 .skip
@[simp] theorem xk45_25 : GoC fns Q s k45_25 st ↔ GB fns Q s (peek st (.p 17)) k45_24 .skip st := goC_cond
def k45_26 : ACode :=
  .seq k45_25 k45_23
@[simp] theorem xk45_26 : GoC fns Q s k45_26 st ↔ GoC fns Q (.sq k45_23 :: s) k45_25 st := goC_seq
def k45_27 : ACode :=
  .ops q45_12 k45_26
@[simp] theorem xk45_27 : GoC fns Q s k45_27 st ↔ GoO fns Q s q45_12 k45_26 st := goC_ops
def k45_28 : ACode :=
  .ops q45_13 k45_27
@[simp] theorem xk45_28 : GoC fns Q s k45_28 st ↔ GoO fns Q s q45_13 k45_27 st := goC_ops
def k45_29 : ACode :=
  .ops q45_14 k45_28
@[simp] theorem xk45_29 : GoC fns Q s k45_29 st ↔ GoO fns Q s q45_14 k45_28 st := goC_ops
def af45 : AFunc := ⟨57, k45_29, [.tmp 2, .tmp 3], fun _ _ => none⟩

theorem ok45 : ∃ hs, pFunc Tryz.prog sg hs Tryz.f45 = some af45 := ⟨fun i => 0, by kernel_rfl⟩
def q28_0 : List AOper :=
  [⟨.move .look (.t 0), (some 4), none⟩,
    ⟨.call 45 [(.t 4, false)], (some 5), none⟩,
    ⟨.extract 5 0, (some 6), none⟩,
    ⟨.extract 5 1, (some 7), none⟩,
    ⟨.assign (.t 6), (some 2), none⟩,
    ⟨.assign (.p 7), (some 3), none⟩]
@[simp] def eq28_0 := id q28_0.eq_1
def q28_1 : List AOper :=
  [⟨.assign (.c (.slice .nil 0 1 [])), (some 2), none⟩,
    ⟨.assign (.c (.nilI)), (some 3), none⟩]
@[simp] def eq28_1 := id q28_1.eq_1
def k28_0 : ACode :=
  .ops q28_0 .ret
@[simp] theorem xk28_0 : GoC fns Q s k28_0 st ↔ GoO fns Q s q28_0 .ret st := goC_ops
def k28_1 : ACode :=
  .ops q28_1 k28_0
@[simp] theorem xk28_1 : GoC fns Q s k28_1 st ↔ GoO fns Q s q28_1 k28_0 st := goC_ops
def af28 : AFunc := ⟨8, k28_1, [.tmp 2, .tmp 3], fun _ _ => none⟩

theorem ok28 : ∃ hs, pFunc Tryz.prog sg hs Tryz.f28 = some af28 := ⟨fun i => 0, by kernel_rfl⟩
def q44_0 : List AOper :=
  [⟨.fieldAddr 0 (.p 1), (some 3), none⟩,
    ⟨.load .look false 1 (.p 3), (some 4), none⟩,
    ⟨.fieldAddr 1 (.p 1), (some 5), none⟩,
    ⟨.load .look false 1 (.p 5), (some 6), none⟩,
    ⟨.build [.int .u8 0, .slice .nil 0 1 []] [(0, 1, .p 4), (1, 1, .t 6)], (some 7), none⟩,
    ⟨.store 2 (.p 2) (.p 7), none, none⟩]
@[simp] def eq44_0 := id q44_0.eq_1
def q44_1 : List AOper :=
  [⟨.box 1 (.p 0), (some 1), none⟩,
    ⟨.newbox 2 [.int .u8 0, .slice .nil 0 1 []], (some 2), none⟩]
@[simp] def eq44_1 := id q44_1.eq_1
def k44_0 : ACode :=
  .ops q44_0 .ret
@[simp] theorem xk44_0 : GoC fns Q s k44_0 st ↔ GoO fns Q s q44_0 .ret st := goC_ops
def k44_1 : ACode :=
  .ops q44_1 k44_0
@[simp] theorem xk44_1 : GoC fns Q s k44_1 st ↔ GoO fns Q s q44_1 k44_0 st := goC_ops
def af44 : AFunc := ⟨8, k44_1, [.cell 2 true 2], fun _ _ => none⟩

theorem ok44 : ∃ hs, pFunc Tryz.prog sg hs Tryz.f44 = some af44 := ⟨fun i => 0, by kernel_rfl⟩
def q26_0 : List AOper :=
  [⟨.move .take (.t 6), (some 29), none⟩,
    ⟨.move .take (.p 5), (some 30), none⟩,
    ⟨.assign (.t 29), (some 2), none⟩,
    ⟨.assign (.p 30), (some 3), none⟩]
@[simp] def eq26_0 := id q26_0.eq_1
def q26_1 : List AOper :=
  [⟨.bin .add 1 true (.p 19) (.c (.int .i64 1)), (some 28), none⟩,
    ⟨.move .look (.p 28), (some 19), none⟩]
@[simp] def eq26_1 := id q26_1.eq_1
def q26_2 : List AOper :=
  [⟨.move .take (.t 6), (some 23), none⟩,
    ⟨.load .look true 2 (.p 8), (some 24), none⟩,
    ⟨.call 44 [(.p 24, false)], (some 25), none⟩,
    ⟨.buildSl 80 2 [.int .u8 0, .slice .nil 0 1 []] [(0, 2, .p 25)], (some 26), none⟩,
    ⟨.append 80 2 32 false (.t 23) (.p 26), (some 27), none⟩,
    ⟨.assign (.t 27), (some 6), none⟩]
@[simp] def eq26_2 := id q26_2.eq_1
def q26_3 : List AOper :=
  [⟨.indexAddr 2 (.t 17) (.p 19), (some 21), none⟩,
    ⟨.load .take true 2 (.p 21), (some 22), none⟩,
    ⟨.newbox 8 [.int .u8 0, .slice .nil 0 1 []], (some 8), none⟩,
    ⟨.store 2 (.p 8) (.p 22), none, none⟩]
@[simp] def eq26_3 := id q26_3.eq_1
def q26_4 : List AOper :=
  [⟨.move .look (.t 4), (some 17), none⟩,
    ⟨.len false (.p 17), (some 18), none⟩,
    ⟨.move .head (.c (.int .i64 0)), (some 19), none⟩]
@[simp] def eq26_4 := id q26_4.eq_1
def q26_5 : List AOper :=
  [⟨.move .head (.t 4), (some 14), none⟩,
    ⟨.len false (.p 14), (some 15), none⟩,
    ⟨.mkSl false 80 2 32 [.int .u8 0, .slice .nil 0 1 []] (.c (.int .i64 0)) (.p 15), (some 16), none⟩,
    ⟨.assign (.t 16), (some 6), none⟩]
@[simp] def eq26_5 := id q26_5.eq_1
def q26_6 : List AOper :=
  [⟨.move .look (.t 0), (some 10), none⟩,
    ⟨.call 28 [(.t 10, false)], (some 11), none⟩,
    ⟨.move .look (.t 11), (some 9), none⟩,
    ⟨.extract 9 0, (some 12), none⟩,
    ⟨.extract 9 1, (some 13), none⟩,
    ⟨.assign (.t 12), (some 4), none⟩,
    ⟨.assign (.p 13), (some 5), none⟩]
@[simp] def eq26_6 := id q26_6.eq_1
def q26_7 : List AOper :=
  [⟨.assign (.c (.slice .nil 0 1 [])), (some 2), none⟩,
    ⟨.assign (.c (.nilI)), (some 3), none⟩]
@[simp] def eq26_7 := id q26_7.eq_1
def k26_0 : ACode :=
  .ops q26_0 .ret
@[simp] theorem xk26_0 : GoC fns Q s k26_0 st ↔ GoO fns Q s q26_0 .ret st := goC_ops
def k26_1 : ACode :=
  .ops q26_1 .skip
@[simp] theorem xk26_1 : GoC fns Q s k26_1 st ↔ GoO fns Q s q26_1 .skip st := goC_ops
def k26_2 : ACode :=
  .ops q26_2 .skip
@[simp] theorem xk26_2 : GoC fns Q s k26_2 st ↔ GoO fns Q s q26_2 .skip st := goC_ops
def k26_3 : ACode :=
  .ops q26_3 k26_2
@[simp] theorem xk26_3 : GoC fns Q s k26_3 st ↔ GoO fns Q s q26_3 k26_2 st := goC_ops
def k26_4 : ACode :=
  .block 1 k26_3
@[simp] theorem xk26_4 : GoC fns Q s k26_4 st ↔ GoC fns Q (.bl 1 :: s) k26_3 st := goC_block
def k26_5 : ACode :=
  .seq k26_4 k26_1
@[simp] theorem xk26_5 : GoC fns Q s k26_5 st ↔ GoC fns Q (.sq k26_1 :: s) k26_4 st := goC_seq
def k26_6 : ACode :=
  .cond (.p 20) .skip (.exit 0)
@[simp] theorem xk26_6 : GoC fns Q s k26_6 st ↔ GB fns Q s (peek st (.p 20)) .skip (.exit 0) st := goC_cond
def k26_7 : ACode :=
  .seq k26_6 k26_5
@[simp] theorem xk26_7 : GoC fns Q s k26_7 st ↔ GoC fns Q (.sq k26_5 :: s) k26_6 st := goC_seq
def k26_8 : ACode :=
  .ops [⟨.bin .lss 1 false (.p 19) (.p 18), (some 20), none⟩] k26_7
@[simp] theorem xk26_8 : GoC fns Q s k26_8 st ↔ GoO fns Q s [⟨.bin .lss 1 false (.p 19) (.p 18), (some 20), none⟩] k26_7 st := goC_ops
def lc26_0 : ACode :=
  k26_8
@[simp] theorem xlc26_0 : GoC fns Q s lc26_0 st ↔ GoC fns Q s k26_8 st := Iff.rfl
def k26_10 : ACode :=
  .loop lc26_0
@[simp] theorem xk26_10 : GoC fns Q s k26_10 st ↔ (LoopR fns lc26_0 st fun r => GoE fns Q s r.1 r.2) := goC_loop
def k26_11 : ACode :=
  .block 0 k26_10
@[simp] theorem xk26_11 : GoC fns Q s k26_11 st ↔ GoC fns Q (.bl 0 :: s) k26_10 st := goC_block
def k26_12 : ACode :=
  .seq k26_11 k26_0
@[simp] theorem xk26_12 : GoC fns Q s k26_12 st ↔ GoC fns Q (.sq k26_0 :: s) k26_11 st := goC_seq
def k26_13 : ACode :=
  .ops q26_4 k26_12
@[simp] theorem xk26_13 : GoC fns Q s k26_13 st ↔ GoO fns Q s q26_4 k26_12 st := goC_ops
def k26_14 : ACode :=
  .ops q26_5 k26_13
@[simp] theorem xk26_14 : GoC fns Q s k26_14 st ↔ GoO fns Q s q26_5 k26_13 st := goC_ops
def k26_15 : ACode :=
  .ops q26_6 k26_14
@[simp] theorem xk26_15 : GoC fns Q s k26_15 st ↔ GoO fns Q s q26_6 k26_14 st := goC_ops
def k26_16 : ACode :=
  .ops q26_7 k26_15
@[simp] theorem xk26_16 : GoC fns Q s k26_16 st ↔ GoO fns Q s q26_7 k26_15 st := goC_ops
def af26 : AFunc := ⟨31, k26_16, [.tmp 2, .tmp 3], fun _ _ => none⟩

theorem ok26 : ∃ hs, pFunc Tryz.prog sg hs Tryz.f26 = some af26 := ⟨fun i => if i == 17 then 5 else 0, by kernel_rfl⟩
def q35_0 : List AOper :=
  [⟨.fieldAddr 0 (.p 1), (some 3), none⟩,
    ⟨.load .look false 1 (.p 3), (some 4), none⟩,
    ⟨.convInt .i64 (.p 4), (some 5), none⟩,
    ⟨.fieldAddr 1 (.p 1), (some 6), none⟩,
    ⟨.load .look false 1 (.p 6), (some 7), none⟩,
    ⟨.call 21 [(.t 7, false)], (some 8), none⟩,
    ⟨.build [.int .i64 0, .slice .nil 0 1 []] [(0, 1, .p 5), (1, 1, .t 8)], (some 9), none⟩,
    ⟨.store 2 (.p 2) (.p 9), none, none⟩]
@[simp] def eq35_0 := id q35_0.eq_1
def q35_1 : List AOper :=
  [⟨.box 1 (.p 0), (some 1), none⟩,
    ⟨.newbox 2 [.int .i64 0, .slice .nil 0 1 []], (some 2), none⟩]
@[simp] def eq35_1 := id q35_1.eq_1
def k35_0 : ACode :=
  .ops q35_0 .ret
@[simp] theorem xk35_0 : GoC fns Q s k35_0 st ↔ GoO fns Q s q35_0 .ret st := goC_ops
def k35_1 : ACode :=
  .ops q35_1 k35_0
@[simp] theorem xk35_1 : GoC fns Q s k35_1 st ↔ GoO fns Q s q35_1 k35_0 st := goC_ops
def af35 : AFunc := ⟨10, k35_1, [.cell 2 true 2], fun _ _ => none⟩

theorem ok35 : ∃ hs, pFunc Tryz.prog sg hs Tryz.f35 = some af35 := ⟨fun i => 0, by kernel_rfl⟩
def q27_0 : List AOper :=
  [⟨.move .take (.t 3), (some 18), none⟩,
    ⟨.assign (.t 18), (some 2), none⟩]
@[simp] def eq27_0 := id q27_0.eq_1
def q27_1 : List AOper :=
  [⟨.bin .add 1 true (.p 8) (.c (.int .i64 1)), (some 17), none⟩,
    ⟨.move .look (.p 17), (some 8), none⟩]
@[simp] def eq27_1 := id q27_1.eq_1
def q27_2 : List AOper :=
  [⟨.move .take (.t 3), (some 12), none⟩,
    ⟨.load .look true 2 (.p 5), (some 13), none⟩,
    ⟨.call 35 [(.p 13, false)], (some 14), none⟩,
    ⟨.buildSl 39 2 [.int .i64 0, .slice .nil 0 1 []] [(0, 2, .p 14)], (some 15), none⟩,
    ⟨.append 39 2 32 false (.t 12) (.p 15), (some 16), none⟩,
    ⟨.assign (.t 16), (some 3), none⟩]
@[simp] def eq27_2 := id q27_2.eq_1
def q27_3 : List AOper :=
  [⟨.indexAddr 2 (.t 6) (.p 8), (some 10), none⟩,
    ⟨.load .take true 2 (.p 10), (some 11), none⟩,
    ⟨.newbox 5 [.int .u8 0, .slice .nil 0 1 []], (some 5), none⟩,
    ⟨.store 2 (.p 5) (.p 11), none, none⟩]
@[simp] def eq27_3 := id q27_3.eq_1
def q27_4 : List AOper :=
  [⟨.move .look (.t 0), (some 6), none⟩,
    ⟨.len false (.p 6), (some 7), none⟩,
    ⟨.move .head (.c (.int .i64 0)), (some 8), none⟩]
@[simp] def eq27_4 := id q27_4.eq_1
def k27_0 : ACode :=
  .ops q27_0 .ret
@[simp] theorem xk27_0 : GoC fns Q s k27_0 st ↔ GoO fns Q s q27_0 .ret st := goC_ops
def k27_1 : ACode :=
  .ops q27_1 .skip
@[simp] theorem xk27_1 : GoC fns Q s k27_1 st ↔ GoO fns Q s q27_1 .skip st := goC_ops
def k27_2 : ACode :=
  .ops q27_2 .skip
@[simp] theorem xk27_2 : GoC fns Q s k27_2 st ↔ GoO fns Q s q27_2 .skip st := goC_ops
def k27_3 : ACode :=
  .ops q27_3 k27_2
@[simp] theorem xk27_3 : GoC fns Q s k27_3 st ↔ GoO fns Q s q27_3 k27_2 st := goC_ops
def k27_4 : ACode :=
  .block 1 k27_3
@[simp] theorem xk27_4 : GoC fns Q s k27_4 st ↔ GoC fns Q (.bl 1 :: s) k27_3 st := goC_block
def k27_5 : ACode :=
  .seq k27_4 k27_1
@[simp] theorem xk27_5 : GoC fns Q s k27_5 st ↔ GoC fns Q (.sq k27_1 :: s) k27_4 st := goC_seq
def k27_6 : ACode :=
  .cond (.p 9) .skip (.exit 0)
@[simp] theorem xk27_6 : GoC fns Q s k27_6 st ↔ GB fns Q s (peek st (.p 9)) .skip (.exit 0) st := goC_cond
def k27_7 : ACode :=
  .seq k27_6 k27_5
@[simp] theorem xk27_7 : GoC fns Q s k27_7 st ↔ GoC fns Q (.sq k27_5 :: s) k27_6 st := goC_seq
def k27_8 : ACode :=
  .ops [⟨.bin .lss 1 false (.p 8) (.p 7), (some 9), none⟩] k27_7
@[simp] theorem xk27_8 : GoC fns Q s k27_8 st ↔ GoO fns Q s [⟨.bin .lss 1 false (.p 8) (.p 7), (some 9), none⟩] k27_7 st := goC_ops
def lc27_0 : ACode :=
  k27_8
@[simp] theorem xlc27_0 : GoC fns Q s lc27_0 st ↔ GoC fns Q s k27_8 st := Iff.rfl
def k27_10 : ACode :=
  .loop lc27_0
@[simp] theorem xk27_10 : GoC fns Q s k27_10 st ↔ (LoopR fns lc27_0 st fun r => GoE fns Q s r.1 r.2) := goC_loop
def k27_11 : ACode :=
  .block 0 k27_10
@[simp] theorem xk27_11 : GoC fns Q s k27_11 st ↔ GoC fns Q (.bl 0 :: s) k27_10 st := goC_block
def k27_12 : ACode :=
  .seq k27_11 k27_0
@[simp] theorem xk27_12 : GoC fns Q s k27_12 st ↔ GoC fns Q (.sq k27_0 :: s) k27_11 st := goC_seq
def k27_13 : ACode :=
  .ops q27_4 k27_12
@[simp] theorem xk27_13 : GoC fns Q s k27_13 st ↔ GoO fns Q s q27_4 k27_12 st := goC_ops
def k27_14 : ACode :=
  .ops [⟨.assign (.c (.slice .nil 0 1 [])), (some 3), none⟩] k27_13
@[simp] theorem xk27_14 : GoC fns Q s k27_14 st ↔ GoO fns Q s [⟨.assign (.c (.slice .nil 0 1 [])), (some 3), none⟩] k27_13 st := goC_ops
def k27_15 : ACode :=
  .ops [⟨.assign (.c (.slice .nil 0 1 [])), (some 2), none⟩] k27_14
@[simp] theorem xk27_15 : GoC fns Q s k27_15 st ↔ GoO fns Q s [⟨.assign (.c (.slice .nil 0 1 [])), (some 2), none⟩] k27_14 st := goC_ops
def af27 : AFunc := ⟨19, k27_15, [.tmp 2], fun _ _ => none⟩

theorem ok27 : ∃ hs, pFunc Tryz.prog sg hs Tryz.f27 = some af27 := ⟨fun i => if i == 6 then 5 else 0, by kernel_rfl⟩
def q10_0 : List AOper :=
  [⟨.move .look (.t 4), (some 11), none⟩,
    ⟨.move .head (.p 5), (some 13), none⟩,
    ⟨.bin .eql 5 true (.p 13) (.c (.nilI)), (some 14), none⟩,
    ⟨.call 27 [(.t 11, false)], (some 12), none⟩,
    ⟨.assign (.t 12), (some 2), none⟩,
    ⟨.assign (.p 14), (some 3), none⟩]
@[simp] def eq10_0 := id q10_0.eq_1
def q10_1 : List AOper :=
  [⟨.move .look (.t 0), (some 7), none⟩,
    ⟨.call 26 [(.t 7, false)], (some 8), none⟩,
    ⟨.move .look (.t 8), (some 6), none⟩,
    ⟨.extract 6 0, (some 9), none⟩,
    ⟨.extract 6 1, (some 10), none⟩,
    ⟨.assign (.t 9), (some 4), none⟩,
    ⟨.assign (.p 10), (some 5), none⟩]
@[simp] def eq10_1 := id q10_1.eq_1
def q10_2 : List AOper :=
  [⟨.assign (.c (.slice .nil 0 1 [])), (some 2), none⟩,
    ⟨.assign (.c (.bool false)), (some 3), none⟩]
@[simp] def eq10_2 := id q10_2.eq_1
def k10_0 : ACode :=
  .ops q10_0 .ret
@[simp] theorem xk10_0 : GoC fns Q s k10_0 st ↔ GoO fns Q s q10_0 .ret st := goC_ops
def k10_1 : ACode :=
  .ops q10_1 k10_0
@[simp] theorem xk10_1 : GoC fns Q s k10_1 st ↔ GoO fns Q s q10_1 k10_0 st := goC_ops
def k10_2 : ACode :=
  .ops q10_2 k10_1
@[simp] theorem xk10_2 : GoC fns Q s k10_2 st ↔ GoO fns Q s q10_2 k10_1 st := goC_ops
def af10 : AFunc := ⟨15, k10_2, [.tmp 2, .tmp 3], fun _ _ => none⟩

theorem ok10 : ∃ hs, pFunc Tryz.prog sg hs Tryz.f10 = some af10 := ⟨fun i => 0, by kernel_rfl⟩
def q37_0 : List AOper :=
  [⟨.fieldAddr 0 (.p 1), (some 3), none⟩,
    ⟨.load .look false 1 (.p 3), (some 4), none⟩,
    ⟨.convInt .i64 (.p 4), (some 5), none⟩,
    ⟨.fieldAddr 1 (.p 1), (some 6), none⟩,
    ⟨.load .look false 1 (.p 6), (some 7), none⟩,
    ⟨.call 21 [(.t 7, false)], (some 8), none⟩,
    ⟨.build [.int .i64 0, .slice .nil 0 1 []] [(0, 1, .p 5), (1, 1, .t 8)], (some 9), none⟩,
    ⟨.store 2 (.p 2) (.p 9), none, none⟩]
@[simp] def eq37_0 := id q37_0.eq_1
def q37_1 : List AOper :=
  [⟨.box 1 (.p 0), (some 1), none⟩,
    ⟨.newbox 2 [.int .i64 0, .slice .nil 0 1 []], (some 2), none⟩]
@[simp] def eq37_1 := id q37_1.eq_1
def k37_0 : ACode :=
  .ops q37_0 .ret
@[simp] theorem xk37_0 : GoC fns Q s k37_0 st ↔ GoO fns Q s q37_0 .ret st := goC_ops
def k37_1 : ACode :=
  .ops q37_1 k37_0
@[simp] theorem xk37_1 : GoC fns Q s k37_1 st ↔ GoO fns Q s q37_1 k37_0 st := goC_ops
def af37 : AFunc := ⟨10, k37_1, [.cell 2 true 2], fun _ _ => none⟩

theorem ok37 : ∃ hs, pFunc Tryz.prog sg hs Tryz.f37 = some af37 := ⟨fun i => 0, by kernel_rfl⟩
def q29_0 : List AOper :=
  [⟨.move .take (.t 3), (some 18), none⟩,
    ⟨.assign (.t 18), (some 2), none⟩]
@[simp] def eq29_0 := id q29_0.eq_1
def q29_1 : List AOper :=
  [⟨.bin .add 1 true (.p 8) (.c (.int .i64 1)), (some 17), none⟩,
    ⟨.move .look (.p 17), (some 8), none⟩]
@[simp] def eq29_1 := id q29_1.eq_1
def q29_2 : List AOper :=
  [⟨.move .take (.t 3), (some 12), none⟩,
    ⟨.load .look true 2 (.p 5), (some 13), none⟩,
    ⟨.call 37 [(.p 13, false)], (some 14), none⟩,
    ⟨.buildSl 39 2 [.int .i64 0, .slice .nil 0 1 []] [(0, 2, .p 14)], (some 15), none⟩,
    ⟨.append 39 2 32 false (.t 12) (.p 15), (some 16), none⟩,
    ⟨.assign (.t 16), (some 3), none⟩]
@[simp] def eq29_2 := id q29_2.eq_1
def q29_3 : List AOper :=
  [⟨.indexAddr 2 (.t 6) (.p 8), (some 10), none⟩,
    ⟨.load .take true 2 (.p 10), (some 11), none⟩,
    ⟨.newbox 5 [.int .u8 0, .slice .nil 0 1 []], (some 5), none⟩,
    ⟨.store 2 (.p 5) (.p 11), none, none⟩]
@[simp] def eq29_3 := id q29_3.eq_1
def q29_4 : List AOper :=
  [⟨.move .look (.t 0), (some 6), none⟩,
    ⟨.len false (.p 6), (some 7), none⟩,
    ⟨.move .head (.c (.int .i64 0)), (some 8), none⟩]
@[simp] def eq29_4 := id q29_4.eq_1
def k29_0 : ACode :=
  .ops q29_0 .ret
@[simp] theorem xk29_0 : GoC fns Q s k29_0 st ↔ GoO fns Q s q29_0 .ret st := goC_ops
def k29_1 : ACode :=
  .ops q29_1 .skip
@[simp] theorem xk29_1 : GoC fns Q s k29_1 st ↔ GoO fns Q s q29_1 .skip st := goC_ops
def k29_2 : ACode :=
  .ops q29_2 .skip
@[simp] theorem xk29_2 : GoC fns Q s k29_2 st ↔ GoO fns Q s q29_2 .skip st := goC_ops
def k29_3 : ACode :=
  .ops q29_3 k29_2
@[simp] theorem xk29_3 : GoC fns Q s k29_3 st ↔ GoO fns Q s q29_3 k29_2 st := goC_ops
def k29_4 : ACode :=
  .block 1 k29_3
@[simp] theorem xk29_4 : GoC fns Q s k29_4 st ↔ GoC fns Q (.bl 1 :: s) k29_3 st := goC_block
def k29_5 : ACode :=
  .seq k29_4 k29_1
@[simp] theorem xk29_5 : GoC fns Q s k29_5 st ↔ GoC fns Q (.sq k29_1 :: s) k29_4 st := goC_seq
def k29_6 : ACode :=
  .cond (.p 9) .skip (.exit 0)
@[simp] theorem xk29_6 : GoC fns Q s k29_6 st ↔ GB fns Q s (peek st (.p 9)) .skip (.exit 0) st := goC_cond
def k29_7 : ACode :=
  .seq k29_6 k29_5
@[simp] theorem xk29_7 : GoC fns Q s k29_7 st ↔ GoC fns Q (.sq k29_5 :: s) k29_6 st := goC_seq
def k29_8 : ACode :=
  .ops [⟨.bin .lss 1 false (.p 8) (.p 7), (some 9), none⟩] k29_7
@[simp] theorem xk29_8 : GoC fns Q s k29_8 st ↔ GoO fns Q s [⟨.bin .lss 1 false (.p 8) (.p 7), (some 9), none⟩] k29_7 st := goC_ops
def lc29_0 : ACode :=
  k29_8
@[simp] theorem xlc29_0 : GoC fns Q s lc29_0 st ↔ GoC fns Q s k29_8 st := Iff.rfl
def k29_10 : ACode :=
  .loop lc29_0
@[simp] theorem xk29_10 : GoC fns Q s k29_10 st ↔ (LoopR fns lc29_0 st fun r => GoE fns Q s r.1 r.2) := goC_loop
def k29_11 : ACode :=
  .block 0 k29_10
@[simp] theorem xk29_11 : GoC fns Q s k29_11 st ↔ GoC fns Q (.bl 0 :: s) k29_10 st := goC_block
def k29_12 : ACode :=
  .seq k29_11 k29_0
@[simp] theorem xk29_12 : GoC fns Q s k29_12 st ↔ GoC fns Q (.sq k29_0 :: s) k29_11 st := goC_seq
def k29_13 : ACode :=
  .ops q29_4 k29_12
@[simp] theorem xk29_13 : GoC fns Q s k29_13 st ↔ GoO fns Q s q29_4 k29_12 st := goC_ops
def k29_14 : ACode :=
  .ops [⟨.assign (.c (.slice .nil 0 1 [])), (some 3), none⟩] k29_13
@[simp] theorem xk29_14 : GoC fns Q s k29_14 st ↔ GoO fns Q s [⟨.assign (.c (.slice .nil 0 1 [])), (some 3), none⟩] k29_13 st := goC_ops
def k29_15 : ACode :=
  .ops [⟨.assign (.c (.slice .nil 0 1 [])), (some 2), none⟩] k29_14
@[simp] theorem xk29_15 : GoC fns Q s k29_15 st ↔ GoO fns Q s [⟨.assign (.c (.slice .nil 0 1 [])), (some 2), none⟩] k29_14 st := goC_ops
def af29 : AFunc := ⟨19, k29_15, [.tmp 2], fun _ _ => none⟩

theorem ok29 : ∃ hs, pFunc Tryz.prog sg hs Tryz.f29 = some af29 := ⟨fun i => if i == 6 then 5 else 0, by kernel_rfl⟩
def q11_0 : List AOper :=
  [⟨.move .look (.t 4), (some 11), none⟩,
    ⟨.move .head (.p 5), (some 13), none⟩,
    ⟨.bin .eql 5 true (.p 13) (.c (.nilI)), (some 14), none⟩,
    ⟨.call 29 [(.t 11, false)], (some 12), none⟩,
    ⟨.assign (.t 12), (some 2), none⟩,
    ⟨.assign (.p 14), (some 3), none⟩]
@[simp] def eq11_0 := id q11_0.eq_1
def q11_1 : List AOper :=
  [⟨.move .look (.t 0), (some 7), none⟩,
    ⟨.call 28 [(.t 7, false)], (some 8), none⟩,
    ⟨.move .look (.t 8), (some 6), none⟩,
    ⟨.extract 6 0, (some 9), none⟩,
    ⟨.extract 6 1, (some 10), none⟩,
    ⟨.assign (.t 9), (some 4), none⟩,
    ⟨.assign (.p 10), (some 5), none⟩]
@[simp] def eq11_1 := id q11_1.eq_1
def q11_2 : List AOper :=
  [⟨.assign (.c (.slice .nil 0 1 [])), (some 2), none⟩,
    ⟨.assign (.c (.bool false)), (some 3), none⟩]
@[simp] def eq11_2 := id q11_2.eq_1
def k11_0 : ACode :=
  .ops q11_0 .ret
@[simp] theorem xk11_0 : GoC fns Q s k11_0 st ↔ GoO fns Q s q11_0 .ret st := goC_ops
def k11_1 : ACode :=
  .ops q11_1 k11_0
@[simp] theorem xk11_1 : GoC fns Q s k11_1 st ↔ GoO fns Q s q11_1 k11_0 st := goC_ops
def k11_2 : ACode :=
  .ops q11_2 k11_1
@[simp] theorem xk11_2 : GoC fns Q s k11_2 st ↔ GoO fns Q s q11_2 k11_1 st := goC_ops
def af11 : AFunc := ⟨15, k11_2, [.tmp 2, .tmp 3], fun _ _ => none⟩

theorem ok11 : ∃ hs, pFunc Tryz.prog sg hs Tryz.f11 = some af11 := ⟨fun i => 0, by kernel_rfl⟩
def q19_0 : List AOper :=
  [⟨.fieldAddr 0 (.p 2), (some 5), none⟩,
    ⟨.load .head false 1 (.p 5), (some 6), none⟩,
    ⟨.fieldAddr 0 (.p 3), (some 7), none⟩,
    ⟨.load .head false 1 (.p 7), (some 8), none⟩,
    ⟨.bin .eql 1 false (.p 6) (.p 8), (some 9), none⟩,
    ⟨.move .look (.p 9), (some 10), none⟩,
    ⟨.fieldAddr 1 (.p 2), (some 11), (some (10, true))⟩,
    ⟨.load .look false 1 (.p 11), (some 12), (some (10, true))⟩,
    ⟨.convBS (.t 12), (some 13), (some (10, true))⟩,
    ⟨.fieldAddr 1 (.p 3), (some 14), (some (10, true))⟩,
    ⟨.load .look false 1 (.p 14), (some 15), (some (10, true))⟩,
    ⟨.convBS (.t 15), (some 16), (some (10, true))⟩,
    ⟨.bin .eql 2 false (.p 13) (.p 16), (some 17), (some (10, true))⟩,
    ⟨.pick (.p 10) (.p 17) (.c (.bool false)), (some 18), none⟩,
    ⟨.assign (.p 18), (some 4), none⟩]
@[simp] def eq19_0 := id q19_0.eq_1
def q19_1 : List AOper :=
  [⟨.box 2 (.p 0), (some 2), none⟩,
    ⟨.box 3 (.p 1), (some 3), none⟩,
    ⟨.assign (.c (.bool false)), (some 4), none⟩]
@[simp] def eq19_1 := id q19_1.eq_1
def k19_0 : ACode :=
  .ops q19_0 .ret
@[simp] theorem xk19_0 : GoC fns Q s k19_0 st ↔ GoO fns Q s q19_0 .ret st := goC_ops
def k19_1 : ACode :=
  .ops q19_1 k19_0
@[simp] theorem xk19_1 : GoC fns Q s k19_1 st ↔ GoO fns Q s q19_1 k19_0 st := goC_ops
def af19 : AFunc := ⟨19, k19_1, [.tmp 4], fun _ _ => none⟩

theorem ok19 : ∃ hs, pFunc Tryz.prog sg hs Tryz.f19 = some af19 := ⟨fun i => 0, by kernel_rfl⟩
def q12_0 : List AOper :=
  [⟨.bin .add 1 true (.p 13) (.c (.int .i64 1)), (some 26), none⟩,
    ⟨.move .look (.p 26), (some 13), none⟩]
@[simp] def eq12_0 := id q12_0.eq_1
def q12_1 : List AOper :=
  [⟨.move .look (.t 0), (some 16), none⟩,
    ⟨.move .look (.p 5), (some 17), none⟩,
    ⟨.indexAddr 2 (.t 16) (.p 17), (some 18), none⟩,
    ⟨.load .look true 2 (.p 18), (some 19), none⟩,
    ⟨.move .look (.t 1), (some 20), none⟩,
    ⟨.move .look (.p 5), (some 21), none⟩,
    ⟨.indexAddr 2 (.t 20) (.p 21), (some 22), none⟩,
    ⟨.load .look true 2 (.p 22), (some 23), none⟩,
    ⟨.call 19 [(.p 19, false), (.p 23, false)], (some 24), none⟩,
    ⟨.un .not (.p 24), (some 25), none⟩]
@[simp] def eq12_1 := id q12_1.eq_1
def q12_2 : List AOper :=
  [⟨.move .take (.p 13), (some 15), none⟩,
    ⟨.assign (.p 15), (some 5), none⟩]
@[simp] def eq12_2 := id q12_2.eq_1
def q12_3 : List AOper :=
  [⟨.move .head (.t 0), (some 11), none⟩,
    ⟨.len false (.p 11), (some 12), none⟩,
    ⟨.move .head (.c (.int .i64 0)), (some 13), none⟩]
@[simp] def eq12_3 := id q12_3.eq_1
def q12_4 : List AOper :=
  [⟨.move .head (.t 0), (some 6), none⟩,
    ⟨.len false (.p 6), (some 7), none⟩,
    ⟨.move .head (.t 1), (some 8), none⟩,
    ⟨.len false (.p 8), (some 9), none⟩,
    ⟨.bin .neq 1 false (.p 7) (.p 9), (some 10), none⟩]
@[simp] def eq12_4 := id q12_4.eq_1
def k12_0 : ACode :=
  .ops [⟨.assign (.c (.bool true)), (some 4), none⟩] .ret
@[simp] theorem xk12_0 : GoC fns Q s k12_0 st ↔ GoO fns Q s [⟨.assign (.c (.bool true)), (some 4), none⟩] .ret st := goC_ops
def k12_1 : ACode :=
  .ops q12_0 .skip
@[simp] theorem xk12_1 : GoC fns Q s k12_1 st ↔ GoO fns Q s q12_0 .skip st := goC_ops
def k12_2 : ACode :=
  .ops [⟨.assign (.c (.bool false)), (some 4), none⟩] .ret
@[simp] theorem xk12_2 : GoC fns Q s k12_2 st ↔ GoO fns Q s [⟨.assign (.c (.bool false)), (some 4), none⟩] .ret st := goC_ops
def k12_3 : ACode :=
  .cond (.p 25) k12_2 .skip
@[simp] theorem xk12_3 : GoC fns Q s k12_3 st ↔ GB fns Q s (peek st (.p 25)) k12_2 .skip st := goC_cond
def k12_4 : ACode :=
  .ops q12_1 k12_3
@[simp] theorem xk12_4 : GoC fns Q s k12_4 st ↔ GoO fns Q s q12_1 k12_3 st := goC_ops
def k12_5 : ACode :=
  .ops q12_2 k12_4
@[simp] theorem xk12_5 : GoC fns Q s k12_5 st ↔ GoO fns Q s q12_2 k12_4 st := goC_ops
def k12_6 : ACode :=
  .block 1 k12_5
@[simp] theorem xk12_6 : GoC fns Q s k12_6 st ↔ GoC fns Q (.bl 1 :: s) k12_5 st := goC_block
def k12_7 : ACode :=
  .seq k12_6 k12_1
@[simp] theorem xk12_7 : GoC fns Q s k12_7 st ↔ GoC fns Q (.sq k12_1 :: s) k12_6 st := goC_seq
def k12_8 : ACode :=
  .cond (.p 14) .skip (.exit 0)
@[simp] theorem xk12_8 : GoC fns Q s k12_8 st ↔ GB fns Q s (peek st (.p 14)) .skip (.exit 0) st := goC_cond
def k12_9 : ACode :=
  .seq k12_8 k12_7
@[simp] theorem xk12_9 : GoC fns Q s k12_9 st ↔ GoC fns Q (.sq k12_7 :: s) k12_8 st := goC_seq
def k12_10 : ACode :=
  .ops [⟨.bin .lss 1 false (.p 13) (.p 12), (some 14), none⟩] k12_9
@[simp] theorem xk12_10 : GoC fns Q s k12_10 st ↔ GoO fns Q s [⟨.bin .lss 1 false (.p 13) (.p 12), (some 14), none⟩] k12_9 st := goC_ops
def lc12_0 : ACode :=
  k12_10
@[simp] theorem xlc12_0 : GoC fns Q s lc12_0 st ↔ GoC fns Q s k12_10 st := Iff.rfl
def k12_12 : ACode :=
  .loop lc12_0
@[simp] theorem xk12_12 : GoC fns Q s k12_12 st ↔ (LoopR fns lc12_0 st fun r => GoE fns Q s r.1 r.2) := goC_loop
def k12_13 : ACode :=
  .block 0 k12_12
@[simp] theorem xk12_13 : GoC fns Q s k12_13 st ↔ GoC fns Q (.bl 0 :: s) k12_12 st := goC_block
def k12_14 : ACode :=
  .seq k12_13 k12_0
@[simp] theorem xk12_14 : GoC fns Q s k12_14 st ↔ GoC fns Q (.sq k12_0 :: s) k12_13 st := goC_seq
def k12_15 : ACode :=
  .ops q12_3 k12_14
@[simp] theorem xk12_15 : GoC fns Q s k12_15 st ↔ GoO fns Q s q12_3 k12_14 st := goC_ops
def k12_16 : ACode :=
  .ops [⟨.assign (.c (.bool false)), (some 4), none⟩] .ret
@[simp] theorem xk12_16 : GoC fns Q s k12_16 st ↔ GoO fns Q s [⟨.assign (.c (.bool false)), (some 4), none⟩] .ret st := goC_ops
def k12_17 : ACode :=
  .cond (.p 10) k12_16 .skip
@[simp] theorem xk12_17 : GoC fns Q s k12_17 st ↔ GB fns Q s (peek st (.p 10)) k12_16 .skip st := goC_cond
def k12_18 : ACode :=
  .seq k12_17 k12_15
@[simp] theorem xk12_18 : GoC fns Q s k12_18 st ↔ GoC fns Q (.sq k12_15 :: s) k12_17 st := goC_seq
def k12_19 : ACode :=
  .ops q12_4 k12_18
@[simp] theorem xk12_19 : GoC fns Q s k12_19 st ↔ GoO fns Q s q12_4 k12_18 st := goC_ops
def k12_20 : ACode :=
  .ops [⟨.assign (.c (.bool false)), (some 4), none⟩] k12_19
@[simp] theorem xk12_20 : GoC fns Q s k12_20 st ↔ GoO fns Q s [⟨.assign (.c (.bool false)), (some 4), none⟩] k12_19 st := goC_ops
def af12 : AFunc := ⟨27, k12_20, [.tmp 4], fun _ _ => none⟩

theorem ok12 : ∃ hs, pFunc Tryz.prog sg hs Tryz.f12 = some af12 := ⟨fun i => 0, by kernel_rfl⟩
def q46_0 : List AOper :=
  [⟨.load .take false 1 (.c (.gl 0)), (some 50), none⟩,
    ⟨.assign (.c (.slice .nil 0 1 [])), (some 4), none⟩,
    ⟨.assign (.p 50), (some 5), none⟩]
@[simp] def eq46_0 := id q46_0.eq_1
def q46_1 : List AOper :=
  [⟨.move .take (.t 10), (some 49), none⟩,
    ⟨.assign (.t 49), (some 4), none⟩,
    ⟨.assign (.c (.nilI)), (some 5), none⟩]
@[simp] def eq46_1 := id q46_1.eq_1
def q46_2 : List AOper :=
  [⟨.move .look (.p 9), (some 47), none⟩,
    ⟨.bin .add 1 true (.p 47) (.c (.int .u64 1)), (some 48), none⟩,
    ⟨.assign (.p 48), (some 9), none⟩]
@[simp] def eq46_2 := id q46_2.eq_1
def q46_3 : List AOper :=
  [⟨.move .head (.p 9), (some 44), none⟩,
    ⟨.move .head (.p 1), (some 45), none⟩,
    ⟨.bin .neq 1 false (.p 44) (.p 45), (some 46), none⟩]
@[simp] def eq46_3 := id q46_3.eq_1
def q46_4 : List AOper :=
  [⟨.move .look (.t 0), (some 40), none⟩,
    ⟨.move .look (.t 7), (some 41), none⟩,
    ⟨.call 39 [(.t 40, false), (.t 41, false)], (some 42), none⟩,
    ⟨.mkIface 93 (.p 42), (some 43), none⟩,
    ⟨.assign (.c (.slice .nil 0 1 [])), (some 4), none⟩,
    ⟨.assign (.p 43), (some 5), none⟩]
@[simp] def eq46_4 := id q46_4.eq_1
def q46_5 : List AOper :=
  [⟨.move .look (.p 8), (some 38), none⟩,
    ⟨.un .not (.p 38), (some 39), none⟩]
@[simp] def eq46_5 := id q46_5.eq_1
def q46_6 : List AOper :=
  [⟨.move .look (.p 6), (some 33), none⟩,
    ⟨.move .head (.t 10), (some 34), none⟩,
    ⟨.len false (.p 34), (some 35), none⟩,
    ⟨.convInt .i32 (.p 35), (some 36), none⟩,
    ⟨.bin .sub 1 false (.p 33) (.p 36), (some 37), none⟩,
    ⟨.assign (.p 37), (some 6), none⟩]
@[simp] def eq46_6 := id q46_6.eq_1
def q46_7 : List AOper :=
  [⟨.move .look (.t 7), (some 28), none⟩,
    ⟨.call 40 [(.t 28, false)], (some 29), none⟩,
    ⟨.move .look (.t 29), (some 27), none⟩,
    ⟨.extract 27 0, (some 30), none⟩,
    ⟨.extract 27 1, (some 31), none⟩,
    ⟨.extract 27 2, (some 32), none⟩,
    ⟨.assign (.t 30), (some 10), none⟩,
    ⟨.assign (.t 31), (some 7), none⟩,
    ⟨.assign (.p 32), (some 8), none⟩]
@[simp] def eq46_7 := id q46_7.eq_1
def q46_8 : List AOper :=
  [⟨.move .look (.p 6), (some 25), none⟩,
    ⟨.bin .gtr 1 true (.p 25) (.c (.int .i32 1)), (some 26), none⟩]
@[simp] def eq46_8 := id q46_8.eq_1
def q46_9 : List AOper :=
  [⟨.move .look (.p 6), (some 23), none⟩,
    ⟨.bin .sub 1 true (.p 23) (.c (.int .i32 4)), (some 24), none⟩,
    ⟨.assign (.p 24), (some 6), none⟩]
@[simp] def eq46_9 := id q46_9.eq_1
def q46_10 : List AOper :=
  [⟨.move .look (.t 0), (some 19), none⟩,
    ⟨.move .look (.t 7), (some 20), none⟩,
    ⟨.call 39 [(.t 19, false), (.t 20, false)], (some 21), none⟩,
    ⟨.mkIface 93 (.p 21), (some 22), none⟩,
    ⟨.assign (.c (.slice .nil 0 1 [])), (some 4), none⟩,
    ⟨.assign (.p 22), (some 5), none⟩]
@[simp] def eq46_10 := id q46_10.eq_1
def q46_11 : List AOper :=
  [⟨.move .look (.p 8), (some 17), none⟩,
    ⟨.un .not (.p 17), (some 18), none⟩]
@[simp] def eq46_11 := id q46_11.eq_1
def q46_12 : List AOper :=
  [⟨.move .look (.t 0), (some 12), none⟩,
    ⟨.call 38 [(.t 12, false)], (some 13), none⟩,
    ⟨.move .look (.t 13), (some 11), none⟩,
    ⟨.extract 11 0, (some 14), none⟩,
    ⟨.extract 11 1, (some 15), none⟩,
    ⟨.extract 11 2, (some 16), none⟩,
    ⟨.assign (.p 14), (some 6), none⟩,
    ⟨.assign (.t 15), (some 7), none⟩,
    ⟨.assign (.p 16), (some 8), none⟩]
@[simp] def eq46_12 := id q46_12.eq_1
def q46_13 : List AOper :=
  [⟨.assign (.c (.slice .nil 0 1 [])), (some 4), none⟩,
    ⟨.assign (.c (.nilI)), (some 5), none⟩]
@[simp] def eq46_13 := id q46_13.eq_1
def k46_0 : ACode :=
  .ops q46_0 .ret
@[simp] theorem xk46_0 : GoC fns Q s k46_0 st ↔ GoO fns Q s q46_0 .ret st := goC_ops
def k46_1 : ACode :=
  .ops q46_1 .ret
@[simp] theorem xk46_1 : GoC fns Q s k46_1 st ↔ GoO fns Q s q46_1 .ret st := goC_ops
def k46_2 : ACode :=
  .ops q46_2 (.exit 1)
@[simp] theorem xk46_2 : GoC fns Q s k46_2 st ↔ GoO fns Q s q46_2 (.exit 1) st := goC_ops
def k46_3 : ACode :=
  .cond (.p 46) k46_2 .skip
@[simp] theorem xk46_3 : GoC fns Q s k46_3 st ↔ GB fns Q s (peek st (.p 46)) k46_2 .skip st := goC_cond
def k46_4 : ACode :=
  .seq k46_3 k46_1
@[simp] theorem xk46_4 : GoC fns Q s k46_4 st ↔ GoC fns Q (.sq k46_1 :: s) k46_3 st := goC_seq
def k46_5 : ACode :=
  .ops q46_3 k46_4
@[simp] theorem xk46_5 : GoC fns Q s k46_5 st ↔ GoO fns Q s q46_3 k46_4 st := goC_ops
def k46_6 : ACode :=
  .ops q46_4 .ret
@[simp] theorem xk46_6 : GoC fns Q s k46_6 st ↔ GoO fns Q s q46_4 .ret st := goC_ops
def k46_7 : ACode :=
  .cond (.p 39) k46_6 .skip
@[simp] theorem xk46_7 : GoC fns Q s k46_7 st ↔ GB fns Q s (peek st (.p 39)) k46_6 .skip st := goC_cond
def k46_8 : ACode :=
  .seq k46_7 k46_5
@[simp] theorem xk46_8 : GoC fns Q s k46_8 st ↔ GoC fns Q (.sq k46_5 :: s) k46_7 st := goC_seq
def k46_9 : ACode :=
  .ops q46_5 k46_8
@[simp] theorem xk46_9 : GoC fns Q s k46_9 st ↔ GoO fns Q s q46_5 k46_8 st := goC_ops
def k46_10 : ACode :=
  .ops q46_6 k46_9
@[simp] theorem xk46_10 : GoC fns Q s k46_10 st ↔ GoO fns Q s q46_6 k46_9 st := goC_ops
def k46_11 : ACode :=
  .ops q46_7 k46_10
@[simp] theorem xk46_11 : GoC fns Q s k46_11 st ↔ GoO fns Q s q46_7 k46_10 st := goC_ops
def k46_12 : ACode :=
  .block 1 k46_11
@[simp] theorem xk46_12 : GoC fns Q s k46_12 st ↔ GoC fns Q (.bl 1 :: s) k46_11 st := goC_block
def k46_13 : ACode :=
  .cond (.p 26) .skip (.exit 0)
@[simp] theorem xk46_13 : GoC fns Q s k46_13 st ↔ GB fns Q s (peek st (.p 26)) .skip (.exit 0) st := goC_cond
def k46_14 : ACode :=
  .seq k46_13 k46_12
@[simp] theorem xk46_14 : GoC fns Q s k46_14 st ↔ GoC fns Q (.sq k46_12 :: s) k46_13 st := goC_seq
def k46_15 : ACode :=
  .ops q46_8 k46_14
@[simp] theorem xk46_15 : GoC fns Q s k46_15 st ↔ GoO fns Q s q46_8 k46_14 st := goC_ops
def lc46_0 : ACode :=
  k46_15
@[simp] theorem xlc46_0 : GoC fns Q s lc46_0 st ↔ GoC fns Q s k46_15 st := Iff.rfl
def k46_17 : ACode :=
  .loop lc46_0
@[simp] theorem xk46_17 : GoC fns Q s k46_17 st ↔ (LoopR fns lc46_0 st fun r => GoE fns Q s r.1 r.2) := goC_loop
def k46_18 : ACode :=
  .block 0 k46_17
@[simp] theorem xk46_18 : GoC fns Q s k46_18 st ↔ GoC fns Q (.bl 0 :: s) k46_17 st := goC_block
def k46_19 : ACode :=
  .seq k46_18 k46_0
@[simp] theorem xk46_19 : GoC fns Q s k46_19 st ↔ GoC fns Q (.sq k46_0 :: s) k46_18 st := goC_seq
def k46_20 : ACode :=
  .ops [⟨.assign (.c (.slice .nil 0 1 [])), (some 10), none⟩] k46_19
@[simp] theorem xk46_20 : GoC fns Q s k46_20 st ↔ GoO fns Q s [⟨.assign (.c (.slice .nil 0 1 [])), (some 10), none⟩] k46_19 st := goC_ops
def k46_21 : ACode :=
  .ops [⟨.assign (.c (.int .u64 0)), (some 9), none⟩] k46_20
@[simp] theorem xk46_21 : GoC fns Q s k46_21 st ↔ GoO fns Q s [⟨.assign (.c (.int .u64 0)), (some 9), none⟩] k46_20 st := goC_ops
def k46_22 : ACode :=
  .ops q46_9 k46_21
@[simp] theorem xk46_22 : GoC fns Q s k46_22 st ↔ GoO fns Q s q46_9 k46_21 st := goC_ops
def k46_23 : ACode :=
  .ops q46_10 .ret
@[simp] theorem xk46_23 : GoC fns Q s k46_23 st ↔ GoO fns Q s q46_10 .ret st := goC_ops
def k46_24 : ACode :=
  .cond (.p 18) k46_23 .skip
@[simp] theorem xk46_24 : GoC fns Q s k46_24 st ↔ GB fns Q s (peek st (.p 18)) k46_23 .skip st := goC_cond
def k46_25 : ACode :=
  .seq k46_24 k46_22
@[simp] theorem xk46_25 : GoC fns Q s k46_25 st ↔ GoC fns Q (.sq k46_22 :: s) k46_24 st := goC_seq
def k46_26 : ACode :=
  .ops q46_11 k46_25
@[simp] theorem xk46_26 : GoC fns Q s k46_26 st ↔ GoO fns Q s q46_11 k46_25 st := goC_ops
def k46_27 : ACode :=
  .ops q46_12 k46_26
@[simp] theorem xk46_27 : GoC fns Q s k46_27 st ↔ GoO fns Q s q46_12 k46_26 st := goC_ops
def k46_28 : ACode :=
  .ops q46_13 k46_27
@[simp] theorem xk46_28 : GoC fns Q s k46_28 st ↔ GoO fns Q s q46_13 k46_27 st := goC_ops
def af46 : AFunc := ⟨51, k46_28, [.tmp 4, .tmp 5], fun _ _ => none⟩

theorem ok46 : ∃ hs, pFunc Tryz.prog sg hs Tryz.f46 = some af46 := ⟨fun i => 0, by kernel_rfl⟩
def q31_0 : List AOper :=
  [⟨.move .look (.t 0), (some 6), none⟩,
    ⟨.move .look (.p 1), (some 7), none⟩,
    ⟨.call 46 [(.t 6, false), (.p 7, false)], (some 8), none⟩,
    ⟨.extract 8 0, (some 9), none⟩,
    ⟨.extract 8 1, (some 10), none⟩,
    ⟨.assign (.t 9), (some 4), none⟩,
    ⟨.assign (.p 10), (some 5), none⟩]
@[simp] def eq31_0 := id q31_0.eq_1
def q31_1 : List AOper :=
  [⟨.assign (.c (.slice .nil 0 1 [])), (some 4), none⟩,
    ⟨.assign (.c (.nilI)), (some 5), none⟩]
@[simp] def eq31_1 := id q31_1.eq_1
def k31_0 : ACode :=
  .ops q31_0 .ret
@[simp] theorem xk31_0 : GoC fns Q s k31_0 st ↔ GoO fns Q s q31_0 .ret st := goC_ops
def k31_1 : ACode :=
  .ops q31_1 k31_0
@[simp] theorem xk31_1 : GoC fns Q s k31_1 st ↔ GoO fns Q s q31_1 k31_0 st := goC_ops
def af31 : AFunc := ⟨11, k31_1, [.tmp 4, .tmp 5], fun _ _ => none⟩

theorem ok31 : ∃ hs, pFunc Tryz.prog sg hs Tryz.f31 = some af31 := ⟨fun i => 0, by kernel_rfl⟩
def q30_0 : List AOper :=
  [⟨.move .take (.t 6), (some 14), none⟩,
    ⟨.move .take (.p 7), (some 15), none⟩,
    ⟨.assign (.t 14), (some 4), none⟩,
    ⟨.assign (.p 15), (some 5), none⟩]
@[simp] def eq30_0 := id q30_0.eq_1
def q30_1 : List AOper :=
  [⟨.move .look (.t 0), (some 9), none⟩,
    ⟨.move .look (.p 1), (some 10), none⟩,
    ⟨.call 31 [(.t 9, false), (.p 10, false)], (some 11), none⟩,
    ⟨.move .look (.t 11), (some 8), none⟩,
    ⟨.extract 8 0, (some 12), none⟩,
    ⟨.extract 8 1, (some 13), none⟩,
    ⟨.assign (.t 12), (some 6), none⟩,
    ⟨.assign (.p 13), (some 7), none⟩]
@[simp] def eq30_1 := id q30_1.eq_1
def q30_2 : List AOper :=
  [⟨.assign (.c (.slice .nil 0 1 [])), (some 4), none⟩,
    ⟨.assign (.c (.nilI)), (some 5), none⟩]
@[simp] def eq30_2 := id q30_2.eq_1
def k30_0 : ACode :=
  .ops q30_0 .ret
@[simp] theorem xk30_0 : GoC fns Q s k30_0 st ↔ GoO fns Q s q30_0 .ret st := goC_ops
def k30_1 : ACode :=
  .ops q30_1 k30_0
@[simp] theorem xk30_1 : GoC fns Q s k30_1 st ↔ GoO fns Q s q30_1 k30_0 st := goC_ops
def k30_2 : ACode :=
  .ops q30_2 k30_1
@[simp] theorem xk30_2 : GoC fns Q s k30_2 st ↔ GoO fns Q s q30_2 k30_1 st := goC_ops
def af30 : AFunc := ⟨16, k30_2, [.tmp 4, .tmp 5], fun _ _ => none⟩

theorem ok30 : ∃ hs, pFunc Tryz.prog sg hs Tryz.f30 = some af30 := ⟨fun i => 0, by kernel_rfl⟩
def q13_0 : List AOper :=
  [⟨.move .look (.t 6), (some 15), none⟩,
    ⟨.call 21 [(.t 15, false)], (some 16), none⟩,
    ⟨.move .look (.p 7), (some 17), none⟩,
    ⟨.call 23 [(.p 17, false)], (some 18), none⟩,
    ⟨.assign (.t 16), (some 4), none⟩,
    ⟨.assign (.p 18), (some 5), none⟩]
@[simp] def eq13_0 := id q13_0.eq_1
def q13_1 : List AOper :=
  [⟨.move .look (.t 0), (some 9), none⟩,
    ⟨.move .look (.p 1), (some 10), none⟩,
    ⟨.convInt .u64 (.p 10), (some 11), none⟩,
    ⟨.call 30 [(.t 9, false), (.p 11, false)], (some 12), none⟩,
    ⟨.move .look (.t 12), (some 8), none⟩,
    ⟨.extract 8 0, (some 13), none⟩,
    ⟨.extract 8 1, (some 14), none⟩,
    ⟨.assign (.t 13), (some 6), none⟩,
    ⟨.assign (.p 14), (some 7), none⟩]
@[simp] def eq13_1 := id q13_1.eq_1
def q13_2 : List AOper :=
  [⟨.assign (.c (.slice .nil 0 1 [])), (some 4), none⟩,
    ⟨.assign (.c (.int .i64 0)), (some 5), none⟩]
@[simp] def eq13_2 := id q13_2.eq_1
def k13_0 : ACode :=
  .ops q13_0 .ret
@[simp] theorem xk13_0 : GoC fns Q s k13_0 st ↔ GoO fns Q s q13_0 .ret st := goC_ops
def k13_1 : ACode :=
  .ops q13_1 k13_0
@[simp] theorem xk13_1 : GoC fns Q s k13_1 st ↔ GoO fns Q s q13_1 k13_0 st := goC_ops
def k13_2 : ACode :=
  .ops q13_2 k13_1
@[simp] theorem xk13_2 : GoC fns Q s k13_2 st ↔ GoO fns Q s q13_2 k13_1 st := goC_ops
def af13 : AFunc := ⟨19, k13_2, [.tmp 4, .tmp 5], fun _ _ => none⟩

theorem ok13 : ∃ hs, pFunc Tryz.prog sg hs Tryz.f13 = some af13 := ⟨fun i => 0, by kernel_rfl⟩
def q14_0 : List AOper :=
  [⟨.move .look (.t 6), (some 15), none⟩,
    ⟨.call 21 [(.t 15, false)], (some 16), none⟩,
    ⟨.move .look (.p 7), (some 17), none⟩,
    ⟨.call 23 [(.p 17, false)], (some 18), none⟩,
    ⟨.assign (.t 16), (some 4), none⟩,
    ⟨.assign (.p 18), (some 5), none⟩]
@[simp] def eq14_0 := id q14_0.eq_1
def q14_1 : List AOper :=
  [⟨.move .look (.t 0), (some 9), none⟩,
    ⟨.move .look (.p 1), (some 10), none⟩,
    ⟨.convInt .u64 (.p 10), (some 11), none⟩,
    ⟨.call 31 [(.t 9, false), (.p 11, false)], (some 12), none⟩,
    ⟨.move .look (.t 12), (some 8), none⟩,
    ⟨.extract 8 0, (some 13), none⟩,
    ⟨.extract 8 1, (some 14), none⟩,
    ⟨.assign (.t 13), (some 6), none⟩,
    ⟨.assign (.p 14), (some 7), none⟩]
@[simp] def eq14_1 := id q14_1.eq_1
def q14_2 : List AOper :=
  [⟨.assign (.c (.slice .nil 0 1 [])), (some 4), none⟩,
    ⟨.assign (.c (.int .i64 0)), (some 5), none⟩]
@[simp] def eq14_2 := id q14_2.eq_1
def k14_0 : ACode :=
  .ops q14_0 .ret
@[simp] theorem xk14_0 : GoC fns Q s k14_0 st ↔ GoO fns Q s q14_0 .ret st := goC_ops
def k14_1 : ACode :=
  .ops q14_1 k14_0
@[simp] theorem xk14_1 : GoC fns Q s k14_1 st ↔ GoO fns Q s q14_1 k14_0 st := goC_ops
def k14_2 : ACode :=
  .ops q14_2 k14_1
@[simp] theorem xk14_2 : GoC fns Q s k14_2 st ↔ GoO fns Q s q14_2 k14_1 st := goC_ops
def af14 : AFunc := ⟨19, k14_2, [.tmp 4, .tmp 5], fun _ _ => none⟩

theorem ok14 : ∃ hs, pFunc Tryz.prog sg hs Tryz.f14 = some af14 := ⟨fun i => 0, by kernel_rfl⟩
def q47_0 : List AOper :=
  [⟨.move .look (.t 0), (some 7), none⟩,
    ⟨.indexAddr 1 (.t 7) (.c (.int .i64 0)), (some 8), none⟩,
    ⟨.load .look false 1 (.p 8), (some 9), none⟩,
    ⟨.convInt .u32 (.p 9), (some 10), none⟩,
    ⟨.move .look (.t 0), (some 11), none⟩,
    ⟨.indexAddr 1 (.t 11) (.c (.int .i64 1)), (some 12), none⟩,
    ⟨.load .look false 1 (.p 12), (some 13), none⟩,
    ⟨.convInt .u32 (.p 13), (some 14), none⟩,
    ⟨.bin .shl 1 true (.p 14) (.c (.int .u64 8)), (some 15), none⟩,
    ⟨.bin .or 1 false (.p 10) (.p 15), (some 16), none⟩,
    ⟨.move .look (.t 0), (some 17), none⟩,
    ⟨.indexAddr 1 (.t 17) (.c (.int .i64 2)), (some 18), none⟩,
    ⟨.load .look false 1 (.p 18), (some 19), none⟩,
    ⟨.convInt .u32 (.p 19), (some 20), none⟩,
    ⟨.bin .shl 1 true (.p 20) (.c (.int .u64 16)), (some 21), none⟩,
    ⟨.bin .or 1 false (.p 16) (.p 21), (some 22), none⟩,
    ⟨.move .look (.t 0), (some 23), none⟩,
    ⟨.indexAddr 1 (.t 23) (.c (.int .i64 3)), (some 24), none⟩,
    ⟨.load .look false 1 (.p 24), (some 25), none⟩,
    ⟨.convInt .u32 (.p 25), (some 26), none⟩,
    ⟨.bin .shl 1 true (.p 26) (.c (.int .u64 24)), (some 27), none⟩,
    ⟨.bin .or 1 false (.p 22) (.p 27), (some 28), none⟩,
    ⟨.convInt .i32 (.p 28), (some 29), none⟩,
    ⟨.convInt .i64 (.p 29), (some 30), none⟩,
    ⟨.assign (.p 30), (some 2), none⟩,
    ⟨.assign (.c (.bool true)), (some 3), none⟩]
@[simp] def eq47_0 := id q47_0.eq_1
def q47_1 : List AOper :=
  [⟨.assign (.c (.int .i64 0)), (some 2), none⟩,
    ⟨.assign (.c (.bool false)), (some 3), none⟩]
@[simp] def eq47_1 := id q47_1.eq_1
def q47_2 : List AOper :=
  [⟨.move .head (.t 0), (some 4), none⟩,
    ⟨.len false (.p 4), (some 5), none⟩,
    ⟨.bin .lss 1 true (.p 5) (.c (.int .i64 4)), (some 6), none⟩]
@[simp] def eq47_2 := id q47_2.eq_1
def q47_3 : List AOper :=
  [⟨.assign (.c (.int .i64 0)), (some 2), none⟩,
    ⟨.assign (.c (.bool false)), (some 3), none⟩]
@[simp] def eq47_3 := id q47_3.eq_1
def k47_0 : ACode :=
  .ops q47_0 .ret
@[simp] theorem xk47_0 : GoC fns Q s k47_0 st ↔ GoO fns Q s q47_0 .ret st := goC_ops
def k47_1 : ACode :=
  .ops q47_1 .ret
@[simp] theorem xk47_1 : GoC fns Q s k47_1 st ↔ GoO fns Q s q47_1 .ret st := goC_ops
def k47_2 : ACode :=
  .cond (.p 6) k47_1 .skip
@[simp] theorem xk47_2 : GoC fns Q s k47_2 st ↔ GB fns Q s (peek st (.p 6)) k47_1 .skip st := goC_cond
def k47_3 : ACode :=
  .seq k47_2 k47_0
@[simp] theorem xk47_3 : GoC fns Q s k47_3 st ↔ GoC fns Q (.sq k47_0 :: s) k47_2 st := goC_seq
def k47_4 : ACode :=
  .ops q47_2 k47_3
@[simp] theorem xk47_4 : GoC fns Q s k47_4 st ↔ GoO fns Q s q47_2 k47_3 st := goC_ops
def k47_5 : ACode :=
  .ops q47_3 k47_4
@[simp] theorem xk47_5 : GoC fns Q s k47_5 st ↔ GoO fns Q s q47_3 k47_4 st := goC_ops
def af47 : AFunc := ⟨31, k47_5, [.tmp 2, .tmp 3], fun _ _ => none⟩

theorem ok47 : ∃ hs, pFunc Tryz.prog sg hs Tryz.f47 = some af47 := ⟨fun i => 0, by kernel_rfl⟩
def q64_0 : List AOper :=
  [⟨.assign (.c (.str [])), (some 2), none⟩,
    ⟨.assign (.c (.int .i64 0)), (some 3), none⟩,
    ⟨.assign (.c (.bool false)), (some 4), none⟩]
@[simp] def eq64_0 := id q64_0.eq_1
def q64_1 : List AOper :=
  [⟨.move .look (.p 5), (some 10), none⟩,
    ⟨.bin .add 1 true (.p 10) (.c (.int .i64 1)), (some 11), none⟩,
    ⟨.assign (.p 11), (some 5), none⟩]
@[simp] def eq64_1 := id q64_1.eq_1
def q64_2 : List AOper :=
  [⟨.move .look (.t 0), (some 17), none⟩,
    ⟨.move .head (.p 5), (some 18), none⟩,
    ⟨.sliceSl 1 (.t 17) none (some (.p 18)), (some 19), none⟩,
    ⟨.convBS (.t 19), (some 20), none⟩,
    ⟨.move .look (.p 5), (some 21), none⟩,
    ⟨.bin .add 1 true (.p 21) (.c (.int .i64 1)), (some 22), none⟩,
    ⟨.assign (.p 20), (some 2), none⟩,
    ⟨.assign (.p 22), (some 3), none⟩,
    ⟨.assign (.c (.bool true)), (some 4), none⟩]
@[simp] def eq64_2 := id q64_2.eq_1
def q64_3 : List AOper :=
  [⟨.move .look (.t 0), (some 12), none⟩,
    ⟨.move .look (.p 5), (some 13), none⟩,
    ⟨.indexAddr 1 (.t 12) (.p 13), (some 14), none⟩,
    ⟨.load .head false 1 (.p 14), (some 15), none⟩,
    ⟨.bin .eql 1 true (.p 15) (.c (.int .u8 0)), (some 16), none⟩]
@[simp] def eq64_3 := id q64_3.eq_1
def q64_4 : List AOper :=
  [⟨.move .look (.p 5), (some 6), none⟩,
    ⟨.move .head (.t 0), (some 7), none⟩,
    ⟨.len false (.p 7), (some 8), none⟩,
    ⟨.bin .lss 1 false (.p 6) (.p 8), (some 9), none⟩]
@[simp] def eq64_4 := id q64_4.eq_1
def q64_5 : List AOper :=
  [⟨.assign (.c (.str [])), (some 2), none⟩,
    ⟨.assign (.c (.int .i64 0)), (some 3), none⟩,
    ⟨.assign (.c (.bool false)), (some 4), none⟩]
@[simp] def eq64_5 := id q64_5.eq_1
def k64_0 : ACode :=
  .ops q64_0 .ret
@[simp] theorem xk64_0 : GoC fns Q s k64_0 st ↔ GoO fns Q s q64_0 .ret st := goC_ops
def k64_1 : ACode :=
  .ops q64_1 .skip
@[simp] theorem xk64_1 : GoC fns Q s k64_1 st ↔ GoO fns Q s q64_1 .skip st := goC_ops
def k64_2 : ACode :=
  .ops q64_2 .ret
@[simp] theorem xk64_2 : GoC fns Q s k64_2 st ↔ GoO fns Q s q64_2 .ret st := goC_ops
def k64_3 : ACode :=
  .cond (.p 16) k64_2 .skip
@[simp] theorem xk64_3 : GoC fns Q s k64_3 st ↔ GB fns Q s (peek st (.p 16)) k64_2 .skip st := goC_cond
def k64_4 : ACode :=
  .ops q64_3 k64_3
@[simp] theorem xk64_4 : GoC fns Q s k64_4 st ↔ GoO fns Q s q64_3 k64_3 st := goC_ops
def k64_5 : ACode :=
  .block 1 k64_4
@[simp] theorem xk64_5 : GoC fns Q s k64_5 st ↔ GoC fns Q (.bl 1 :: s) k64_4 st := goC_block
def k64_6 : ACode :=
  .seq k64_5 k64_1
@[simp] theorem xk64_6 : GoC fns Q s k64_6 st ↔ GoC fns Q (.sq k64_1 :: s) k64_5 st := goC_seq
def k64_7 : ACode :=
  .cond (.p 9) .skip (.exit 0)
@[simp] theorem xk64_7 : GoC fns Q s k64_7 st ↔ GB fns Q s (peek st (.p 9)) .skip (.exit 0) st := goC_cond
def k64_8 : ACode :=
  .seq k64_7 k64_6
@[simp] theorem xk64_8 : GoC fns Q s k64_8 st ↔ GoC fns Q (.sq k64_6 :: s) k64_7 st := goC_seq
def k64_9 : ACode :=
  .ops q64_4 k64_8
@[simp] theorem xk64_9 : GoC fns Q s k64_9 st ↔ GoO fns Q s q64_4 k64_8 st := goC_ops
def lc64_0 : ACode :=
  k64_9
@[simp] theorem xlc64_0 : GoC fns Q s lc64_0 st ↔ GoC fns Q s k64_9 st := Iff.rfl
def k64_11 : ACode :=
  .loop lc64_0
@[simp] theorem xk64_11 : GoC fns Q s k64_11 st ↔ (LoopR fns lc64_0 st fun r => GoE fns Q s r.1 r.2) := goC_loop
def k64_12 : ACode :=
  .block 0 k64_11
@[simp] theorem xk64_12 : GoC fns Q s k64_12 st ↔ GoC fns Q (.bl 0 :: s) k64_11 st := goC_block
def k64_13 : ACode :=
  .seq k64_12 k64_0
@[simp] theorem xk64_13 : GoC fns Q s k64_13 st ↔ GoC fns Q (.sq k64_0 :: s) k64_12 st := goC_seq
def k64_14 : ACode :=
  .ops [⟨.assign (.c (.int .i64 0)), (some 5), none⟩] k64_13
@[simp] theorem xk64_14 : GoC fns Q s k64_14 st ↔ GoO fns Q s [⟨.assign (.c (.int .i64 0)), (some 5), none⟩] k64_13 st := goC_ops
def k64_15 : ACode :=
  .ops q64_5 k64_14
@[simp] theorem xk64_15 : GoC fns Q s k64_15 st ↔ GoO fns Q s q64_5 k64_14 st := goC_ops
def af64 : AFunc := ⟨23, k64_15, [.tmp 2, .tmp 3, .tmp 4], fun _ _ => none⟩

theorem ok64 : ∃ hs, pFunc Tryz.prog sg hs Tryz.f64 = some af64 := ⟨fun i => 0, by kernel_rfl⟩
def q65_0 : List AOper :=
  [⟨.assign (.c (.int .i64 0)), (some 4), none⟩,
    ⟨.assign (.c (.bool false)), (some 5), none⟩]
@[simp] def eq65_0 := id q65_0.eq_1
def q65_1 : List AOper :=
  [⟨.assign (.c (.int .i64 0)), (some 4), none⟩,
    ⟨.assign (.c (.bool true)), (some 5), none⟩]
@[simp] def eq65_1 := id q65_1.eq_1
def q65_2 : List AOper :=
  [⟨.move .head (.t 1), (some 27), none⟩,
    ⟨.len false (.p 27), (some 28), none⟩,
    ⟨.bin .geq 1 true (.p 28) (.c (.int .i64 1)), (some 29), none⟩,
    ⟨.assign (.c (.int .i64 1)), (some 4), none⟩,
    ⟨.assign (.p 29), (some 5), none⟩]
@[simp] def eq65_2 := id q65_2.eq_1
def q65_3 : List AOper :=
  [⟨.move .take (.p 7), (some 32), none⟩,
    ⟨.assign (.c (.int .i64 4)), (some 4), none⟩,
    ⟨.assign (.p 32), (some 5), none⟩]
@[simp] def eq65_3 := id q65_3.eq_1
def q65_4 : List AOper :=
  [⟨.move .head (.t 1), (some 38), none⟩,
    ⟨.len false (.p 38), (some 39), none⟩,
    ⟨.bin .geq 1 true (.p 39) (.c (.int .i64 8)), (some 40), none⟩,
    ⟨.assign (.c (.int .i64 8)), (some 4), none⟩,
    ⟨.assign (.p 40), (some 5), none⟩]
@[simp] def eq65_4 := id q65_4.eq_1
def q65_5 : List AOper :=
  [⟨.move .head (.t 1), (some 43), none⟩,
    ⟨.len false (.p 43), (some 44), none⟩,
    ⟨.bin .geq 1 true (.p 44) (.c (.int .i64 12)), (some 45), none⟩,
    ⟨.assign (.c (.int .i64 12)), (some 4), none⟩,
    ⟨.assign (.p 45), (some 5), none⟩]
@[simp] def eq65_5 := id q65_5.eq_1
def q65_6 : List AOper :=
  [⟨.move .head (.t 1), (some 48), none⟩,
    ⟨.len false (.p 48), (some 49), none⟩,
    ⟨.bin .geq 1 true (.p 49) (.c (.int .i64 16)), (some 50), none⟩,
    ⟨.assign (.c (.int .i64 16)), (some 4), none⟩,
    ⟨.assign (.p 50), (some 5), none⟩]
@[simp] def eq65_6 := id q65_6.eq_1
def q65_7 : List AOper :=
  [⟨.move .look (.p 6), (some 55), none⟩,
    ⟨.bin .add 1 true (.c (.int .i64 4)) (.p 55), (some 56), none⟩,
    ⟨.move .look (.p 7), (some 57), none⟩,
    ⟨.move .look (.p 57), (some 58), none⟩,
    ⟨.move .look (.p 6), (some 59), (some (58, true))⟩,
    ⟨.bin .geq 1 true (.p 59) (.c (.int .i64 1)), (some 60), (some (58, true))⟩,
    ⟨.pick (.p 58) (.p 60) (.c (.bool false)), (some 61), none⟩,
    ⟨.move .look (.p 61), (some 62), none⟩,
    ⟨.move .head (.t 1), (some 63), (some (62, true))⟩,
    ⟨.len false (.p 63), (some 64), (some (62, true))⟩,
    ⟨.move .look (.p 6), (some 65), (some (62, true))⟩,
    ⟨.bin .add 1 true (.c (.int .i64 4)) (.p 65), (some 66), (some (62, true))⟩,
    ⟨.bin .geq 1 false (.p 64) (.p 66), (some 67), (some (62, true))⟩,
    ⟨.pick (.p 62) (.p 67) (.c (.bool false)), (some 68), none⟩,
    ⟨.assign (.p 56), (some 4), none⟩,
    ⟨.assign (.p 68), (some 5), none⟩]
@[simp] def eq65_7 := id q65_7.eq_1
def q65_8 : List AOper :=
  [⟨.move .take (.p 6), (some 73), none⟩,
    ⟨.move .look (.p 7), (some 74), none⟩,
    ⟨.move .look (.p 74), (some 75), none⟩,
    ⟨.move .look (.p 6), (some 76), (some (75, true))⟩,
    ⟨.bin .geq 1 true (.p 76) (.c (.int .i64 5)), (some 77), (some (75, true))⟩,
    ⟨.pick (.p 75) (.p 77) (.c (.bool false)), (some 78), none⟩,
    ⟨.move .look (.p 78), (some 79), none⟩,
    ⟨.move .head (.t 1), (some 80), (some (79, true))⟩,
    ⟨.len false (.p 80), (some 81), (some (79, true))⟩,
    ⟨.move .look (.p 6), (some 82), (some (79, true))⟩,
    ⟨.bin .geq 1 false (.p 81) (.p 82), (some 83), (some (79, true))⟩,
    ⟨.pick (.p 79) (.p 83) (.c (.bool false)), (some 84), none⟩,
    ⟨.assign (.p 73), (some 4), none⟩,
    ⟨.assign (.p 84), (some 5), none⟩]
@[simp] def eq65_8 := id q65_8.eq_1
def q65_9 : List AOper :=
  [⟨.move .look (.p 6), (some 87), none⟩,
    ⟨.bin .add 1 true (.c (.int .i64 5)) (.p 87), (some 88), none⟩,
    ⟨.move .look (.p 7), (some 89), none⟩,
    ⟨.move .look (.p 89), (some 90), none⟩,
    ⟨.move .look (.p 6), (some 91), (some (90, true))⟩,
    ⟨.bin .geq 1 true (.p 91) (.c (.int .i64 0)), (some 92), (some (90, true))⟩,
    ⟨.pick (.p 90) (.p 92) (.c (.bool false)), (some 93), none⟩,
    ⟨.move .look (.p 93), (some 94), none⟩,
    ⟨.move .head (.t 1), (some 95), (some (94, true))⟩,
    ⟨.len false (.p 95), (some 96), (some (94, true))⟩,
    ⟨.move .look (.p 6), (some 97), (some (94, true))⟩,
    ⟨.bin .add 1 true (.c (.int .i64 5)) (.p 97), (some 98), (some (94, true))⟩,
    ⟨.bin .geq 1 false (.p 96) (.p 98), (some 99), (some (94, true))⟩,
    ⟨.pick (.p 94) (.p 99) (.c (.bool false)), (some 100), none⟩,
    ⟨.assign (.p 88), (some 4), none⟩,
    ⟨.assign (.p 100), (some 5), none⟩]
@[simp] def eq65_9 := id q65_9.eq_1
def q65_10 : List AOper :=
  [⟨.move .look (.p 6), (some 103), none⟩,
    ⟨.bin .add 1 true (.c (.int .i64 16)) (.p 103), (some 104), none⟩,
    ⟨.move .look (.p 7), (some 105), none⟩,
    ⟨.move .look (.p 105), (some 106), none⟩,
    ⟨.move .look (.p 6), (some 107), (some (106, true))⟩,
    ⟨.bin .geq 1 true (.p 107) (.c (.int .i64 1)), (some 108), (some (106, true))⟩,
    ⟨.pick (.p 106) (.p 108) (.c (.bool false)), (some 109), none⟩,
    ⟨.move .look (.p 109), (some 110), none⟩,
    ⟨.move .head (.t 1), (some 111), (some (110, true))⟩,
    ⟨.len false (.p 111), (some 112), (some (110, true))⟩,
    ⟨.move .look (.p 6), (some 113), (some (110, true))⟩,
    ⟨.bin .add 1 true (.c (.int .i64 16)) (.p 113), (some 114), (some (110, true))⟩,
    ⟨.bin .geq 1 false (.p 112) (.p 114), (some 115), (some (110, true))⟩,
    ⟨.pick (.p 110) (.p 115) (.c (.bool false)), (some 116), none⟩,
    ⟨.assign (.p 104), (some 4), none⟩,
    ⟨.assign (.p 116), (some 5), none⟩]
@[simp] def eq65_10 := id q65_10.eq_1
def q65_11 : List AOper :=
  [⟨.move .look (.p 9), (some 133), none⟩,
    ⟨.move .look (.p 12), (some 134), none⟩,
    ⟨.bin .add 1 false (.p 133) (.p 134), (some 135), none⟩,
    ⟨.move .look (.p 10), (some 136), none⟩,
    ⟨.move .look (.p 136), (some 137), none⟩,
    ⟨.move .look (.p 13), (some 138), (some (137, true))⟩,
    ⟨.pick (.p 137) (.p 138) (.c (.bool false)), (some 139), none⟩,
    ⟨.assign (.p 135), (some 4), none⟩,
    ⟨.assign (.p 139), (some 5), none⟩]
@[simp] def eq65_11 := id q65_11.eq_1
def q65_12 : List AOper :=
  [⟨.move .look (.t 1), (some 126), none⟩,
    ⟨.move .head (.p 9), (some 127), none⟩,
    ⟨.sliceSl 1 (.t 126) (some (.p 127)) none, (some 128), none⟩,
    ⟨.call 64 [(.t 128, false)], (some 129), none⟩,
    ⟨.move .look (.t 129), (some 125), none⟩,
    ⟨.extract 125 0, (some 130), none⟩,
    ⟨.extract 125 1, (some 131), none⟩,
    ⟨.extract 125 2, (some 132), none⟩,
    ⟨.assign (.p 130), (some 11), none⟩,
    ⟨.assign (.p 131), (some 12), none⟩,
    ⟨.assign (.p 132), (some 13), none⟩]
@[simp] def eq65_12 := id q65_12.eq_1
def q65_13 : List AOper :=
  [⟨.move .look (.t 1), (some 120), none⟩,
    ⟨.call 64 [(.t 120, false)], (some 121), none⟩,
    ⟨.move .look (.t 121), (some 119), none⟩,
    ⟨.extract 119 0, (some 122), none⟩,
    ⟨.extract 119 1, (some 123), none⟩,
    ⟨.extract 119 2, (some 124), none⟩,
    ⟨.assign (.p 122), (some 8), none⟩,
    ⟨.assign (.p 123), (some 9), none⟩,
    ⟨.assign (.p 124), (some 10), none⟩]
@[simp] def eq65_13 := id q65_13.eq_1
def q65_14 : List AOper :=
  [⟨.bin .eql 1 true (.p 19) (.c (.int .i64 11)), (some 118), none⟩,
    ⟨.assign (.p 118), (some 117), none⟩]
@[simp] def eq65_14 := id q65_14.eq_1
def q65_15 : List AOper :=
  [⟨.bin .eql 1 true (.p 19) (.c (.int .i64 12)), (some 102), none⟩,
    ⟨.assign (.p 102), (some 101), none⟩]
@[simp] def eq65_15 := id q65_15.eq_1
def q65_16 : List AOper :=
  [⟨.bin .eql 1 true (.p 19) (.c (.int .i64 5)), (some 86), none⟩,
    ⟨.assign (.p 86), (some 85), none⟩]
@[simp] def eq65_16 := id q65_16.eq_1
def q65_17 : List AOper :=
  [⟨.bin .eql 1 true (.p 19) (.c (.int .i64 15)), (some 72), none⟩,
    ⟨.assign (.p 72), (some 69), none⟩]
@[simp] def eq65_17 := id q65_17.eq_1
def q65_18 : List AOper :=
  [⟨.bin .eql 1 true (.p 19) (.c (.int .i64 4)), (some 71), none⟩,
    ⟨.assign (.p 71), (some 69), none⟩]
@[simp] def eq65_18 := id q65_18.eq_1
def q65_19 : List AOper :=
  [⟨.bin .eql 1 true (.p 19) (.c (.int .i64 3)), (some 70), none⟩,
    ⟨.assign (.p 70), (some 69), none⟩]
@[simp] def eq65_19 := id q65_19.eq_1
def q65_20 : List AOper :=
  [⟨.bin .eql 1 true (.p 19) (.c (.int .i64 14)), (some 54), none⟩,
    ⟨.assign (.p 54), (some 51), none⟩]
@[simp] def eq65_20 := id q65_20.eq_1
def q65_21 : List AOper :=
  [⟨.bin .eql 1 true (.p 19) (.c (.int .i64 13)), (some 53), none⟩,
    ⟨.assign (.p 53), (some 51), none⟩]
@[simp] def eq65_21 := id q65_21.eq_1
def q65_22 : List AOper :=
  [⟨.bin .eql 1 true (.p 19) (.c (.int .i64 2)), (some 52), none⟩,
    ⟨.assign (.p 52), (some 51), none⟩]
@[simp] def eq65_22 := id q65_22.eq_1
def q65_23 : List AOper :=
  [⟨.bin .eql 1 true (.p 19) (.c (.int .i64 19)), (some 47), none⟩,
    ⟨.assign (.p 47), (some 46), none⟩]
@[simp] def eq65_23 := id q65_23.eq_1
def q65_24 : List AOper :=
  [⟨.bin .eql 1 true (.p 19) (.c (.int .i64 7)), (some 42), none⟩,
    ⟨.assign (.p 42), (some 41), none⟩]
@[simp] def eq65_24 := id q65_24.eq_1
def q65_25 : List AOper :=
  [⟨.bin .eql 1 true (.p 19) (.c (.int .i64 17)), (some 37), none⟩,
    ⟨.assign (.p 37), (some 33), none⟩]
@[simp] def eq65_25 := id q65_25.eq_1
def q65_26 : List AOper :=
  [⟨.bin .eql 1 true (.p 19) (.c (.int .i64 18)), (some 36), none⟩,
    ⟨.assign (.p 36), (some 33), none⟩]
@[simp] def eq65_26 := id q65_26.eq_1
def q65_27 : List AOper :=
  [⟨.bin .eql 1 true (.p 19) (.c (.int .i64 9)), (some 35), none⟩,
    ⟨.assign (.p 35), (some 33), none⟩]
@[simp] def eq65_27 := id q65_27.eq_1
def q65_28 : List AOper :=
  [⟨.bin .eql 1 true (.p 19) (.c (.int .i64 1)), (some 34), none⟩,
    ⟨.assign (.p 34), (some 33), none⟩]
@[simp] def eq65_28 := id q65_28.eq_1
def q65_29 : List AOper :=
  [⟨.bin .eql 1 true (.p 19) (.c (.int .i64 16)), (some 31), none⟩,
    ⟨.assign (.p 31), (some 30), none⟩]
@[simp] def eq65_29 := id q65_29.eq_1
def q65_30 : List AOper :=
  [⟨.bin .eql 1 true (.p 19) (.c (.int .i64 8)), (some 26), none⟩,
    ⟨.assign (.p 26), (some 25), none⟩]
@[simp] def eq65_30 := id q65_30.eq_1
def q65_31 : List AOper :=
  [⟨.bin .eql 1 true (.p 19) (.c (.int .i64 127)), (some 24), none⟩,
    ⟨.assign (.p 24), (some 20), none⟩]
@[simp] def eq65_31 := id q65_31.eq_1
def q65_32 : List AOper :=
  [⟨.bin .eql 1 true (.p 19) (.c (.int .i64 255)), (some 23), none⟩,
    ⟨.assign (.p 23), (some 20), none⟩]
@[simp] def eq65_32 := id q65_32.eq_1
def q65_33 : List AOper :=
  [⟨.bin .eql 1 true (.p 19) (.c (.int .i64 10)), (some 22), none⟩,
    ⟨.assign (.p 22), (some 20), none⟩]
@[simp] def eq65_33 := id q65_33.eq_1
def q65_34 : List AOper :=
  [⟨.bin .eql 1 true (.p 19) (.c (.int .i64 6)), (some 21), none⟩,
    ⟨.assign (.p 21), (some 20), none⟩]
@[simp] def eq65_34 := id q65_34.eq_1
def q65_35 : List AOper :=
  [⟨.move .look (.t 1), (some 15), none⟩,
    ⟨.call 47 [(.t 15, false)], (some 16), none⟩,
    ⟨.move .look (.t 16), (some 14), none⟩,
    ⟨.extract 14 0, (some 17), none⟩,
    ⟨.extract 14 1, (some 18), none⟩,
    ⟨.assign (.p 17), (some 6), none⟩,
    ⟨.assign (.p 18), (some 7), none⟩]
@[simp] def eq65_35 := id q65_35.eq_1
def q65_36 : List AOper :=
  [⟨.assign (.c (.int .i64 0)), (some 4), none⟩,
    ⟨.assign (.c (.bool false)), (some 5), none⟩]
@[simp] def eq65_36 := id q65_36.eq_1
def k65_0 : ACode :=
  .ops q65_0 .ret
@[simp] theorem xk65_0 : GoC fns Q s k65_0 st ↔ GoO fns Q s q65_0 .ret st := goC_ops
def k65_1 : ACode :=
  .ops q65_1 .ret
@[simp] theorem xk65_1 : GoC fns Q s k65_1 st ↔ GoO fns Q s q65_1 .ret st := goC_ops
def k65_2 : ACode :=
  .ops q65_2 .ret
@[simp] theorem xk65_2 : GoC fns Q s k65_2 st ↔ GoO fns Q s q65_2 .ret st := goC_ops
def k65_3 : ACode :=
  .ops q65_3 .ret
@[simp] theorem xk65_3 : GoC fns Q s k65_3 st ↔ GoO fns Q s q65_3 .ret st := goC_ops
def k65_4 : ACode :=
  .ops q65_4 .ret
@[simp] theorem xk65_4 : GoC fns Q s k65_4 st ↔ GoO fns Q s q65_4 .ret st := goC_ops
def k65_5 : ACode :=
  .ops q65_5 .ret
@[simp] theorem xk65_5 : GoC fns Q s k65_5 st ↔ GoO fns Q s q65_5 .ret st := goC_ops
def k65_6 : ACode :=
  .ops q65_6 .ret
@[simp] theorem xk65_6 : GoC fns Q s k65_6 st ↔ GoO fns Q s q65_6 .ret st := goC_ops
def k65_7 : ACode :=
  .ops q65_7 .ret
@[simp] theorem xk65_7 : GoC fns Q s k65_7 st ↔ GoO fns Q s q65_7 .ret st := goC_ops
def k65_8 : ACode :=
  .ops q65_8 .ret
@[simp] theorem xk65_8 : GoC fns Q s k65_8 st ↔ GoO fns Q s q65_8 .ret st := goC_ops
def k65_9 : ACode :=
  .ops q65_9 .ret
@[simp] theorem xk65_9 : GoC fns Q s k65_9 st ↔ GoO fns Q s q65_9 .ret st := goC_ops
def k65_10 : ACode :=
  .ops q65_10 .ret
@[simp] theorem xk65_10 : GoC fns Q s k65_10 st ↔ GoO fns Q s q65_10 .ret st := goC_ops
def k65_11 : ACode :=
  .ops q65_11 .ret
@[simp] theorem xk65_11 : GoC fns Q s k65_11 st ↔ GoO fns Q s q65_11 .ret st := goC_ops
def k65_12 : ACode :=
  .ops q65_12 k65_11
@[simp] theorem xk65_12 : GoC fns Q s k65_12 st ↔ GoO fns Q s q65_12 k65_11 st := goC_ops
def k65_13 : ACode :=
  .ops q65_13 k65_12
@[simp] theorem xk65_13 : GoC fns Q s k65_13 st ↔ GoO fns Q s q65_13 k65_12 st := goC_ops
def k65_14 : ACode :=
  .cond (.p 117) k65_13 .skip
@[simp] theorem xk65_14 : GoC fns Q s k65_14 st ↔ GB fns Q s (peek st (.p 117)) k65_13 .skip st := goC_cond
def k65_15 : ACode :=
  .ops q65_14 k65_14
@[simp] theorem xk65_15 : GoC fns Q s k65_15 st ↔ GoO fns Q s q65_14 k65_14 st := goC_ops
def k65_16 : ACode :=
  .cond (.p 101) k65_10 k65_15
@[simp] theorem xk65_16 : GoC fns Q s k65_16 st ↔ GB fns Q s (peek st (.p 101)) k65_10 k65_15 st := goC_cond
def k65_17 : ACode :=
  .ops q65_15 k65_16
@[simp] theorem xk65_17 : GoC fns Q s k65_17 st ↔ GoO fns Q s q65_15 k65_16 st := goC_ops
def k65_18 : ACode :=
  .cond (.p 85) k65_9 k65_17
@[simp] theorem xk65_18 : GoC fns Q s k65_18 st ↔ GB fns Q s (peek st (.p 85)) k65_9 k65_17 st := goC_cond
def k65_19 : ACode :=
  .ops q65_16 k65_18
@[simp] theorem xk65_19 : GoC fns Q s k65_19 st ↔ GoO fns Q s q65_16 k65_18 st := goC_ops
def k65_20 : ACode :=
  .cond (.p 69) k65_8 k65_19
@[simp] theorem xk65_20 : GoC fns Q s k65_20 st ↔ GB fns Q s (peek st (.p 69)) k65_8 k65_19 st := goC_cond
def k65_21 : ACode :=
  .ops q65_17 .skip
@[simp] theorem xk65_21 : GoC fns Q s k65_21 st ↔ GoO fns Q s q65_17 .skip st := goC_ops
def k65_22 : ACode :=
  .cond (.p 69) .skip k65_21
@[simp] theorem xk65_22 : GoC fns Q s k65_22 st ↔ GB fns Q s (peek st (.p 69)) .skip k65_21 st := goC_cond
def k65_23 : ACode :=
  .ops q65_18 k65_22
@[simp] theorem xk65_23 : GoC fns Q s k65_23 st ↔ GoO fns Q s q65_18 k65_22 st := goC_ops
def k65_24 : ACode :=
  .cond (.p 69) .skip k65_23
@[simp] theorem xk65_24 : GoC fns Q s k65_24 st ↔ GB fns Q s (peek st (.p 69)) .skip k65_23 st := goC_cond
def k65_25 : ACode :=
  .seq k65_24 k65_20
@[simp] theorem xk65_25 : GoC fns Q s k65_25 st ↔ GoC fns Q (.sq k65_20 :: s) k65_24 st := goC_seq
def k65_26 : ACode :=
  .ops q65_19 k65_25
@[simp] theorem xk65_26 : GoC fns Q s k65_26 st ↔ GoO fns Q s q65_19 k65_25 st := goC_ops
def k65_27 : ACode :=
  .cond (.p 51) k65_7 k65_26
@[simp] theorem xk65_27 : GoC fns Q s k65_27 st ↔ GB fns Q s (peek st (.p 51)) k65_7 k65_26 st := goC_cond
def k65_28 : ACode :=
  .ops q65_20 .skip
@[simp] theorem xk65_28 : GoC fns Q s k65_28 st ↔ GoO fns Q s q65_20 .skip st := goC_ops
def k65_29 : ACode :=
  .cond (.p 51) .skip k65_28
@[simp] theorem xk65_29 : GoC fns Q s k65_29 st ↔ GB fns Q s (peek st (.p 51)) .skip k65_28 st := goC_cond
def k65_30 : ACode :=
  .ops q65_21 k65_29
@[simp] theorem xk65_30 : GoC fns Q s k65_30 st ↔ GoO fns Q s q65_21 k65_29 st := goC_ops
def k65_31 : ACode :=
  .cond (.p 51) .skip k65_30
@[simp] theorem xk65_31 : GoC fns Q s k65_31 st ↔ GB fns Q s (peek st (.p 51)) .skip k65_30 st := goC_cond
def k65_32 : ACode :=
  .seq k65_31 k65_27
@[simp] theorem xk65_32 : GoC fns Q s k65_32 st ↔ GoC fns Q (.sq k65_27 :: s) k65_31 st := goC_seq
def k65_33 : ACode :=
  .ops q65_22 k65_32
@[simp] theorem xk65_33 : GoC fns Q s k65_33 st ↔ GoO fns Q s q65_22 k65_32 st := goC_ops
def k65_34 : ACode :=
  .cond (.p 46) k65_6 k65_33
@[simp] theorem xk65_34 : GoC fns Q s k65_34 st ↔ GB fns Q s (peek st (.p 46)) k65_6 k65_33 st := goC_cond
def k65_35 : ACode :=
  .ops q65_23 k65_34
@[simp] theorem xk65_35 : GoC fns Q s k65_35 st ↔ GoO fns Q s q65_23 k65_34 st := goC_ops
def k65_36 : ACode :=
  .cond (.p 41) k65_5 k65_35
@[simp] theorem xk65_36 : GoC fns Q s k65_36 st ↔ GB fns Q s (peek st (.p 41)) k65_5 k65_35 st := goC_cond
def k65_37 : ACode :=
  .ops q65_24 k65_36
@[simp] theorem xk65_37 : GoC fns Q s k65_37 st ↔ GoO fns Q s q65_24 k65_36 st := goC_ops
def k65_38 : ACode :=
  .cond (.p 33) k65_4 k65_37
@[simp] theorem xk65_38 : GoC fns Q s k65_38 st ↔ GB fns Q s (peek st (.p 33)) k65_4 k65_37 st := goC_cond
def k65_39 : ACode :=
  .ops q65_25 .skip
@[simp] theorem xk65_39 : GoC fns Q s k65_39 st ↔ GoO fns Q s q65_25 .skip st := goC_ops
def k65_40 : ACode :=
  .cond (.p 33) .skip k65_39
@[simp] theorem xk65_40 : GoC fns Q s k65_40 st ↔ GB fns Q s (peek st (.p 33)) .skip k65_39 st := goC_cond
def k65_41 : ACode :=
  .ops q65_26 k65_40
@[simp] theorem xk65_41 : GoC fns Q s k65_41 st ↔ GoO fns Q s q65_26 k65_40 st := goC_ops
def k65_42 : ACode :=
  .cond (.p 33) .skip k65_41
@[simp] theorem xk65_42 : GoC fns Q s k65_42 st ↔ GB fns Q s (peek st (.p 33)) .skip k65_41 st := goC_cond
def k65_43 : ACode :=
  .ops q65_27 k65_42
@[simp] theorem xk65_43 : GoC fns Q s k65_43 st ↔ GoO fns Q s q65_27 k65_42 st := goC_ops
def k65_44 : ACode :=
  .cond (.p 33) .skip k65_43
@[simp] theorem xk65_44 : GoC fns Q s k65_44 st ↔ GB fns Q s (peek st (.p 33)) .skip k65_43 st := goC_cond
def k65_45 : ACode :=
  .seq k65_44 k65_38
@[simp] theorem xk65_45 : GoC fns Q s k65_45 st ↔ GoC fns Q (.sq k65_38 :: s) k65_44 st := goC_seq
def k65_46 : ACode :=
  .ops q65_28 k65_45
@[simp] theorem xk65_46 : GoC fns Q s k65_46 st ↔ GoO fns Q s q65_28 k65_45 st := goC_ops
def k65_47 : ACode :=
  .cond (.p 30) k65_3 k65_46
@[simp] theorem xk65_47 : GoC fns Q s k65_47 st ↔ GB fns Q s (peek st (.p 30)) k65_3 k65_46 st := goC_cond
def k65_48 : ACode :=
  .ops q65_29 k65_47
@[simp] theorem xk65_48 : GoC fns Q s k65_48 st ↔ GoO fns Q s q65_29 k65_47 st := goC_ops
def k65_49 : ACode :=
  .cond (.p 25) k65_2 k65_48
@[simp] theorem xk65_49 : GoC fns Q s k65_49 st ↔ GB fns Q s (peek st (.p 25)) k65_2 k65_48 st := goC_cond
def k65_50 : ACode :=
  .ops q65_30 k65_49
@[simp] theorem xk65_50 : GoC fns Q s k65_50 st ↔ GoO fns Q s q65_30 k65_49 st := goC_ops
def k65_51 : ACode :=
  .cond (.p 20) k65_1 k65_50
@[simp] theorem xk65_51 : GoC fns Q s k65_51 st ↔ GB fns Q s (peek st (.p 20)) k65_1 k65_50 st := goC_cond
def k65_52 : ACode :=
  .ops q65_31 .skip
@[simp] theorem xk65_52 : GoC fns Q s k65_52 st ↔ GoO fns Q s q65_31 .skip st := goC_ops
def k65_53 : ACode :=
  .cond (.p 20) .skip k65_52
@[simp] theorem xk65_53 : GoC fns Q s k65_53 st ↔ GB fns Q s (peek st (.p 20)) .skip k65_52 st := goC_cond
def k65_54 : ACode :=
  .ops q65_32 k65_53
@[simp] theorem xk65_54 : GoC fns Q s k65_54 st ↔ GoO fns Q s q65_32 k65_53 st := goC_ops
def k65_55 : ACode :=
  .cond (.p 20) .skip k65_54
@[simp] theorem xk65_55 : GoC fns Q s k65_55 st ↔ GB fns Q s (peek st (.p 20)) .skip k65_54 st := goC_cond
def k65_56 : ACode :=
  .ops q65_33 k65_55
@[simp] theorem xk65_56 : GoC fns Q s k65_56 st ↔ GoO fns Q s q65_33 k65_55 st := goC_ops
def k65_57 : ACode :=
  .cond (.p 20) .skip k65_56
@[simp] theorem xk65_57 : GoC fns Q s k65_57 st ↔ GB fns Q s (peek st (.p 20)) .skip k65_56 st := goC_cond
def k65_58 : ACode :=
  .seq k65_57 k65_51
@[simp] theorem xk65_58 : GoC fns Q s k65_58 st ↔ GoC fns Q (.sq k65_51 :: s) k65_57 st := goC_seq
def k65_59 : ACode :=
  .ops q65_34 k65_58
@[simp] theorem xk65_59 : GoC fns Q s k65_59 st ↔ GoO fns Q s q65_34 k65_58 st := goC_ops
def k65_60 : ACode :=
  .block 0 k65_59
@[simp] theorem xk65_60 : GoC fns Q s k65_60 st ↔ GoC fns Q (.bl 0 :: s) k65_59 st := goC_block
def k65_61 : ACode :=
  .seq k65_60 k65_0
@[simp] theorem xk65_61 : GoC fns Q s k65_61 st ↔ GoC fns Q (.sq k65_0 :: s) k65_60 st := goC_seq
def k65_62 : ACode :=
  .ops [⟨.move .head (.p 0), (some 19), none⟩] k65_61
@[simp] theorem xk65_62 : GoC fns Q s k65_62 st ↔ GoO fns Q s [⟨.move .head (.p 0), (some 19), none⟩] k65_61 st := goC_ops
def k65_63 : ACode :=
  .ops q65_35 k65_62
@[simp] theorem xk65_63 : GoC fns Q s k65_63 st ↔ GoO fns Q s q65_35 k65_62 st := goC_ops
def k65_64 : ACode :=
  .ops q65_36 k65_63
@[simp] theorem xk65_64 : GoC fns Q s k65_64 st ↔ GoO fns Q s q65_36 k65_63 st := goC_ops
def af65 : AFunc := ⟨140, k65_64, [.tmp 4, .tmp 5], fun _ _ => none⟩

theorem ok65 : ∃ hs, pFunc Tryz.prog sg hs Tryz.f65 = some af65 := ⟨fun i => 0, by kernel_rfl⟩
def q50_0 : List AOper :=
  [⟨.move .look (.p 0), (some 64), none⟩,
    ⟨.move .look (.t 1), (some 65), none⟩,
    ⟨.call 65 [(.p 64, false), (.t 65, false)], (some 66), none⟩,
    ⟨.extract 66 0, (some 67), none⟩,
    ⟨.extract 66 1, (some 68), none⟩,
    ⟨.assign (.p 67), (some 4), none⟩,
    ⟨.assign (.p 68), (some 5), none⟩]
@[simp] def eq50_0 := id q50_0.eq_1
def q50_1 : List AOper :=
  [⟨.move .look (.p 6), (some 18), none⟩,
    ⟨.bin .add 1 true (.c (.int .i64 4)) (.p 18), (some 19), none⟩,
    ⟨.move .look (.p 7), (some 20), none⟩,
    ⟨.move .look (.p 20), (some 21), none⟩,
    ⟨.move .look (.p 6), (some 22), (some (21, true))⟩,
    ⟨.bin .geq 1 true (.p 22) (.c (.int .i64 0)), (some 23), (some (21, true))⟩,
    ⟨.pick (.p 21) (.p 23) (.c (.bool false)), (some 24), none⟩,
    ⟨.move .look (.p 24), (some 25), none⟩,
    ⟨.move .head (.t 1), (some 26), (some (25, true))⟩,
    ⟨.len false (.p 26), (some 27), (some (25, true))⟩,
    ⟨.move .look (.p 6), (some 28), (some (25, true))⟩,
    ⟨.bin .add 1 true (.c (.int .i64 4)) (.p 28), (some 29), (some (25, true))⟩,
    ⟨.bin .geq 1 false (.p 27) (.p 29), (some 30), (some (25, true))⟩,
    ⟨.pick (.p 25) (.p 30) (.c (.bool false)), (some 31), none⟩,
    ⟨.assign (.p 19), (some 4), none⟩,
    ⟨.assign (.p 31), (some 5), none⟩]
@[simp] def eq50_1 := id q50_1.eq_1
def q50_2 : List AOper :=
  [⟨.move .take (.p 6), (some 36), none⟩,
    ⟨.move .look (.p 7), (some 37), none⟩,
    ⟨.move .look (.p 37), (some 38), none⟩,
    ⟨.move .look (.p 6), (some 39), (some (38, true))⟩,
    ⟨.bin .geq 1 true (.p 39) (.c (.int .i64 0)), (some 40), (some (38, true))⟩,
    ⟨.pick (.p 38) (.p 40) (.c (.bool false)), (some 41), none⟩,
    ⟨.move .look (.p 41), (some 42), none⟩,
    ⟨.move .head (.t 1), (some 43), (some (42, true))⟩,
    ⟨.len false (.p 43), (some 44), (some (42, true))⟩,
    ⟨.move .look (.p 6), (some 45), (some (42, true))⟩,
    ⟨.bin .geq 1 false (.p 44) (.p 45), (some 46), (some (42, true))⟩,
    ⟨.pick (.p 42) (.p 46) (.c (.bool false)), (some 47), none⟩,
    ⟨.assign (.p 36), (some 4), none⟩,
    ⟨.assign (.p 47), (some 5), none⟩]
@[simp] def eq50_2 := id q50_2.eq_1
def q50_3 : List AOper :=
  [⟨.move .look (.p 6), (some 50), none⟩,
    ⟨.bin .add 1 true (.c (.int .i64 16)) (.p 50), (some 51), none⟩,
    ⟨.move .look (.p 7), (some 52), none⟩,
    ⟨.move .look (.p 52), (some 53), none⟩,
    ⟨.move .look (.p 6), (some 54), (some (53, true))⟩,
    ⟨.bin .geq 1 true (.p 54) (.c (.int .i64 0)), (some 55), (some (53, true))⟩,
    ⟨.pick (.p 53) (.p 55) (.c (.bool false)), (some 56), none⟩,
    ⟨.move .look (.p 56), (some 57), none⟩,
    ⟨.move .head (.t 1), (some 58), (some (57, true))⟩,
    ⟨.len false (.p 58), (some 59), (some (57, true))⟩,
    ⟨.move .look (.p 6), (some 60), (some (57, true))⟩,
    ⟨.bin .add 1 true (.c (.int .i64 16)) (.p 60), (some 61), (some (57, true))⟩,
    ⟨.bin .geq 1 false (.p 59) (.p 61), (some 62), (some (57, true))⟩,
    ⟨.pick (.p 57) (.p 62) (.c (.bool false)), (some 63), none⟩,
    ⟨.assign (.p 51), (some 4), none⟩,
    ⟨.assign (.p 63), (some 5), none⟩]
@[simp] def eq50_3 := id q50_3.eq_1
def q50_4 : List AOper :=
  [⟨.bin .eql 1 true (.p 13) (.c (.int .i64 12)), (some 49), none⟩,
    ⟨.assign (.p 49), (some 48), none⟩]
@[simp] def eq50_4 := id q50_4.eq_1
def q50_5 : List AOper :=
  [⟨.bin .eql 1 true (.p 13) (.c (.int .i64 15)), (some 35), none⟩,
    ⟨.assign (.p 35), (some 32), none⟩]
@[simp] def eq50_5 := id q50_5.eq_1
def q50_6 : List AOper :=
  [⟨.bin .eql 1 true (.p 13) (.c (.int .i64 4)), (some 34), none⟩,
    ⟨.assign (.p 34), (some 32), none⟩]
@[simp] def eq50_6 := id q50_6.eq_1
def q50_7 : List AOper :=
  [⟨.bin .eql 1 true (.p 13) (.c (.int .i64 3)), (some 33), none⟩,
    ⟨.assign (.p 33), (some 32), none⟩]
@[simp] def eq50_7 := id q50_7.eq_1
def q50_8 : List AOper :=
  [⟨.bin .eql 1 true (.p 13) (.c (.int .i64 14)), (some 17), none⟩,
    ⟨.assign (.p 17), (some 14), none⟩]
@[simp] def eq50_8 := id q50_8.eq_1
def q50_9 : List AOper :=
  [⟨.bin .eql 1 true (.p 13) (.c (.int .i64 13)), (some 16), none⟩,
    ⟨.assign (.p 16), (some 14), none⟩]
@[simp] def eq50_9 := id q50_9.eq_1
def q50_10 : List AOper :=
  [⟨.bin .eql 1 true (.p 13) (.c (.int .i64 2)), (some 15), none⟩,
    ⟨.assign (.p 15), (some 14), none⟩]
@[simp] def eq50_10 := id q50_10.eq_1
def q50_11 : List AOper :=
  [⟨.move .look (.t 1), (some 9), none⟩,
    ⟨.call 47 [(.t 9, false)], (some 10), none⟩,
    ⟨.move .look (.t 10), (some 8), none⟩,
    ⟨.extract 8 0, (some 11), none⟩,
    ⟨.extract 8 1, (some 12), none⟩,
    ⟨.assign (.p 11), (some 6), none⟩,
    ⟨.assign (.p 12), (some 7), none⟩]
@[simp] def eq50_11 := id q50_11.eq_1
def q50_12 : List AOper :=
  [⟨.assign (.c (.int .i64 0)), (some 4), none⟩,
    ⟨.assign (.c (.bool false)), (some 5), none⟩]
@[simp] def eq50_12 := id q50_12.eq_1
def k50_0 : ACode :=
  .ops q50_0 .ret
@[simp] theorem xk50_0 : GoC fns Q s k50_0 st ↔ GoO fns Q s q50_0 .ret st := goC_ops
def k50_1 : ACode :=
  .ops q50_1 .ret
@[simp] theorem xk50_1 : GoC fns Q s k50_1 st ↔ GoO fns Q s q50_1 .ret st := goC_ops
def k50_2 : ACode :=
  .ops q50_2 .ret
@[simp] theorem xk50_2 : GoC fns Q s k50_2 st ↔ GoO fns Q s q50_2 .ret st := goC_ops
def k50_3 : ACode :=
  .ops q50_3 .ret
@[simp] theorem xk50_3 : GoC fns Q s k50_3 st ↔ GoO fns Q s q50_3 .ret st := goC_ops
def k50_4 : ACode :=
  .cond (.p 48) k50_3 .skip
@[simp] theorem xk50_4 : GoC fns Q s k50_4 st ↔ GB fns Q s (peek st (.p 48)) k50_3 .skip st := goC_cond
def k50_5 : ACode :=
  .ops q50_4 k50_4
@[simp] theorem xk50_5 : GoC fns Q s k50_5 st ↔ GoO fns Q s q50_4 k50_4 st := goC_ops
def k50_6 : ACode :=
  .cond (.p 32) k50_2 k50_5
@[simp] theorem xk50_6 : GoC fns Q s k50_6 st ↔ GB fns Q s (peek st (.p 32)) k50_2 k50_5 st := goC_cond
def k50_7 : ACode :=
  .ops q50_5 .skip
@[simp] theorem xk50_7 : GoC fns Q s k50_7 st ↔ GoO fns Q s q50_5 .skip st := goC_ops
def k50_8 : ACode :=
  .cond (.p 32) .skip k50_7
@[simp] theorem xk50_8 : GoC fns Q s k50_8 st ↔ GB fns Q s (peek st (.p 32)) .skip k50_7 st := goC_cond
def k50_9 : ACode :=
  .ops q50_6 k50_8
@[simp] theorem xk50_9 : GoC fns Q s k50_9 st ↔ GoO fns Q s q50_6 k50_8 st := goC_ops
def k50_10 : ACode :=
  .cond (.p 32) .skip k50_9
@[simp] theorem xk50_10 : GoC fns Q s k50_10 st ↔ GB fns Q s (peek st (.p 32)) .skip k50_9 st := goC_cond
def k50_11 : ACode :=
  .seq k50_10 k50_6
@[simp] theorem xk50_11 : GoC fns Q s k50_11 st ↔ GoC fns Q (.sq k50_6 :: s) k50_10 st := goC_seq
def k50_12 : ACode :=
  .ops q50_7 k50_11
@[simp] theorem xk50_12 : GoC fns Q s k50_12 st ↔ GoO fns Q s q50_7 k50_11 st := goC_ops
def k50_13 : ACode :=
  .cond (.p 14) k50_1 k50_12
@[simp] theorem xk50_13 : GoC fns Q s k50_13 st ↔ GB fns Q s (peek st (.p 14)) k50_1 k50_12 st := goC_cond
def k50_14 : ACode :=
  .ops q50_8 .skip
@[simp] theorem xk50_14 : GoC fns Q s k50_14 st ↔ GoO fns Q s q50_8 .skip st := goC_ops
def k50_15 : ACode :=
  .cond (.p 14) .skip k50_14
@[simp] theorem xk50_15 : GoC fns Q s k50_15 st ↔ GB fns Q s (peek st (.p 14)) .skip k50_14 st := goC_cond
def k50_16 : ACode :=
  .ops q50_9 k50_15
@[simp] theorem xk50_16 : GoC fns Q s k50_16 st ↔ GoO fns Q s q50_9 k50_15 st := goC_ops
def k50_17 : ACode :=
  .cond (.p 14) .skip k50_16
@[simp] theorem xk50_17 : GoC fns Q s k50_17 st ↔ GB fns Q s (peek st (.p 14)) .skip k50_16 st := goC_cond
def k50_18 : ACode :=
  .seq k50_17 k50_13
@[simp] theorem xk50_18 : GoC fns Q s k50_18 st ↔ GoC fns Q (.sq k50_13 :: s) k50_17 st := goC_seq
def k50_19 : ACode :=
  .ops q50_10 k50_18
@[simp] theorem xk50_19 : GoC fns Q s k50_19 st ↔ GoO fns Q s q50_10 k50_18 st := goC_ops
def k50_20 : ACode :=
  .block 0 k50_19
@[simp] theorem xk50_20 : GoC fns Q s k50_20 st ↔ GoC fns Q (.bl 0 :: s) k50_19 st := goC_block
def k50_21 : ACode :=
  .seq k50_20 k50_0
@[simp] theorem xk50_21 : GoC fns Q s k50_21 st ↔ GoC fns Q (.sq k50_0 :: s) k50_20 st := goC_seq
def k50_22 : ACode :=
  .ops [⟨.move .head (.p 0), (some 13), none⟩] k50_21
@[simp] theorem xk50_22 : GoC fns Q s k50_22 st ↔ GoO fns Q s [⟨.move .head (.p 0), (some 13), none⟩] k50_21 st := goC_ops
def k50_23 : ACode :=
  .ops q50_11 k50_22
@[simp] theorem xk50_23 : GoC fns Q s k50_23 st ↔ GoO fns Q s q50_11 k50_22 st := goC_ops
def k50_24 : ACode :=
  .ops q50_12 k50_23
@[simp] theorem xk50_24 : GoC fns Q s k50_24 st ↔ GoO fns Q s q50_12 k50_23 st := goC_ops
def af50 : AFunc := ⟨69, k50_24, [.tmp 4, .tmp 5], fun _ _ => none⟩

theorem ok50 : ∃ hs, pFunc Tryz.prog sg hs Tryz.f50 = some af50 := ⟨fun i => 0, by kernel_rfl⟩
def q48_0 : List AOper :=
  [⟨.move .look (.p 5), (some 33), none⟩,
    ⟨.bin .add 1 true (.c (.int .i64 1)) (.p 33), (some 34), none⟩,
    ⟨.move .look (.p 7), (some 35), none⟩,
    ⟨.bin .add 1 false (.p 34) (.p 35), (some 36), none⟩,
    ⟨.move .take (.p 8), (some 37), none⟩,
    ⟨.assign (.p 36), (some 2), none⟩,
    ⟨.assign (.p 37), (some 3), none⟩]
@[simp] def eq48_0 := id q48_0.eq_1
def q48_1 : List AOper :=
  [⟨.move .look (.t 0), (some 22), none⟩,
    ⟨.indexAddr 1 (.t 22) (.c (.int .i64 0)), (some 23), none⟩,
    ⟨.load .look false 1 (.p 23), (some 24), none⟩,
    ⟨.convInt .i64 (.p 24), (some 25), none⟩,
    ⟨.move .look (.t 0), (some 26), none⟩,
    ⟨.move .look (.p 5), (some 27), none⟩,
    ⟨.bin .add 1 true (.c (.int .i64 1)) (.p 27), (some 28), none⟩,
    ⟨.sliceSl 1 (.t 26) (some (.p 28)) none, (some 29), none⟩,
    ⟨.call 50 [(.p 25, false), (.t 29, false)], (some 30), none⟩,
    ⟨.move .look (.t 30), (some 21), none⟩,
    ⟨.extract 21 0, (some 31), none⟩,
    ⟨.extract 21 1, (some 32), none⟩,
    ⟨.assign (.p 31), (some 7), none⟩,
    ⟨.assign (.p 32), (some 8), none⟩]
@[simp] def eq48_1 := id q48_1.eq_1
def q48_2 : List AOper :=
  [⟨.assign (.c (.int .i64 0)), (some 2), none⟩,
    ⟨.assign (.c (.bool false)), (some 3), none⟩]
@[simp] def eq48_2 := id q48_2.eq_1
def q48_3 : List AOper :=
  [⟨.move .look (.p 6), (some 19), none⟩,
    ⟨.un .not (.p 19), (some 20), none⟩]
@[simp] def eq48_3 := id q48_3.eq_1
def q48_4 : List AOper :=
  [⟨.move .look (.t 0), (some 13), none⟩,
    ⟨.sliceSl 1 (.t 13) (some (.c (.int .i64 1))) none, (some 14), none⟩,
    ⟨.call 64 [(.t 14, false)], (some 15), none⟩,
    ⟨.move .look (.t 15), (some 12), none⟩,
    ⟨.extract 12 0, (some 16), none⟩,
    ⟨.extract 12 1, (some 17), none⟩,
    ⟨.extract 12 2, (some 18), none⟩,
    ⟨.assign (.p 16), (some 4), none⟩,
    ⟨.assign (.p 17), (some 5), none⟩,
    ⟨.assign (.p 18), (some 6), none⟩]
@[simp] def eq48_4 := id q48_4.eq_1
def q48_5 : List AOper :=
  [⟨.assign (.c (.int .i64 0)), (some 2), none⟩,
    ⟨.assign (.c (.bool false)), (some 3), none⟩]
@[simp] def eq48_5 := id q48_5.eq_1
def q48_6 : List AOper :=
  [⟨.move .head (.t 0), (some 9), none⟩,
    ⟨.len false (.p 9), (some 10), none⟩,
    ⟨.bin .eql 1 true (.p 10) (.c (.int .i64 0)), (some 11), none⟩]
@[simp] def eq48_6 := id q48_6.eq_1
def q48_7 : List AOper :=
  [⟨.assign (.c (.int .i64 0)), (some 2), none⟩,
    ⟨.assign (.c (.bool false)), (some 3), none⟩]
@[simp] def eq48_7 := id q48_7.eq_1
def k48_0 : ACode :=
  .ops q48_0 .ret
@[simp] theorem xk48_0 : GoC fns Q s k48_0 st ↔ GoO fns Q s q48_0 .ret st := goC_ops
def k48_1 : ACode :=
  .ops q48_1 k48_0
@[simp] theorem xk48_1 : GoC fns Q s k48_1 st ↔ GoO fns Q s q48_1 k48_0 st := goC_ops
def k48_2 : ACode :=
  .ops q48_2 .ret
@[simp] theorem xk48_2 : GoC fns Q s k48_2 st ↔ GoO fns Q s q48_2 .ret st := goC_ops
def k48_3 : ACode :=
  .cond (.p 20) k48_2 .skip
@[simp] theorem xk48_3 : GoC fns Q s k48_3 st ↔ GB fns Q s (peek st (.p 20)) k48_2 .skip st := goC_cond
def k48_4 : ACode :=
  .seq k48_3 k48_1
@[simp] theorem xk48_4 : GoC fns Q s k48_4 st ↔ GoC fns Q (.sq k48_1 :: s) k48_3 st := goC_seq
def k48_5 : ACode :=
  .ops q48_3 k48_4
@[simp] theorem xk48_5 : GoC fns Q s k48_5 st ↔ GoO fns Q s q48_3 k48_4 st := goC_ops
def k48_6 : ACode :=
  .ops q48_4 k48_5
@[simp] theorem xk48_6 : GoC fns Q s k48_6 st ↔ GoO fns Q s q48_4 k48_5 st := goC_ops
def k48_7 : ACode :=
  .ops q48_5 .ret
@[simp] theorem xk48_7 : GoC fns Q s k48_7 st ↔ GoO fns Q s q48_5 .ret st := goC_ops
def k48_8 : ACode :=
  .cond (.p 11) k48_7 .skip
@[simp] theorem xk48_8 : GoC fns Q s k48_8 st ↔ GB fns Q s (peek st (.p 11)) k48_7 .skip st := goC_cond
def k48_9 : ACode :=
  .seq k48_8 k48_6
@[simp] theorem xk48_9 : GoC fns Q s k48_9 st ↔ GoC fns Q (.sq k48_6 :: s) k48_8 st := goC_seq
def k48_10 : ACode :=
  .ops q48_6 k48_9
@[simp] theorem xk48_10 : GoC fns Q s k48_10 st ↔ GoO fns Q s q48_6 k48_9 st := goC_ops
def k48_11 : ACode :=
  .ops q48_7 k48_10
@[simp] theorem xk48_11 : GoC fns Q s k48_11 st ↔ GoO fns Q s q48_7 k48_10 st := goC_ops
def af48 : AFunc := ⟨38, k48_11, [.tmp 2, .tmp 3], fun _ _ => none⟩

theorem ok48 : ∃ hs, pFunc Tryz.prog sg hs Tryz.f48 = some af48 := ⟨fun i => 0, by kernel_rfl⟩
def q49_0 : List AOper :=
  [⟨.move .look (.p 3), (some 13), none⟩,
    ⟨.move .look (.t 0), (some 14), none⟩,
    ⟨.indexAddr 1 (.t 14) (.c (.int .i64 0)), (some 15), none⟩,
    ⟨.load .look false 1 (.p 15), (some 16), none⟩,
    ⟨.convInt .i64 (.p 16), (some 17), none⟩,
    ⟨.move .look (.t 0), (some 18), none⟩,
    ⟨.move .look (.p 4), (some 19), none⟩,
    ⟨.bin .add 1 true (.c (.int .i64 1)) (.p 19), (some 20), none⟩,
    ⟨.sliceSl 1 (.t 18) (some (.p 20)) none, (some 21), none⟩,
    ⟨.move .look (.t 0), (some 23), none⟩,
    ⟨.build [.int .i64 0, .slice .nil 0 1 []] [(0, 1, .p 17), (1, 1, .t 21)], (some 22), none⟩,
    ⟨.build [.str [], .int .i64 0, .slice .nil 0 1 [], .slice .nil 0 1 []] [(0, 1, .p 13), (1, 2, .p 22), (3, 1, .t 23)], (some 24), none⟩,
    ⟨.store 4 (.p 2) (.p 24), none, none⟩]
@[simp] def eq49_0 := id q49_0.eq_1
def q49_1 : List AOper :=
  [⟨.move .look (.t 0), (some 7), none⟩,
    ⟨.sliceSl 1 (.t 7) (some (.c (.int .i64 1))) none, (some 8), none⟩,
    ⟨.call 64 [(.t 8, false)], (some 9), none⟩,
    ⟨.move .look (.t 9), (some 6), none⟩,
    ⟨.extract 6 0, (some 10), none⟩,
    ⟨.extract 6 1, (some 11), none⟩,
    ⟨.extract 6 2, (some 12), none⟩,
    ⟨.assign (.p 10), (some 3), none⟩,
    ⟨.assign (.p 11), (some 4), none⟩,
    ⟨.assign (.p 12), (some 5), none⟩]
@[simp] def eq49_1 := id q49_1.eq_1
def k49_0 : ACode :=
  .ops q49_0 .ret
@[simp] theorem xk49_0 : GoC fns Q s k49_0 st ↔ GoO fns Q s q49_0 .ret st := goC_ops
def k49_1 : ACode :=
  .ops q49_1 k49_0
@[simp] theorem xk49_1 : GoC fns Q s k49_1 st ↔ GoO fns Q s q49_1 k49_0 st := goC_ops
def k49_2 : ACode :=
  .ops [⟨.newbox 2 [.str [], .int .i64 0, .slice .nil 0 1 [], .slice .nil 0 1 []], (some 2), none⟩] k49_1
@[simp] theorem xk49_2 : GoC fns Q s k49_2 st ↔ GoO fns Q s [⟨.newbox 2 [.str [], .int .i64 0, .slice .nil 0 1 [], .slice .nil 0 1 []], (some 2), none⟩] k49_1 st := goC_ops
def af49 : AFunc := ⟨25, k49_2, [.cell 2 true 4], fun _ _ => none⟩

theorem ok49 : ∃ hs, pFunc Tryz.prog sg hs Tryz.f49 = some af49 := ⟨fun i => 0, by kernel_rfl⟩
def q32_0 : List AOper :=
  [⟨.move .take (.t 2), (some 50), none⟩,
    ⟨.move .take (.t 3), (some 51), none⟩,
    ⟨.assign (.t 50), (some 2), none⟩,
    ⟨.assign (.t 51), (some 3), none⟩,
    ⟨.assign (.c (.bool true)), (some 4), none⟩]
@[simp] def eq32_0 := id q32_0.eq_1
def q32_1 : List AOper :=
  [⟨.move .look (.t 3), (some 44), none⟩,
    ⟨.move .head (.p 8), (some 45), none⟩,
    ⟨.sliceSl 1 (.t 44) (some (.p 45)) none, (some 46), none⟩,
    ⟨.move .look (.p 7), (some 47), none⟩,
    ⟨.move .look (.p 8), (some 48), none⟩,
    ⟨.bin .sub 1 false (.p 47) (.p 48), (some 49), none⟩,
    ⟨.assign (.t 46), (some 3), none⟩,
    ⟨.assign (.p 49), (some 7), none⟩]
@[simp] def eq32_1 := id q32_1.eq_1
def q32_2 : List AOper :=
  [⟨.move .take (.t 2), (some 37), none⟩,
    ⟨.move .look (.t 3), (some 38), none⟩,
    ⟨.move .head (.p 8), (some 39), none⟩,
    ⟨.sliceSl 1 (.t 38) none (some (.p 39)), (some 40), none⟩,
    ⟨.call 49 [(.t 40, false)], (some 41), none⟩,
    ⟨.buildSl 76 4 [.str [], .int .i64 0, .slice .nil 0 1 [], .slice .nil 0 1 []] [(0, 4, .p 41)], (some 42), none⟩,
    ⟨.append 76 4 72 false (.t 37) (.p 42), (some 43), none⟩,
    ⟨.assign (.t 43), (some 2), none⟩]
@[simp] def eq32_2 := id q32_2.eq_1
def q32_3 : List AOper :=
  [⟨.move .take (.t 2), (some 35), none⟩,
    ⟨.move .take (.t 3), (some 36), none⟩,
    ⟨.assign (.t 35), (some 2), none⟩,
    ⟨.assign (.t 36), (some 3), none⟩,
    ⟨.assign (.c (.bool false)), (some 4), none⟩]
@[simp] def eq32_3 := id q32_3.eq_1
def q32_4 : List AOper :=
  [⟨.move .look (.p 9), (some 33), none⟩,
    ⟨.un .not (.p 33), (some 34), none⟩]
@[simp] def eq32_4 := id q32_4.eq_1
def q32_5 : List AOper :=
  [⟨.move .look (.t 3), (some 29), none⟩,
    ⟨.call 48 [(.t 29, false)], (some 30), none⟩,
    ⟨.move .look (.t 30), (some 28), none⟩,
    ⟨.extract 28 0, (some 31), none⟩,
    ⟨.extract 28 1, (some 32), none⟩,
    ⟨.assign (.p 31), (some 8), none⟩,
    ⟨.assign (.p 32), (some 9), none⟩]
@[simp] def eq32_5 := id q32_5.eq_1
def q32_6 : List AOper :=
  [⟨.move .look (.p 7), (some 26), none⟩,
    ⟨.bin .gtr 1 true (.p 26) (.c (.int .i64 1)), (some 27), none⟩]
@[simp] def eq32_6 := id q32_6.eq_1
def q32_7 : List AOper :=
  [⟨.move .look (.p 5), (some 24), none⟩,
    ⟨.bin .sub 1 true (.p 24) (.c (.int .i64 4)), (some 25), none⟩,
    ⟨.assign (.p 25), (some 7), none⟩]
@[simp] def eq32_7 := id q32_7.eq_1
def q32_8 : List AOper :=
  [⟨.move .look (.t 0), (some 22), none⟩,
    ⟨.sliceSl 1 (.t 22) (some (.c (.int .i64 4))) none, (some 23), none⟩,
    ⟨.assign (.t 23), (some 3), none⟩]
@[simp] def eq32_8 := id q32_8.eq_1
def q32_9 : List AOper :=
  [⟨.move .take (.t 0), (some 21), none⟩,
    ⟨.assign (.c (.slice .nil 0 1 [])), (some 2), none⟩,
    ⟨.assign (.t 21), (some 3), none⟩,
    ⟨.assign (.c (.bool false)), (some 4), none⟩]
@[simp] def eq32_9 := id q32_9.eq_1
def q32_10 : List AOper :=
  [⟨.move .look (.p 6), (some 15), none⟩,
    ⟨.un .not (.p 15), (some 16), none⟩,
    ⟨.move .look (.p 16), (some 17), none⟩,
    ⟨.move .look (.p 5), (some 18), (some (17, false))⟩,
    ⟨.bin .lss 1 true (.p 18) (.c (.int .i64 0)), (some 19), (some (17, false))⟩,
    ⟨.pick (.p 17) (.c (.bool true)) (.p 19), (some 20), none⟩]
@[simp] def eq32_10 := id q32_10.eq_1
def q32_11 : List AOper :=
  [⟨.move .look (.t 0), (some 11), none⟩,
    ⟨.call 47 [(.t 11, false)], (some 12), none⟩,
    ⟨.move .look (.t 12), (some 10), none⟩,
    ⟨.extract 10 0, (some 13), none⟩,
    ⟨.extract 10 1, (some 14), none⟩,
    ⟨.assign (.p 13), (some 5), none⟩,
    ⟨.assign (.p 14), (some 6), none⟩]
@[simp] def eq32_11 := id q32_11.eq_1
def q32_12 : List AOper :=
  [⟨.assign (.c (.slice .nil 0 1 [])), (some 2), none⟩,
    ⟨.assign (.c (.slice .nil 0 1 [])), (some 3), none⟩,
    ⟨.assign (.c (.bool false)), (some 4), none⟩]
@[simp] def eq32_12 := id q32_12.eq_1
def k32_0 : ACode :=
  .ops q32_0 .ret
@[simp] theorem xk32_0 : GoC fns Q s k32_0 st ↔ GoO fns Q s q32_0 .ret st := goC_ops
def k32_1 : ACode :=
  .ops q32_1 .skip
@[simp] theorem xk32_1 : GoC fns Q s k32_1 st ↔ GoO fns Q s q32_1 .skip st := goC_ops
def k32_2 : ACode :=
  .ops q32_2 k32_1
@[simp] theorem xk32_2 : GoC fns Q s k32_2 st ↔ GoO fns Q s q32_2 k32_1 st := goC_ops
def k32_3 : ACode :=
  .ops q32_3 .ret
@[simp] theorem xk32_3 : GoC fns Q s k32_3 st ↔ GoO fns Q s q32_3 .ret st := goC_ops
def k32_4 : ACode :=
  .cond (.p 34) k32_3 .skip
@[simp] theorem xk32_4 : GoC fns Q s k32_4 st ↔ GB fns Q s (peek st (.p 34)) k32_3 .skip st := goC_cond
def k32_5 : ACode :=
  .seq k32_4 k32_2
@[simp] theorem xk32_5 : GoC fns Q s k32_5 st ↔ GoC fns Q (.sq k32_2 :: s) k32_4 st := goC_seq
def k32_6 : ACode :=
  .ops q32_4 k32_5
@[simp] theorem xk32_6 : GoC fns Q s k32_6 st ↔ GoO fns Q s q32_4 k32_5 st := goC_ops
def k32_7 : ACode :=
  .ops q32_5 k32_6
@[simp] theorem xk32_7 : GoC fns Q s k32_7 st ↔ GoO fns Q s q32_5 k32_6 st := goC_ops
def k32_8 : ACode :=
  .block 1 k32_7
@[simp] theorem xk32_8 : GoC fns Q s k32_8 st ↔ GoC fns Q (.bl 1 :: s) k32_7 st := goC_block
def k32_9 : ACode :=
  .cond (.p 27) .skip (.exit 0)
@[simp] theorem xk32_9 : GoC fns Q s k32_9 st ↔ GB fns Q s (peek st (.p 27)) .skip (.exit 0) st := goC_cond
def k32_10 : ACode :=
  .seq k32_9 k32_8
@[simp] theorem xk32_10 : GoC fns Q s k32_10 st ↔ GoC fns Q (.sq k32_8 :: s) k32_9 st := goC_seq
def k32_11 : ACode :=
  .ops q32_6 k32_10
@[simp] theorem xk32_11 : GoC fns Q s k32_11 st ↔ GoO fns Q s q32_6 k32_10 st := goC_ops
def lc32_0 : ACode :=
  k32_11
@[simp] theorem xlc32_0 : GoC fns Q s lc32_0 st ↔ GoC fns Q s k32_11 st := Iff.rfl
def k32_13 : ACode :=
  .loop lc32_0
@[simp] theorem xk32_13 : GoC fns Q s k32_13 st ↔ (LoopR fns lc32_0 st fun r => GoE fns Q s r.1 r.2) := goC_loop
def k32_14 : ACode :=
  .block 0 k32_13
@[simp] theorem xk32_14 : GoC fns Q s k32_14 st ↔ GoC fns Q (.bl 0 :: s) k32_13 st := goC_block
def k32_15 : ACode :=
  .seq k32_14 k32_0
@[simp] theorem xk32_15 : GoC fns Q s k32_15 st ↔ GoC fns Q (.sq k32_0 :: s) k32_14 st := goC_seq
def k32_16 : ACode :=
  .ops q32_7 k32_15
@[simp] theorem xk32_16 : GoC fns Q s k32_16 st ↔ GoO fns Q s q32_7 k32_15 st := goC_ops
def k32_17 : ACode :=
  .ops q32_8 k32_16
@[simp] theorem xk32_17 : GoC fns Q s k32_17 st ↔ GoO fns Q s q32_8 k32_16 st := goC_ops
def k32_18 : ACode :=
  .ops q32_9 .ret
@[simp] theorem xk32_18 : GoC fns Q s k32_18 st ↔ GoO fns Q s q32_9 .ret st := goC_ops
def k32_19 : ACode :=
  .cond (.p 20) k32_18 .skip
@[simp] theorem xk32_19 : GoC fns Q s k32_19 st ↔ GB fns Q s (peek st (.p 20)) k32_18 .skip st := goC_cond
def k32_20 : ACode :=
  .seq k32_19 k32_17
@[simp] theorem xk32_20 : GoC fns Q s k32_20 st ↔ GoC fns Q (.sq k32_17 :: s) k32_19 st := goC_seq
def k32_21 : ACode :=
  .ops q32_10 k32_20
@[simp] theorem xk32_21 : GoC fns Q s k32_21 st ↔ GoO fns Q s q32_10 k32_20 st := goC_ops
def k32_22 : ACode :=
  .ops q32_11 k32_21
@[simp] theorem xk32_22 : GoC fns Q s k32_22 st ↔ GoO fns Q s q32_11 k32_21 st := goC_ops
def k32_23 : ACode :=
  .ops q32_12 k32_22
@[simp] theorem xk32_23 : GoC fns Q s k32_23 st ↔ GoO fns Q s q32_12 k32_22 st := goC_ops
def af32 : AFunc := ⟨52, k32_23, [.tmp 2, .tmp 3, .tmp 4], fun _ _ => none⟩

theorem ok32 : ∃ hs, pFunc Tryz.prog sg hs Tryz.f32 = some af32 := ⟨fun i => 0, by kernel_rfl⟩
def q33_0 : List AOper :=
  [⟨.move .take (.p 4), (some 15), none⟩,
    ⟨.assign (.p 15), (some 2), none⟩]
@[simp] def eq33_0 := id q33_0.eq_1
def q33_1 : List AOper :=
  [⟨.fieldAddr 1 (.p 1), (some 6), none⟩,
    ⟨.fieldAddr 0 (.p 6), (some 7), none⟩,
    ⟨.load .look false 1 (.p 7), (some 8), none⟩,
    ⟨.fieldAddr 1 (.p 1), (some 9), none⟩,
    ⟨.fieldAddr 1 (.p 9), (some 10), none⟩,
    ⟨.load .look false 1 (.p 10), (some 11), none⟩,
    ⟨.call 50 [(.p 8, false), (.t 11, false)], (some 12), none⟩,
    ⟨.move .look (.t 12), (some 5), none⟩,
    ⟨.extract 5 0, (some 13), none⟩,
    ⟨.extract 5 1, (some 14), none⟩,
    ⟨.assign (.p 13), (some 3), none⟩,
    ⟨.assign (.p 14), (some 4), none⟩]
@[simp] def eq33_1 := id q33_1.eq_1
def q33_2 : List AOper :=
  [⟨.box 1 (.p 0), (some 1), none⟩,
    ⟨.assign (.c (.bool false)), (some 2), none⟩]
@[simp] def eq33_2 := id q33_2.eq_1
def k33_0 : ACode :=
  .ops q33_0 .ret
@[simp] theorem xk33_0 : GoC fns Q s k33_0 st ↔ GoO fns Q s q33_0 .ret st := goC_ops
def k33_1 : ACode :=
  .ops q33_1 k33_0
@[simp] theorem xk33_1 : GoC fns Q s k33_1 st ↔ GoO fns Q s q33_1 k33_0 st := goC_ops
def k33_2 : ACode :=
  .ops q33_2 k33_1
@[simp] theorem xk33_2 : GoC fns Q s k33_2 st ↔ GoO fns Q s q33_2 k33_1 st := goC_ops
def af33 : AFunc := ⟨16, k33_2, [.tmp 2], fun _ _ => none⟩

theorem ok33 : ∃ hs, pFunc Tryz.prog sg hs Tryz.f33 = some af33 := ⟨fun i => 0, by kernel_rfl⟩
def q15_0 : List AOper :=
  [⟨.move .look (.p 8), (some 25), none⟩,
    ⟨.bin .add 1 true (.p 25) (.c (.int .i64 1)), (some 26), none⟩,
    ⟨.assign (.p 26), (some 8), none⟩]
@[simp] def eq15_0 := id q15_0.eq_1
def q15_1 : List AOper :=
  [⟨.fieldAddr 1 (.p 9), (some 55), none⟩,
    ⟨.load .look false 1 (.p 55), (some 56), none⟩,
    ⟨.move .look (.t 1), (some 57), none⟩,
    ⟨.sliceSl 1 (.t 57) (some (.c (.int .i64 1))) none, (some 58), none⟩,
    ⟨.call 15 [(.t 56, false), (.t 58, false)], (some 59), none⟩,
    ⟨.assign (.p 59), (some 4), none⟩]
@[simp] def eq15_1 := id q15_1.eq_1
def q15_2 : List AOper :=
  [⟨.fieldAddr 0 (.p 9), (some 47), none⟩,
    ⟨.load .head false 1 (.p 47), (some 48), none⟩,
    ⟨.bin .neq 1 true (.p 48) (.c (.int .i64 3)), (some 49), none⟩,
    ⟨.move .look (.p 49), (some 50), none⟩,
    ⟨.fieldAddr 0 (.p 9), (some 51), (some (50, true))⟩,
    ⟨.load .head false 1 (.p 51), (some 52), (some (50, true))⟩,
    ⟨.bin .neq 1 true (.p 52) (.c (.int .i64 4)), (some 53), (some (50, true))⟩,
    ⟨.pick (.p 50) (.p 53) (.c (.bool false)), (some 54), none⟩]
@[simp] def eq15_2 := id q15_2.eq_1
def q15_3 : List AOper :=
  [⟨.move .look (.t 5), (some 41), none⟩,
    ⟨.move .look (.p 8), (some 42), none⟩,
    ⟨.indexAddr 4 (.t 41) (.p 42), (some 43), none⟩,
    ⟨.load .look true 4 (.p 43), (some 44), none⟩,
    ⟨.call 33 [(.p 44, false)], (some 45), none⟩,
    ⟨.un .not (.p 45), (some 46), none⟩]
@[simp] def eq15_3 := id q15_3.eq_1
def q15_4 : List AOper :=
  [⟨.move .look (.t 5), (some 36), none⟩,
    ⟨.move .look (.p 8), (some 37), none⟩,
    ⟨.indexAddr 4 (.t 36) (.p 37), (some 38), none⟩,
    ⟨.fieldAddr 1 (.p 38), (some 39), none⟩,
    ⟨.load .take true 2 (.p 39), (some 40), none⟩,
    ⟨.newbox 9 [.int .i64 0, .slice .nil 0 1 []], (some 9), none⟩,
    ⟨.store 2 (.p 9) (.p 40), none, none⟩]
@[simp] def eq15_4 := id q15_4.eq_1
def q15_5 : List AOper :=
  [⟨.move .look (.t 5), (some 27), none⟩,
    ⟨.move .look (.p 8), (some 28), none⟩,
    ⟨.indexAddr 4 (.t 27) (.p 28), (some 29), none⟩,
    ⟨.fieldAddr 0 (.p 29), (some 30), none⟩,
    ⟨.load .head false 1 (.p 30), (some 31), none⟩,
    ⟨.move .look (.t 1), (some 32), none⟩,
    ⟨.indexAddr 1 (.t 32) (.c (.int .i64 0)), (some 33), none⟩,
    ⟨.load .head false 1 (.p 33), (some 34), none⟩,
    ⟨.bin .eql 2 false (.p 31) (.p 34), (some 35), none⟩]
@[simp] def eq15_5 := id q15_5.eq_1
def q15_6 : List AOper :=
  [⟨.move .look (.p 8), (some 16), none⟩,
    ⟨.move .head (.t 5), (some 17), none⟩,
    ⟨.len false (.p 17), (some 18), none⟩,
    ⟨.bin .lss 1 false (.p 16) (.p 18), (some 19), none⟩,
    ⟨.move .look (.p 19), (some 20), none⟩,
    ⟨.move .head (.t 1), (some 21), (some (20, true))⟩,
    ⟨.len false (.p 21), (some 22), (some (20, true))⟩,
    ⟨.bin .gtr 1 true (.p 22) (.c (.int .i64 1)), (some 23), (some (20, true))⟩,
    ⟨.pick (.p 20) (.p 23) (.c (.bool false)), (some 24), none⟩]
@[simp] def eq15_6 := id q15_6.eq_1
def q15_7 : List AOper :=
  [⟨.move .look (.t 0), (some 11), none⟩,
    ⟨.call 32 [(.t 11, false)], (some 12), none⟩,
    ⟨.move .look (.t 12), (some 10), none⟩,
    ⟨.extract 10 0, (some 13), none⟩,
    ⟨.extract 10 1, (some 14), none⟩,
    ⟨.extract 10 2, (some 15), none⟩,
    ⟨.assign (.t 13), (some 5), none⟩,
    ⟨.assign (.t 14), (some 6), none⟩,
    ⟨.assign (.p 15), (some 7), none⟩]
@[simp] def eq15_7 := id q15_7.eq_1
def k15_0 : ACode :=
  .ops [⟨.assign (.c (.bool false)), (some 4), none⟩] .ret
@[simp] theorem xk15_0 : GoC fns Q s k15_0 st ↔ GoO fns Q s [⟨.assign (.c (.bool false)), (some 4), none⟩] .ret st := goC_ops
def k15_1 : ACode :=
  .ops q15_0 .skip
@[simp] theorem xk15_1 : GoC fns Q s k15_1 st ↔ GoO fns Q s q15_0 .skip st := goC_ops
def k15_2 : ACode :=
  .ops q15_1 .ret
@[simp] theorem xk15_2 : GoC fns Q s k15_2 st ↔ GoO fns Q s q15_1 .ret st := goC_ops
def k15_3 : ACode :=
  .ops [⟨.assign (.c (.bool false)), (some 4), none⟩] .ret
@[simp] theorem xk15_3 : GoC fns Q s k15_3 st ↔ GoO fns Q s [⟨.assign (.c (.bool false)), (some 4), none⟩] .ret st := goC_ops
def k15_4 : ACode :=
  .cond (.p 54) k15_3 .skip
@[simp] theorem xk15_4 : GoC fns Q s k15_4 st ↔ GB fns Q s (peek st (.p 54)) k15_3 .skip st := goC_cond
def k15_5 : ACode :=
  .seq k15_4 k15_2
@[simp] theorem xk15_5 : GoC fns Q s k15_5 st ↔ GoC fns Q (.sq k15_2 :: s) k15_4 st := goC_seq
def k15_6 : ACode :=
  .ops q15_2 k15_5
@[simp] theorem xk15_6 : GoC fns Q s k15_6 st ↔ GoO fns Q s q15_2 k15_5 st := goC_ops
def k15_7 : ACode :=
  .ops [⟨.assign (.c (.bool true)), (some 4), none⟩] .ret
@[simp] theorem xk15_7 : GoC fns Q s k15_7 st ↔ GoO fns Q s [⟨.assign (.c (.bool true)), (some 4), none⟩] .ret st := goC_ops
def k15_8 : ACode :=
  .cond (.p 46) k15_7 .skip
@[simp] theorem xk15_8 : GoC fns Q s k15_8 st ↔ GB fns Q s (peek st (.p 46)) k15_7 .skip st := goC_cond
def k15_9 : ACode :=
  .seq k15_8 k15_6
@[simp] theorem xk15_9 : GoC fns Q s k15_9 st ↔ GoC fns Q (.sq k15_6 :: s) k15_8 st := goC_seq
def k15_10 : ACode :=
  .ops q15_3 k15_9
@[simp] theorem xk15_10 : GoC fns Q s k15_10 st ↔ GoO fns Q s q15_3 k15_9 st := goC_ops
def k15_11 : ACode :=
  .ops q15_4 k15_10
@[simp] theorem xk15_11 : GoC fns Q s k15_11 st ↔ GoO fns Q s q15_4 k15_10 st := goC_ops
def k15_12 : ACode :=
  .cond (.p 35) k15_11 .skip
@[simp] theorem xk15_12 : GoC fns Q s k15_12 st ↔ GB fns Q s (peek st (.p 35)) k15_11 .skip st := goC_cond
def k15_13 : ACode :=
  .ops q15_5 k15_12
@[simp] theorem xk15_13 : GoC fns Q s k15_13 st ↔ GoO fns Q s q15_5 k15_12 st := goC_ops
def k15_14 : ACode :=
  .block 1 k15_13
@[simp] theorem xk15_14 : GoC fns Q s k15_14 st ↔ GoC fns Q (.bl 1 :: s) k15_13 st := goC_block
def k15_15 : ACode :=
  .seq k15_14 k15_1
@[simp] theorem xk15_15 : GoC fns Q s k15_15 st ↔ GoC fns Q (.sq k15_1 :: s) k15_14 st := goC_seq
def k15_16 : ACode :=
  .cond (.p 24) .skip (.exit 0)
@[simp] theorem xk15_16 : GoC fns Q s k15_16 st ↔ GB fns Q s (peek st (.p 24)) .skip (.exit 0) st := goC_cond
def k15_17 : ACode :=
  .seq k15_16 k15_15
@[simp] theorem xk15_17 : GoC fns Q s k15_17 st ↔ GoC fns Q (.sq k15_15 :: s) k15_16 st := goC_seq
def k15_18 : ACode :=
  .ops q15_6 k15_17
@[simp] theorem xk15_18 : GoC fns Q s k15_18 st ↔ GoO fns Q s q15_6 k15_17 st := goC_ops
def lc15_0 : ACode :=
  k15_18
@[simp] theorem xlc15_0 : GoC fns Q s lc15_0 st ↔ GoC fns Q s k15_18 st := Iff.rfl
def k15_20 : ACode :=
  .loop lc15_0
@[simp] theorem xk15_20 : GoC fns Q s k15_20 st ↔ (LoopR fns lc15_0 st fun r => GoE fns Q s r.1 r.2) := goC_loop
def k15_21 : ACode :=
  .block 0 k15_20
@[simp] theorem xk15_21 : GoC fns Q s k15_21 st ↔ GoC fns Q (.bl 0 :: s) k15_20 st := goC_block
def k15_22 : ACode :=
  .seq k15_21 k15_0
@[simp] theorem xk15_22 : GoC fns Q s k15_22 st ↔ GoC fns Q (.sq k15_0 :: s) k15_21 st := goC_seq
def k15_23 : ACode :=
  .ops [⟨.assign (.c (.int .i64 0)), (some 8), none⟩] k15_22
@[simp] theorem xk15_23 : GoC fns Q s k15_23 st ↔ GoO fns Q s [⟨.assign (.c (.int .i64 0)), (some 8), none⟩] k15_22 st := goC_ops
def k15_24 : ACode :=
  .ops q15_7 k15_23
@[simp] theorem xk15_24 : GoC fns Q s k15_24 st ↔ GoO fns Q s q15_7 k15_23 st := goC_ops
def k15_25 : ACode :=
  .ops [⟨.assign (.c (.bool false)), (some 4), none⟩] k15_24
@[simp] theorem xk15_25 : GoC fns Q s k15_25 st ↔ GoO fns Q s [⟨.assign (.c (.bool false)), (some 4), none⟩] k15_24 st := goC_ops
def af15 : AFunc := ⟨60, k15_25, [.tmp 4], fun _ _ => none⟩

theorem ok15 : ∃ hs, pFunc Tryz.prog sg hs Tryz.f15 = some af15 := ⟨fun i => 0, by kernel_rfl⟩
def q66_0 : List AOper :=
  [⟨.move .look (.t 0), (some 15), none⟩,
    ⟨.move .look (.p 4), (some 16), none⟩,
    ⟨.bin .add 1 true (.p 16) (.c (.int .i64 1)), (some 17), none⟩,
    ⟨.sliceSl 1 (.t 15) (some (.c (.int .i64 1))) (some (.p 17)), (some 18), none⟩,
    ⟨.assign (.t 18), (some 2), none⟩,
    ⟨.assign (.c (.nilI)), (some 3), none⟩]
@[simp] def eq66_0 := id q66_0.eq_1
def q66_1 : List AOper :=
  [⟨.mkIface 98 (.c (.str [101, 108, 101, 109, 101, 110, 116, 32, 105, 115, 32, 109, 105, 115, 115, 105, 110, 103, 32, 107, 101, 121])), (some 14), none⟩,
    ⟨.assign (.c (.slice .nil 0 1 [])), (some 2), none⟩,
    ⟨.assign (.p 14), (some 3), none⟩]
@[simp] def eq66_1 := id q66_1.eq_1
def q66_2 : List AOper :=
  [⟨.move .head (.p 4), (some 12), none⟩,
    ⟨.bin .eql 1 true (.p 12) (.c (.int .i64 (-1))), (some 13), none⟩]
@[simp] def eq66_2 := id q66_2.eq_1
def q66_3 : List AOper :=
  [⟨.move .look (.t 0), (some 9), none⟩,
    ⟨.sliceSl 1 (.t 9) (some (.c (.int .i64 1))) none, (some 10), none⟩,
    ⟨.call 59 [(.t 10, false), (.c (.int .u8 0), false)], (some 11), none⟩,
    ⟨.assign (.p 11), (some 4), none⟩]
@[simp] def eq66_3 := id q66_3.eq_1
def q66_4 : List AOper :=
  [⟨.mkIface 98 (.c (.str [101, 108, 101, 109, 101, 110, 116, 32, 105, 115, 32, 109, 105, 115, 115, 105, 110, 103, 32, 116, 121, 112, 101])), (some 8), none⟩,
    ⟨.assign (.c (.slice .nil 0 1 [])), (some 2), none⟩,
    ⟨.assign (.p 8), (some 3), none⟩]
@[simp] def eq66_4 := id q66_4.eq_1
def q66_5 : List AOper :=
  [⟨.move .head (.t 0), (some 5), none⟩,
    ⟨.len false (.p 5), (some 6), none⟩,
    ⟨.bin .eql 1 true (.p 6) (.c (.int .i64 0)), (some 7), none⟩]
@[simp] def eq66_5 := id q66_5.eq_1
def q66_6 : List AOper :=
  [⟨.assign (.c (.slice .nil 0 1 [])), (some 2), none⟩,
    ⟨.assign (.c (.nilI)), (some 3), none⟩]
@[simp] def eq66_6 := id q66_6.eq_1
def k66_0 : ACode :=
  .ops q66_0 .ret
@[simp] theorem xk66_0 : GoC fns Q s k66_0 st ↔ GoO fns Q s q66_0 .ret st := goC_ops
def k66_1 : ACode :=
  .ops q66_1 .ret
@[simp] theorem xk66_1 : GoC fns Q s k66_1 st ↔ GoO fns Q s q66_1 .ret st := goC_ops
def k66_2 : ACode :=
  .cond (.p 13) k66_1 .skip
@[simp] theorem xk66_2 : GoC fns Q s k66_2 st ↔ GB fns Q s (peek st (.p 13)) k66_1 .skip st := goC_cond
def k66_3 : ACode :=
  .seq k66_2 k66_0
@[simp] theorem xk66_3 : GoC fns Q s k66_3 st ↔ GoC fns Q (.sq k66_0 :: s) k66_2 st := goC_seq
def k66_4 : ACode :=
  .ops q66_2 k66_3
@[simp] theorem xk66_4 : GoC fns Q s k66_4 st ↔ GoO fns Q s q66_2 k66_3 st := goC_ops
def k66_5 : ACode :=
  .ops q66_3 k66_4
@[simp] theorem xk66_5 : GoC fns Q s k66_5 st ↔ GoO fns Q s q66_3 k66_4 st := goC_ops
def k66_6 : ACode :=
  .ops q66_4 .ret
@[simp] theorem xk66_6 : GoC fns Q s k66_6 st ↔ GoO fns Q s q66_4 .ret st := goC_ops
def k66_7 : ACode :=
  .cond (.p 7) k66_6 .skip
@[simp] theorem xk66_7 : GoC fns Q s k66_7 st ↔ GB fns Q s (peek st (.p 7)) k66_6 .skip st := goC_cond
def k66_8 : ACode :=
  .seq k66_7 k66_5
@[simp] theorem xk66_8 : GoC fns Q s k66_8 st ↔ GoC fns Q (.sq k66_5 :: s) k66_7 st := goC_seq
def k66_9 : ACode :=
  .ops q66_5 k66_8
@[simp] theorem xk66_9 : GoC fns Q s k66_9 st ↔ GoO fns Q s q66_5 k66_8 st := goC_ops
def k66_10 : ACode :=
  .ops q66_6 k66_9
@[simp] theorem xk66_10 : GoC fns Q s k66_10 st ↔ GoO fns Q s q66_6 k66_9 st := goC_ops
def af66 : AFunc := ⟨19, k66_10, [.tmp 2, .tmp 3], fun _ _ => none⟩

theorem ok66 : ∃ hs, pFunc Tryz.prog sg hs Tryz.f66 = some af66 := ⟨fun i => 0, by kernel_rfl⟩
def q51_0 : List AOper :=
  [⟨.move .take (.t 3), (some 10), none⟩,
    ⟨.assign (.t 10), (some 2), none⟩]
@[simp] def eq51_0 := id q51_0.eq_1
def q51_1 : List AOper :=
  [⟨.move .look (.t 0), (some 6), none⟩,
    ⟨.call 66 [(.t 6, false)], (some 7), none⟩,
    ⟨.move .look (.t 7), (some 5), none⟩,
    ⟨.extract 5 0, (some 8), none⟩,
    ⟨.extract 5 1, (some 9), none⟩,
    ⟨.assign (.t 8), (some 3), none⟩,
    ⟨.assign (.p 9), (some 4), none⟩]
@[simp] def eq51_1 := id q51_1.eq_1
def k51_0 : ACode :=
  .ops q51_0 .ret
@[simp] theorem xk51_0 : GoC fns Q s k51_0 st ↔ GoO fns Q s q51_0 .ret st := goC_ops
def k51_1 : ACode :=
  .ops q51_1 k51_0
@[simp] theorem xk51_1 : GoC fns Q s k51_1 st ↔ GoO fns Q s q51_1 k51_0 st := goC_ops
def k51_2 : ACode :=
  .ops [⟨.assign (.c (.slice .nil 0 1 [])), (some 2), none⟩] k51_1
@[simp] theorem xk51_2 : GoC fns Q s k51_2 st ↔ GoO fns Q s [⟨.assign (.c (.slice .nil 0 1 [])), (some 2), none⟩] k51_1 st := goC_ops
def af51 : AFunc := ⟨11, k51_2, [.tmp 2], fun _ _ => none⟩

theorem ok51 : ∃ hs, pFunc Tryz.prog sg hs Tryz.f51 = some af51 := ⟨fun i => 0, by kernel_rfl⟩
end
end Go.Proofs.YtdnfnobgeddbfaaGreatDoor.Abs
