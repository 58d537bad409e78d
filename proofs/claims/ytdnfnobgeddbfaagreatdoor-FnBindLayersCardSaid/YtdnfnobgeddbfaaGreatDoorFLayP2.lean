/- The functions that the law reaches, made ready for the interpreter (printed by a program of this session; the kernel compares each with the given program). -/
import Derived.Test.YtdnfnobgeddbfaaGreatDoorFLayP1
namespace Go.Proofs.YtdnfnobgeddbfaaGreatDoor.Abs
set_option linter.all false
set_option maxRecDepth 100000
section
variable {fns : FuncId → Option AFunc} {Q : Ex × St → Prop} {s : List Fr} {c : ACode} {st : St}
def q73_0 : List AOper :=
  [⟨.move .look (.t 0), (some 26), none⟩,
    ⟨.move .head (.p 5), (some 27), none⟩,
    ⟨.sliceSl 1 (.t 26) none (some (.p 27)), (some 28), none⟩,
    ⟨.move .look (.t 0), (some 29), none⟩,
    ⟨.move .head (.p 5), (some 30), none⟩,
    ⟨.sliceSl 1 (.t 29) (some (.p 30)) none, (some 31), none⟩,
    ⟨.assign (.t 28), (some 2), none⟩,
    ⟨.assign (.t 31), (some 3), none⟩,
    ⟨.assign (.c (.bool true)), (some 4), none⟩]
@[simp] def eq73_0 := id q73_0.eq_1
def q73_1 : List AOper :=
  [⟨.move .take (.t 0), (some 25), none⟩,
    ⟨.assign (.c (.slice .nil 0 1 [])), (some 2), none⟩,
    ⟨.assign (.t 25), (some 3), none⟩,
    ⟨.assign (.c (.bool false)), (some 4), none⟩]
@[simp] def eq73_1 := id q73_1.eq_1
def q73_2 : List AOper :=
  [⟨.move .head (.t 0), (some 20), none⟩,
    ⟨.len false (.p 20), (some 21), none⟩,
    ⟨.move .look (.p 5), (some 22), none⟩,
    ⟨.convInt .i64 (.p 22), (some 23), none⟩,
    ⟨.bin .lss 1 false (.p 21) (.p 23), (some 24), none⟩]
@[simp] def eq73_2 := id q73_2.eq_1
def q73_3 : List AOper :=
  [⟨.move .take (.t 0), (some 19), none⟩,
    ⟨.assign (.c (.slice .nil 0 1 [])), (some 2), none⟩,
    ⟨.assign (.t 19), (some 3), none⟩,
    ⟨.assign (.c (.bool false)), (some 4), none⟩]
@[simp] def eq73_3 := id q73_3.eq_1
def q73_4 : List AOper :=
  [⟨.move .look (.p 5), (some 17), none⟩,
    ⟨.bin .lss 1 true (.p 17) (.c (.int .i32 4)), (some 18), none⟩]
@[simp] def eq73_4 := id q73_4.eq_1
def q73_5 : List AOper :=
  [⟨.move .take (.t 0), (some 16), none⟩,
    ⟨.assign (.c (.slice .nil 0 1 [])), (some 2), none⟩,
    ⟨.assign (.t 16), (some 3), none⟩,
    ⟨.assign (.c (.bool false)), (some 4), none⟩]
@[simp] def eq73_5 := id q73_5.eq_1
def q73_6 : List AOper :=
  [⟨.move .look (.p 7), (some 14), none⟩,
    ⟨.un .not (.p 14), (some 15), none⟩]
@[simp] def eq73_6 := id q73_6.eq_1
def q73_7 : List AOper :=
  [⟨.move .look (.t 0), (some 9), none⟩,
    ⟨.call 38 [(.t 9, false)], (some 10), none⟩,
    ⟨.move .look (.t 10), (some 8), none⟩,
    ⟨.extract 8 0, (some 11), none⟩,
    ⟨.extract 8 1, (some 12), none⟩,
    ⟨.extract 8 2, (some 13), none⟩,
    ⟨.assign (.p 11), (some 5), none⟩,
    ⟨.assign (.t 12), (some 6), none⟩,
    ⟨.assign (.p 13), (some 7), none⟩]
@[simp] def eq73_7 := id q73_7.eq_1
def q73_8 : List AOper :=
  [⟨.assign (.c (.slice .nil 0 1 [])), (some 2), none⟩,
    ⟨.assign (.c (.slice .nil 0 1 [])), (some 3), none⟩,
    ⟨.assign (.c (.bool false)), (some 4), none⟩]
@[simp] def eq73_8 := id q73_8.eq_1
def k73_0 : ACode :=
  .ops q73_0 .ret
@[simp] theorem xk73_0 : GoC fns Q s k73_0 st ↔ GoO fns Q s q73_0 .ret st := goC_ops
def k73_1 : ACode :=
  .ops q73_1 .ret
@[simp] theorem xk73_1 : GoC fns Q s k73_1 st ↔ GoO fns Q s q73_1 .ret st := goC_ops
def k73_2 : ACode :=
  .cond (.p 24) k73_1 .skip
@[simp] theorem xk73_2 : GoC fns Q s k73_2 st ↔ GB fns Q s (peek st (.p 24)) k73_1 .skip st := goC_cond
def k73_3 : ACode :=
  .seq k73_2 k73_0
@[simp] theorem xk73_3 : GoC fns Q s k73_3 st ↔ GoC fns Q (.sq k73_0 :: s) k73_2 st := goC_seq
def k73_4 : ACode :=
  .ops q73_2 k73_3
@[simp] theorem xk73_4 : GoC fns Q s k73_4 st ↔ GoO fns Q s q73_2 k73_3 st := goC_ops
def k73_5 : ACode :=
  .ops q73_3 .ret
@[simp] theorem xk73_5 : GoC fns Q s k73_5 st ↔ GoO fns Q s q73_3 .ret st := goC_ops
def k73_6 : ACode :=
  .cond (.p 18) k73_5 .skip
@[simp] theorem xk73_6 : GoC fns Q s k73_6 st ↔ GB fns Q s (peek st (.p 18)) k73_5 .skip st := goC_cond
def k73_7 : ACode :=
  .seq k73_6 k73_4
@[simp] theorem xk73_7 : GoC fns Q s k73_7 st ↔ GoC fns Q (.sq k73_4 :: s) k73_6 st := goC_seq
def k73_8 : ACode :=
  .ops q73_4 k73_7
@[simp] theorem xk73_8 : GoC fns Q s k73_8 st ↔ GoO fns Q s q73_4 k73_7 st := goC_ops
def k73_9 : ACode :=
  .ops q73_5 .ret
@[simp] theorem xk73_9 : GoC fns Q s k73_9 st ↔ GoO fns Q s q73_5 .ret st := goC_ops
def k73_10 : ACode :=
  .cond (.p 15) k73_9 .skip
@[simp] theorem xk73_10 : GoC fns Q s k73_10 st ↔ GB fns Q s (peek st (.p 15)) k73_9 .skip st := goC_cond
def k73_11 : ACode :=
  .seq k73_10 k73_8
@[simp] theorem xk73_11 : GoC fns Q s k73_11 st ↔ GoC fns Q (.sq k73_8 :: s) k73_10 st := goC_seq
def k73_12 : ACode :=
  .ops q73_6 k73_11
@[simp] theorem xk73_12 : GoC fns Q s k73_12 st ↔ GoO fns Q s q73_6 k73_11 st := goC_ops
def k73_13 : ACode :=
  .ops q73_7 k73_12
@[simp] theorem xk73_13 : GoC fns Q s k73_13 st ↔ GoO fns Q s q73_7 k73_12 st := goC_ops
def k73_14 : ACode :=
  .ops q73_8 k73_13
@[simp] theorem xk73_14 : GoC fns Q s k73_14 st ↔ GoO fns Q s q73_8 k73_13 st := goC_ops
def af73 : AFunc := ⟨32, k73_14, [.tmp 2, .tmp 3, .tmp 4], fun _ _ => none⟩

theorem ok73 : ∃ hs, pFunc Tryz.prog sg hs Tryz.f73 = some af73 := ⟨fun i => 0, by kernel_rfl⟩
def q67_0 : List AOper :=
  [⟨.move .look (.t 0), (some 5), none⟩,
    ⟨.call 73 [(.t 5, false)], (some 6), none⟩,
    ⟨.extract 6 0, (some 7), none⟩,
    ⟨.extract 6 1, (some 8), none⟩,
    ⟨.extract 6 2, (some 9), none⟩,
    ⟨.assign (.t 7), (some 2), none⟩,
    ⟨.assign (.t 8), (some 3), none⟩,
    ⟨.assign (.p 9), (some 4), none⟩]
@[simp] def eq67_0 := id q67_0.eq_1
def q67_1 : List AOper :=
  [⟨.assign (.c (.slice .nil 0 1 [])), (some 2), none⟩,
    ⟨.assign (.c (.slice .nil 0 1 [])), (some 3), none⟩,
    ⟨.assign (.c (.bool false)), (some 4), none⟩]
@[simp] def eq67_1 := id q67_1.eq_1
def k67_0 : ACode :=
  .ops q67_0 .ret
@[simp] theorem xk67_0 : GoC fns Q s k67_0 st ↔ GoO fns Q s q67_0 .ret st := goC_ops
def k67_1 : ACode :=
  .ops q67_1 k67_0
@[simp] theorem xk67_1 : GoC fns Q s k67_1 st ↔ GoO fns Q s q67_1 k67_0 st := goC_ops
def af67 : AFunc := ⟨10, k67_1, [.tmp 2, .tmp 3, .tmp 4], fun _ _ => none⟩

theorem ok67 : ∃ hs, pFunc Tryz.prog sg hs Tryz.f67 = some af67 := ⟨fun i => 0, by kernel_rfl⟩
def q53_0 : List AOper :=
  [⟨.move .take (.t 3), (some 28), none⟩,
    ⟨.assign (.t 28), (some 2), none⟩]
@[simp] def eq53_0 := id q53_0.eq_1
def q53_1 : List AOper :=
  [⟨.fieldAddr 1 (.p 1), (some 22), none⟩,
    ⟨.load .look false 1 (.p 22), (some 23), none⟩,
    ⟨.fieldAddr 1 (.p 1), (some 24), none⟩,
    ⟨.load .look false 1 (.p 24), (some 25), none⟩,
    ⟨.call 39 [(.t 23, false), (.t 25, false)], (some 26), none⟩,
    ⟨.mkIface 93 (.p 26), (some 27), none⟩,
    ⟨.dead, none, none⟩]
@[simp] def eq53_1 := id q53_1.eq_1
def q53_2 : List AOper :=
  [⟨.move .look (.p 5), (some 20), none⟩,
    ⟨.un .not (.p 20), (some 21), none⟩]
@[simp] def eq53_2 := id q53_2.eq_1
def q53_3 : List AOper :=
  [⟨.fieldAddr 1 (.p 1), (some 14), none⟩,
    ⟨.load .look false 1 (.p 14), (some 15), none⟩,
    ⟨.call 67 [(.t 15, false)], (some 16), none⟩,
    ⟨.move .look (.t 16), (some 13), none⟩,
    ⟨.extract 13 0, (some 17), none⟩,
    ⟨.extract 13 1, (some 18), none⟩,
    ⟨.extract 13 2, (some 19), none⟩,
    ⟨.assign (.t 17), (some 3), none⟩,
    ⟨.assign (.t 18), (some 4), none⟩,
    ⟨.assign (.p 19), (some 5), none⟩]
@[simp] def eq53_3 := id q53_3.eq_1
def q53_4 : List AOper :=
  [⟨.fieldAddr 0 (.p 1), (some 9), none⟩,
    ⟨.load .look false 1 (.p 9), (some 10), none⟩,
    ⟨.build [.str [], .int .u8 0] [(0, 1, .c (.str [98, 115, 111, 110, 99, 111, 114, 101, 46, 86, 97, 108, 117, 101, 46, 68, 111, 99, 117, 109, 101, 110, 116])), (1, 1, .p 10)], (some 11), none⟩,
    ⟨.mkIface 131 (.p 11), (some 12), none⟩,
    ⟨.dead, none, none⟩]
@[simp] def eq53_4 := id q53_4.eq_1
def q53_5 : List AOper :=
  [⟨.fieldAddr 0 (.p 1), (some 6), none⟩,
    ⟨.load .head false 1 (.p 6), (some 7), none⟩,
    ⟨.bin .neq 1 true (.p 7) (.c (.int .u8 3)), (some 8), none⟩]
@[simp] def eq53_5 := id q53_5.eq_1
def q53_6 : List AOper :=
  [⟨.box 1 (.p 0), (some 1), none⟩,
    ⟨.assign (.c (.slice .nil 0 1 [])), (some 2), none⟩]
@[simp] def eq53_6 := id q53_6.eq_1
def k53_0 : ACode :=
  .ops q53_0 .ret
@[simp] theorem xk53_0 : GoC fns Q s k53_0 st ↔ GoO fns Q s q53_0 .ret st := goC_ops
def k53_1 : ACode :=
  .ops q53_1 .skip
@[simp] theorem xk53_1 : GoC fns Q s k53_1 st ↔ GoO fns Q s q53_1 .skip st := goC_ops
def k53_2 : ACode :=
  .cond (.p 21) k53_1 .skip
@[simp] theorem xk53_2 : GoC fns Q s k53_2 st ↔ GB fns Q s (peek st (.p 21)) k53_1 .skip st := goC_cond
def k53_3 : ACode :=
  .seq k53_2 k53_0
@[simp] theorem xk53_3 : GoC fns Q s k53_3 st ↔ GoC fns Q (.sq k53_0 :: s) k53_2 st := goC_seq
def k53_4 : ACode :=
  .ops q53_2 k53_3
@[simp] theorem xk53_4 : GoC fns Q s k53_4 st ↔ GoO fns Q s q53_2 k53_3 st := goC_ops
def k53_5 : ACode :=
  .ops q53_3 k53_4
@[simp] theorem xk53_5 : GoC fns Q s k53_5 st ↔ GoO fns Q s q53_3 k53_4 st := goC_ops
def k53_6 : ACode :=
  .ops q53_4 .skip
@[simp] theorem xk53_6 : GoC fns Q s k53_6 st ↔ GoO fns Q s q53_4 .skip st := goC_ops
def k53_7 : ACode :=
  .cond (.p 8) k53_6 .skip
@[simp] theorem xk53_7 : GoC fns Q s k53_7 st ↔ GB fns Q s (peek st (.p 8)) k53_6 .skip st := goC_cond
def k53_8 : ACode :=
  .seq k53_7 k53_5
@[simp] theorem xk53_8 : GoC fns Q s k53_8 st ↔ GoC fns Q (.sq k53_5 :: s) k53_7 st := goC_seq
def k53_9 : ACode :=
  .ops q53_5 k53_8
@[simp] theorem xk53_9 : GoC fns Q s k53_9 st ↔ GoO fns Q s q53_5 k53_8 st := goC_ops
def k53_10 : ACode :=
  .ops q53_6 k53_9
@[simp] theorem xk53_10 : GoC fns Q s k53_10 st ↔ GoO fns Q s q53_6 k53_9 st := goC_ops
def af53 : AFunc := ⟨29, k53_10, [.tmp 2], fun _ _ => none⟩

theorem ok53 : ∃ hs, pFunc Tryz.prog sg hs Tryz.f53 = some af53 := ⟨fun i => 0, by kernel_rfl⟩
def q68_0 : List AOper :=
  [⟨.move .look (.t 0), (some 5), none⟩,
    ⟨.call 73 [(.t 5, false)], (some 6), none⟩,
    ⟨.extract 6 0, (some 7), none⟩,
    ⟨.extract 6 1, (some 8), none⟩,
    ⟨.extract 6 2, (some 9), none⟩,
    ⟨.assign (.t 7), (some 2), none⟩,
    ⟨.assign (.t 8), (some 3), none⟩,
    ⟨.assign (.p 9), (some 4), none⟩]
@[simp] def eq68_0 := id q68_0.eq_1
def q68_1 : List AOper :=
  [⟨.assign (.c (.slice .nil 0 1 [])), (some 2), none⟩,
    ⟨.assign (.c (.slice .nil 0 1 [])), (some 3), none⟩,
    ⟨.assign (.c (.bool false)), (some 4), none⟩]
@[simp] def eq68_1 := id q68_1.eq_1
def k68_0 : ACode :=
  .ops q68_0 .ret
@[simp] theorem xk68_0 : GoC fns Q s k68_0 st ↔ GoO fns Q s q68_0 .ret st := goC_ops
def k68_1 : ACode :=
  .ops q68_1 k68_0
@[simp] theorem xk68_1 : GoC fns Q s k68_1 st ↔ GoO fns Q s q68_1 k68_0 st := goC_ops
def af68 : AFunc := ⟨10, k68_1, [.tmp 2, .tmp 3, .tmp 4], fun _ _ => none⟩

theorem ok68 : ∃ hs, pFunc Tryz.prog sg hs Tryz.f68 = some af68 := ⟨fun i => 0, by kernel_rfl⟩
def q54_0 : List AOper :=
  [⟨.move .take (.t 3), (some 28), none⟩,
    ⟨.assign (.t 28), (some 2), none⟩]
@[simp] def eq54_0 := id q54_0.eq_1
def q54_1 : List AOper :=
  [⟨.fieldAddr 1 (.p 1), (some 22), none⟩,
    ⟨.load .look false 1 (.p 22), (some 23), none⟩,
    ⟨.fieldAddr 1 (.p 1), (some 24), none⟩,
    ⟨.load .look false 1 (.p 24), (some 25), none⟩,
    ⟨.call 39 [(.t 23, false), (.t 25, false)], (some 26), none⟩,
    ⟨.mkIface 93 (.p 26), (some 27), none⟩,
    ⟨.dead, none, none⟩]
@[simp] def eq54_1 := id q54_1.eq_1
def q54_2 : List AOper :=
  [⟨.move .look (.p 5), (some 20), none⟩,
    ⟨.un .not (.p 20), (some 21), none⟩]
@[simp] def eq54_2 := id q54_2.eq_1
def q54_3 : List AOper :=
  [⟨.fieldAddr 1 (.p 1), (some 14), none⟩,
    ⟨.load .look false 1 (.p 14), (some 15), none⟩,
    ⟨.call 68 [(.t 15, false)], (some 16), none⟩,
    ⟨.move .look (.t 16), (some 13), none⟩,
    ⟨.extract 13 0, (some 17), none⟩,
    ⟨.extract 13 1, (some 18), none⟩,
    ⟨.extract 13 2, (some 19), none⟩,
    ⟨.assign (.t 17), (some 3), none⟩,
    ⟨.assign (.t 18), (some 4), none⟩,
    ⟨.assign (.p 19), (some 5), none⟩]
@[simp] def eq54_3 := id q54_3.eq_1
def q54_4 : List AOper :=
  [⟨.fieldAddr 0 (.p 1), (some 9), none⟩,
    ⟨.load .look false 1 (.p 9), (some 10), none⟩,
    ⟨.build [.str [], .int .u8 0] [(0, 1, .c (.str [98, 115, 111, 110, 99, 111, 114, 101, 46, 86, 97, 108, 117, 101, 46, 65, 114, 114, 97, 121])), (1, 1, .p 10)], (some 11), none⟩,
    ⟨.mkIface 131 (.p 11), (some 12), none⟩,
    ⟨.dead, none, none⟩]
@[simp] def eq54_4 := id q54_4.eq_1
def q54_5 : List AOper :=
  [⟨.fieldAddr 0 (.p 1), (some 6), none⟩,
    ⟨.load .head false 1 (.p 6), (some 7), none⟩,
    ⟨.bin .neq 1 true (.p 7) (.c (.int .u8 4)), (some 8), none⟩]
@[simp] def eq54_5 := id q54_5.eq_1
def q54_6 : List AOper :=
  [⟨.box 1 (.p 0), (some 1), none⟩,
    ⟨.assign (.c (.slice .nil 0 1 [])), (some 2), none⟩]
@[simp] def eq54_6 := id q54_6.eq_1
def k54_0 : ACode :=
  .ops q54_0 .ret
@[simp] theorem xk54_0 : GoC fns Q s k54_0 st ↔ GoO fns Q s q54_0 .ret st := goC_ops
def k54_1 : ACode :=
  .ops q54_1 .skip
@[simp] theorem xk54_1 : GoC fns Q s k54_1 st ↔ GoO fns Q s q54_1 .skip st := goC_ops
def k54_2 : ACode :=
  .cond (.p 21) k54_1 .skip
@[simp] theorem xk54_2 : GoC fns Q s k54_2 st ↔ GB fns Q s (peek st (.p 21)) k54_1 .skip st := goC_cond
def k54_3 : ACode :=
  .seq k54_2 k54_0
@[simp] theorem xk54_3 : GoC fns Q s k54_3 st ↔ GoC fns Q (.sq k54_0 :: s) k54_2 st := goC_seq
def k54_4 : ACode :=
  .ops q54_2 k54_3
@[simp] theorem xk54_4 : GoC fns Q s k54_4 st ↔ GoO fns Q s q54_2 k54_3 st := goC_ops
def k54_5 : ACode :=
  .ops q54_3 k54_4
@[simp] theorem xk54_5 : GoC fns Q s k54_5 st ↔ GoO fns Q s q54_3 k54_4 st := goC_ops
def k54_6 : ACode :=
  .ops q54_4 .skip
@[simp] theorem xk54_6 : GoC fns Q s k54_6 st ↔ GoO fns Q s q54_4 .skip st := goC_ops
def k54_7 : ACode :=
  .cond (.p 8) k54_6 .skip
@[simp] theorem xk54_7 : GoC fns Q s k54_7 st ↔ GB fns Q s (peek st (.p 8)) k54_6 .skip st := goC_cond
def k54_8 : ACode :=
  .seq k54_7 k54_5
@[simp] theorem xk54_8 : GoC fns Q s k54_8 st ↔ GoC fns Q (.sq k54_5 :: s) k54_7 st := goC_seq
def k54_9 : ACode :=
  .ops q54_5 k54_8
@[simp] theorem xk54_9 : GoC fns Q s k54_9 st ↔ GoO fns Q s q54_5 k54_8 st := goC_ops
def k54_10 : ACode :=
  .ops q54_6 k54_9
@[simp] theorem xk54_10 : GoC fns Q s k54_10 st ↔ GoO fns Q s q54_6 k54_9 st := goC_ops
def af54 : AFunc := ⟨29, k54_10, [.tmp 2], fun _ _ => none⟩

theorem ok54 : ∃ hs, pFunc Tryz.prog sg hs Tryz.f54 = some af54 := ⟨fun i => 0, by kernel_rfl⟩
def q69_0 : List AOper :=
  [⟨.move .look (.t 4), (some 11), none⟩,
    ⟨.convBS (.t 11), (some 12), none⟩,
    ⟨.move .take (.p 5), (some 13), none⟩,
    ⟨.assign (.p 12), (some 2), none⟩,
    ⟨.assign (.p 13), (some 3), none⟩]
@[simp] def eq69_0 := id q69_0.eq_1
def q69_1 : List AOper :=
  [⟨.move .look (.t 0), (some 7), none⟩,
    ⟨.call 66 [(.t 7, false)], (some 8), none⟩,
    ⟨.move .look (.t 8), (some 6), none⟩,
    ⟨.extract 6 0, (some 9), none⟩,
    ⟨.extract 6 1, (some 10), none⟩,
    ⟨.assign (.t 9), (some 4), none⟩,
    ⟨.assign (.p 10), (some 5), none⟩]
@[simp] def eq69_1 := id q69_1.eq_1
def q69_2 : List AOper :=
  [⟨.assign (.c (.str [])), (some 2), none⟩,
    ⟨.assign (.c (.nilI)), (some 3), none⟩]
@[simp] def eq69_2 := id q69_2.eq_1
def k69_0 : ACode :=
  .ops q69_0 .ret
@[simp] theorem xk69_0 : GoC fns Q s k69_0 st ↔ GoO fns Q s q69_0 .ret st := goC_ops
def k69_1 : ACode :=
  .ops q69_1 k69_0
@[simp] theorem xk69_1 : GoC fns Q s k69_1 st ↔ GoO fns Q s q69_1 k69_0 st := goC_ops
def k69_2 : ACode :=
  .ops q69_2 k69_1
@[simp] theorem xk69_2 : GoC fns Q s k69_2 st ↔ GoO fns Q s q69_2 k69_1 st := goC_ops
def af69 : AFunc := ⟨14, k69_2, [.tmp 2, .tmp 3], fun _ _ => none⟩

theorem ok69 : ∃ hs, pFunc Tryz.prog sg hs Tryz.f69 = some af69 := ⟨fun i => 0, by kernel_rfl⟩
def q55_0 : List AOper :=
  [⟨.move .take (.p 3), (some 10), none⟩,
    ⟨.assign (.p 10), (some 2), none⟩]
@[simp] def eq55_0 := id q55_0.eq_1
def q55_1 : List AOper :=
  [⟨.move .look (.t 0), (some 6), none⟩,
    ⟨.call 69 [(.t 6, false)], (some 7), none⟩,
    ⟨.move .look (.t 7), (some 5), none⟩,
    ⟨.extract 5 0, (some 8), none⟩,
    ⟨.extract 5 1, (some 9), none⟩,
    ⟨.assign (.p 8), (some 3), none⟩,
    ⟨.assign (.p 9), (some 4), none⟩]
@[simp] def eq55_1 := id q55_1.eq_1
def k55_0 : ACode :=
  .ops q55_0 .ret
@[simp] theorem xk55_0 : GoC fns Q s k55_0 st ↔ GoO fns Q s q55_0 .ret st := goC_ops
def k55_1 : ACode :=
  .ops q55_1 k55_0
@[simp] theorem xk55_1 : GoC fns Q s k55_1 st ↔ GoO fns Q s q55_1 k55_0 st := goC_ops
def k55_2 : ACode :=
  .ops [⟨.assign (.c (.str [])), (some 2), none⟩] k55_1
@[simp] theorem xk55_2 : GoC fns Q s k55_2 st ↔ GoO fns Q s [⟨.assign (.c (.str [])), (some 2), none⟩] k55_1 st := goC_ops
def af55 : AFunc := ⟨11, k55_2, [.tmp 2], fun _ _ => none⟩

theorem ok55 : ∃ hs, pFunc Tryz.prog sg hs Tryz.f55 = some af55 := ⟨fun i => 0, by kernel_rfl⟩
def q36_0 : List AOper :=
  [⟨.load .take false 1 (.c (.gl 1)), (some 112), none⟩,
    ⟨.build [.int .u8 0, .slice .nil 0 1 []] [], (some 111), none⟩,
    ⟨.store 2 (.p 4) (.p 111), none, none⟩,
    ⟨.assign (.p 112), (some 5), none⟩]
@[simp] def eq36_0 := id q36_0.eq_1
def q36_1 : List AOper :=
  [⟨.move .look (.t 9), (some 107), none⟩,
    ⟨.call 56 [(.t 107, false)], (some 108), none⟩,
    ⟨.extract 108 0, (some 109), none⟩,
    ⟨.extract 108 1, (some 110), none⟩,
    ⟨.store 2 (.p 4) (.p 109), none, none⟩,
    ⟨.assign (.p 110), (some 5), none⟩]
@[simp] def eq36_1 := id q36_1.eq_1
def q36_2 : List AOper :=
  [⟨.load .take true 2 (.p 11), (some 90), none⟩,
    ⟨.store 2 (.p 4) (.p 90), none, none⟩,
    ⟨.assign (.c (.nilI)), (some 5), none⟩]
@[simp] def eq36_2 := id q36_2.eq_1
def q36_3 : List AOper :=
  [⟨.build [.int .u8 0, .slice .nil 0 1 []] [], (some 88), none⟩,
    ⟨.move .take (.p 12), (some 89), none⟩,
    ⟨.store 2 (.p 4) (.p 88), none, none⟩,
    ⟨.assign (.p 89), (some 5), none⟩]
@[simp] def eq36_3 := id q36_3.eq_1
def q36_4 : List AOper :=
  [⟨.move .head (.p 12), (some 86), none⟩,
    ⟨.bin .neq 5 true (.p 86) (.c (.nilI)), (some 87), none⟩]
@[simp] def eq36_4 := id q36_4.eq_1
def q36_5 : List AOper :=
  [⟨.move .look (.t 9), (some 78), none⟩,
    ⟨.move .look (.t 1), (some 81), none⟩,
    ⟨.sliceSl 1 (.t 81) (some (.c (.int .i64 1))) none, (some 82), none⟩,
    ⟨.call 52 [(.t 78, false)], (some 79), none⟩,
    ⟨.call 53 [(.p 79, false)], (some 80), none⟩,
    ⟨.call 36 [(.t 80, false), (.t 82, false)], (some 83), none⟩,
    ⟨.move .look (.t 83), (some 77), none⟩,
    ⟨.extract 77 0, (some 84), none⟩,
    ⟨.extract 77 1, (some 85), none⟩,
    ⟨.newbox1 11 [.int .u8 0, .slice .nil 0 1 []], (some 11), none⟩,
    ⟨.store 2 (.p 11) (.p 84), none, none⟩,
    ⟨.assign (.p 85), (some 12), none⟩]
@[simp] def eq36_5 := id q36_5.eq_1
def q36_6 : List AOper :=
  [⟨.load .take true 2 (.p 13), (some 106), none⟩,
    ⟨.store 2 (.p 4) (.p 106), none, none⟩,
    ⟨.assign (.c (.nilI)), (some 5), none⟩]
@[simp] def eq36_6 := id q36_6.eq_1
def q36_7 : List AOper :=
  [⟨.build [.int .u8 0, .slice .nil 0 1 []] [], (some 104), none⟩,
    ⟨.move .take (.p 14), (some 105), none⟩,
    ⟨.store 2 (.p 4) (.p 104), none, none⟩,
    ⟨.assign (.p 105), (some 5), none⟩]
@[simp] def eq36_7 := id q36_7.eq_1
def q36_8 : List AOper :=
  [⟨.move .head (.p 14), (some 102), none⟩,
    ⟨.bin .neq 5 true (.p 102) (.c (.nilI)), (some 103), none⟩]
@[simp] def eq36_8 := id q36_8.eq_1
def q36_9 : List AOper :=
  [⟨.move .look (.t 9), (some 94), none⟩,
    ⟨.move .look (.t 1), (some 97), none⟩,
    ⟨.sliceSl 1 (.t 97) (some (.c (.int .i64 1))) none, (some 98), none⟩,
    ⟨.call 52 [(.t 94, false)], (some 95), none⟩,
    ⟨.call 54 [(.p 95, false)], (some 96), none⟩,
    ⟨.call 36 [(.t 96, false), (.t 98, false)], (some 99), none⟩,
    ⟨.move .look (.t 99), (some 93), none⟩,
    ⟨.extract 93 0, (some 100), none⟩,
    ⟨.extract 93 1, (some 101), none⟩,
    ⟨.newbox1 13 [.int .u8 0, .slice .nil 0 1 []], (some 13), none⟩,
    ⟨.store 2 (.p 13) (.p 100), none, none⟩,
    ⟨.assign (.p 101), (some 14), none⟩]
@[simp] def eq36_9 := id q36_9.eq_1
def q36_10 : List AOper :=
  [⟨.build [.int .u8 0, .slice .nil 0 1 []] [], (some 69), none⟩,
    ⟨.move .look (.t 9), (some 70), none⟩,
    ⟨.call 55 [(.t 70, false)], (some 71), none⟩,
    ⟨.move .look (.p 10), (some 72), none⟩,
    ⟨.build [.str [], .int .u8 0] [(0, 1, .p 71), (1, 1, .p 72)], (some 73), none⟩,
    ⟨.mkIface 100 (.p 73), (some 74), none⟩,
    ⟨.store 2 (.p 4) (.p 69), none, none⟩,
    ⟨.assign (.p 74), (some 5), none⟩]
@[simp] def eq36_10 := id q36_10.eq_1
def q36_11 : List AOper :=
  [⟨.bin .eql 1 true (.p 68) (.c (.int .u8 4)), (some 92), none⟩,
    ⟨.assign (.p 92), (some 91), none⟩]
@[simp] def eq36_11 := id q36_11.eq_1
def q36_12 : List AOper :=
  [⟨.bin .eql 1 true (.p 68) (.c (.int .u8 3)), (some 76), none⟩,
    ⟨.assign (.p 76), (some 75), none⟩]
@[simp] def eq36_12 := id q36_12.eq_1
def q36_13 : List AOper :=
  [⟨.move .look (.t 9), (some 65), none⟩,
    ⟨.indexAddr 1 (.t 65) (.c (.int .i64 0)), (some 66), none⟩,
    ⟨.load .take false 1 (.p 66), (some 67), none⟩,
    ⟨.assign (.p 67), (some 10), none⟩]
@[simp] def eq36_13 := id q36_13.eq_1
def q36_14 : List AOper :=
  [⟨.move .head (.t 1), (some 62), none⟩,
    ⟨.len false (.p 62), (some 63), none⟩,
    ⟨.bin .gtr 1 true (.p 63) (.c (.int .i64 1)), (some 64), none⟩]
@[simp] def eq36_14 := id q36_14.eq_1
def q36_15 : List AOper :=
  [⟨.move .look (.t 9), (some 55), none⟩,
    ⟨.move .look (.t 1), (some 58), none⟩,
    ⟨.indexAddr 1 (.t 58) (.c (.int .i64 0)), (some 59), none⟩,
    ⟨.load .head false 1 (.p 59), (some 60), none⟩,
    ⟨.call 51 [(.t 55, false)], (some 56), none⟩,
    ⟨.convBS (.t 56), (some 57), none⟩,
    ⟨.bin .neq 2 false (.p 57) (.p 60), (some 61), none⟩]
@[simp] def eq36_15 := id q36_15.eq_1
def q36_16 : List AOper :=
  [⟨.build [.int .u8 0, .slice .nil 0 1 []] [], (some 50), none⟩,
    ⟨.move .look (.t 0), (some 51), none⟩,
    ⟨.move .look (.t 7), (some 52), none⟩,
    ⟨.call 39 [(.t 51, false), (.t 52, false)], (some 53), none⟩,
    ⟨.mkIface 93 (.p 53), (some 54), none⟩,
    ⟨.store 2 (.p 4) (.p 50), none, none⟩,
    ⟨.assign (.p 54), (some 5), none⟩]
@[simp] def eq36_16 := id q36_16.eq_1
def q36_17 : List AOper :=
  [⟨.move .look (.p 8), (some 48), none⟩,
    ⟨.un .not (.p 48), (some 49), none⟩]
@[simp] def eq36_17 := id q36_17.eq_1
def q36_18 : List AOper :=
  [⟨.move .look (.p 6), (some 43), none⟩,
    ⟨.move .head (.t 9), (some 44), none⟩,
    ⟨.len false (.p 44), (some 45), none⟩,
    ⟨.convInt .i32 (.p 45), (some 46), none⟩,
    ⟨.bin .sub 1 false (.p 43) (.p 46), (some 47), none⟩,
    ⟨.assign (.p 47), (some 6), none⟩]
@[simp] def eq36_18 := id q36_18.eq_1
def q36_19 : List AOper :=
  [⟨.move .look (.t 7), (some 38), none⟩,
    ⟨.call 40 [(.t 38, false)], (some 39), none⟩,
    ⟨.move .look (.t 39), (some 37), none⟩,
    ⟨.extract 37 0, (some 40), none⟩,
    ⟨.extract 37 1, (some 41), none⟩,
    ⟨.extract 37 2, (some 42), none⟩,
    ⟨.assign (.t 40), (some 9), none⟩,
    ⟨.assign (.t 41), (some 7), none⟩,
    ⟨.assign (.p 42), (some 8), none⟩]
@[simp] def eq36_19 := id q36_19.eq_1
def q36_20 : List AOper :=
  [⟨.move .look (.p 6), (some 35), none⟩,
    ⟨.bin .gtr 1 true (.p 35) (.c (.int .i32 1)), (some 36), none⟩]
@[simp] def eq36_20 := id q36_20.eq_1
def q36_21 : List AOper :=
  [⟨.move .look (.p 6), (some 33), none⟩,
    ⟨.bin .sub 1 true (.p 33) (.c (.int .i32 4)), (some 34), none⟩,
    ⟨.assign (.p 34), (some 6), none⟩]
@[simp] def eq36_21 := id q36_21.eq_1
def q36_22 : List AOper :=
  [⟨.build [.int .u8 0, .slice .nil 0 1 []] [], (some 28), none⟩,
    ⟨.move .look (.t 0), (some 29), none⟩,
    ⟨.move .look (.t 7), (some 30), none⟩,
    ⟨.call 39 [(.t 29, false), (.t 30, false)], (some 31), none⟩,
    ⟨.mkIface 93 (.p 31), (some 32), none⟩,
    ⟨.store 2 (.p 4) (.p 28), none, none⟩,
    ⟨.assign (.p 32), (some 5), none⟩]
@[simp] def eq36_22 := id q36_22.eq_1
def q36_23 : List AOper :=
  [⟨.move .look (.p 8), (some 26), none⟩,
    ⟨.un .not (.p 26), (some 27), none⟩]
@[simp] def eq36_23 := id q36_23.eq_1
def q36_24 : List AOper :=
  [⟨.move .look (.t 0), (some 21), none⟩,
    ⟨.call 38 [(.t 21, false)], (some 22), none⟩,
    ⟨.move .look (.t 22), (some 20), none⟩,
    ⟨.extract 20 0, (some 23), none⟩,
    ⟨.extract 20 1, (some 24), none⟩,
    ⟨.extract 20 2, (some 25), none⟩,
    ⟨.assign (.p 23), (some 6), none⟩,
    ⟨.assign (.t 24), (some 7), none⟩,
    ⟨.assign (.p 25), (some 8), none⟩]
@[simp] def eq36_24 := id q36_24.eq_1
def q36_25 : List AOper :=
  [⟨.load .take false 1 (.c (.gl 2)), (some 19), none⟩,
    ⟨.build [.int .u8 0, .slice .nil 0 1 []] [], (some 18), none⟩,
    ⟨.store 2 (.p 4) (.p 18), none, none⟩,
    ⟨.assign (.p 19), (some 5), none⟩]
@[simp] def eq36_25 := id q36_25.eq_1
def q36_26 : List AOper :=
  [⟨.move .head (.t 1), (some 15), none⟩,
    ⟨.len false (.p 15), (some 16), none⟩,
    ⟨.bin .lss 1 true (.p 16) (.c (.int .i64 1)), (some 17), none⟩]
@[simp] def eq36_26 := id q36_26.eq_1
def q36_27 : List AOper :=
  [⟨.newbox 4 [.int .u8 0, .slice .nil 0 1 []], (some 4), none⟩,
    ⟨.assign (.c (.nilI)), (some 5), none⟩]
@[simp] def eq36_27 := id q36_27.eq_1
def k36_0 : ACode :=
  .ops q36_0 .ret
@[simp] theorem xk36_0 : GoC fns Q s k36_0 st ↔ GoO fns Q s q36_0 .ret st := goC_ops
def k36_1 : ACode :=
  .ops q36_1 .ret
@[simp] theorem xk36_1 : GoC fns Q s k36_1 st ↔ GoO fns Q s q36_1 .ret st := goC_ops
def k36_2 : ACode :=
  .ops q36_2 .ret
@[simp] theorem xk36_2 : GoC fns Q s k36_2 st ↔ GoO fns Q s q36_2 .ret st := goC_ops
def k36_3 : ACode :=
  .ops q36_3 .ret
@[simp] theorem xk36_3 : GoC fns Q s k36_3 st ↔ GoO fns Q s q36_3 .ret st := goC_ops
def k36_4 : ACode :=
  .cond (.p 87) k36_3 .skip
@[simp] theorem xk36_4 : GoC fns Q s k36_4 st ↔ GB fns Q s (peek st (.p 87)) k36_3 .skip st := goC_cond
def k36_5 : ACode :=
  .seq k36_4 k36_2
@[simp] theorem xk36_5 : GoC fns Q s k36_5 st ↔ GoC fns Q (.sq k36_2 :: s) k36_4 st := goC_seq
def k36_6 : ACode :=
  .ops q36_4 k36_5
@[simp] theorem xk36_6 : GoC fns Q s k36_6 st ↔ GoO fns Q s q36_4 k36_5 st := goC_ops
def k36_7 : ACode :=
  .ops q36_5 k36_6
@[simp] theorem xk36_7 : GoC fns Q s k36_7 st ↔ GoO fns Q s q36_5 k36_6 st := goC_ops
def k36_8 : ACode :=
  .ops q36_6 .ret
@[simp] theorem xk36_8 : GoC fns Q s k36_8 st ↔ GoO fns Q s q36_6 .ret st := goC_ops
def k36_9 : ACode :=
  .ops q36_7 .ret
@[simp] theorem xk36_9 : GoC fns Q s k36_9 st ↔ GoO fns Q s q36_7 .ret st := goC_ops
def k36_10 : ACode :=
  .cond (.p 103) k36_9 .skip
@[simp] theorem xk36_10 : GoC fns Q s k36_10 st ↔ GB fns Q s (peek st (.p 103)) k36_9 .skip st := goC_cond
def k36_11 : ACode :=
  .seq k36_10 k36_8
@[simp] theorem xk36_11 : GoC fns Q s k36_11 st ↔ GoC fns Q (.sq k36_8 :: s) k36_10 st := goC_seq
def k36_12 : ACode :=
  .ops q36_8 k36_11
@[simp] theorem xk36_12 : GoC fns Q s k36_12 st ↔ GoO fns Q s q36_8 k36_11 st := goC_ops
def k36_13 : ACode :=
  .ops q36_9 k36_12
@[simp] theorem xk36_13 : GoC fns Q s k36_13 st ↔ GoO fns Q s q36_9 k36_12 st := goC_ops
def k36_14 : ACode :=
  .ops q36_10 .ret
@[simp] theorem xk36_14 : GoC fns Q s k36_14 st ↔ GoO fns Q s q36_10 .ret st := goC_ops
def k36_15 : ACode :=
  .cond (.p 91) k36_13 k36_14
@[simp] theorem xk36_15 : GoC fns Q s k36_15 st ↔ GB fns Q s (peek st (.p 91)) k36_13 k36_14 st := goC_cond
def k36_16 : ACode :=
  .ops q36_11 k36_15
@[simp] theorem xk36_16 : GoC fns Q s k36_16 st ↔ GoO fns Q s q36_11 k36_15 st := goC_ops
def k36_17 : ACode :=
  .cond (.p 75) k36_7 k36_16
@[simp] theorem xk36_17 : GoC fns Q s k36_17 st ↔ GB fns Q s (peek st (.p 75)) k36_7 k36_16 st := goC_cond
def k36_18 : ACode :=
  .ops q36_12 k36_17
@[simp] theorem xk36_18 : GoC fns Q s k36_18 st ↔ GoO fns Q s q36_12 k36_17 st := goC_ops
def k36_19 : ACode :=
  .block 2 k36_18
@[simp] theorem xk36_19 : GoC fns Q s k36_19 st ↔ GoC fns Q (.bl 2 :: s) k36_18 st := goC_block
def k36_20 : ACode :=
  .ops [⟨.move .head (.p 10), (some 68), none⟩] k36_19
@[simp] theorem xk36_20 : GoC fns Q s k36_20 st ↔ GoO fns Q s [⟨.move .head (.p 10), (some 68), none⟩] k36_19 st := goC_ops
def k36_21 : ACode :=
  .ops q36_13 k36_20
@[simp] theorem xk36_21 : GoC fns Q s k36_21 st ↔ GoO fns Q s q36_13 k36_20 st := goC_ops
def k36_22 : ACode :=
  .cond (.p 64) k36_21 .skip
@[simp] theorem xk36_22 : GoC fns Q s k36_22 st ↔ GB fns Q s (peek st (.p 64)) k36_21 .skip st := goC_cond
def k36_23 : ACode :=
  .seq k36_22 k36_1
@[simp] theorem xk36_23 : GoC fns Q s k36_23 st ↔ GoC fns Q (.sq k36_1 :: s) k36_22 st := goC_seq
def k36_24 : ACode :=
  .ops q36_14 k36_23
@[simp] theorem xk36_24 : GoC fns Q s k36_24 st ↔ GoO fns Q s q36_14 k36_23 st := goC_ops
def k36_25 : ACode :=
  .cond (.p 61) (.exit 1) .skip
@[simp] theorem xk36_25 : GoC fns Q s k36_25 st ↔ GB fns Q s (peek st (.p 61)) (.exit 1) .skip st := goC_cond
def k36_26 : ACode :=
  .seq k36_25 k36_24
@[simp] theorem xk36_26 : GoC fns Q s k36_26 st ↔ GoC fns Q (.sq k36_24 :: s) k36_25 st := goC_seq
def k36_27 : ACode :=
  .ops q36_15 k36_26
@[simp] theorem xk36_27 : GoC fns Q s k36_27 st ↔ GoO fns Q s q36_15 k36_26 st := goC_ops
def k36_28 : ACode :=
  .ops q36_16 .ret
@[simp] theorem xk36_28 : GoC fns Q s k36_28 st ↔ GoO fns Q s q36_16 .ret st := goC_ops
def k36_29 : ACode :=
  .cond (.p 49) k36_28 .skip
@[simp] theorem xk36_29 : GoC fns Q s k36_29 st ↔ GB fns Q s (peek st (.p 49)) k36_28 .skip st := goC_cond
def k36_30 : ACode :=
  .seq k36_29 k36_27
@[simp] theorem xk36_30 : GoC fns Q s k36_30 st ↔ GoC fns Q (.sq k36_27 :: s) k36_29 st := goC_seq
def k36_31 : ACode :=
  .ops q36_17 k36_30
@[simp] theorem xk36_31 : GoC fns Q s k36_31 st ↔ GoO fns Q s q36_17 k36_30 st := goC_ops
def k36_32 : ACode :=
  .ops q36_18 k36_31
@[simp] theorem xk36_32 : GoC fns Q s k36_32 st ↔ GoO fns Q s q36_18 k36_31 st := goC_ops
def k36_33 : ACode :=
  .ops q36_19 k36_32
@[simp] theorem xk36_33 : GoC fns Q s k36_33 st ↔ GoO fns Q s q36_19 k36_32 st := goC_ops
def k36_34 : ACode :=
  .block 1 k36_33
@[simp] theorem xk36_34 : GoC fns Q s k36_34 st ↔ GoC fns Q (.bl 1 :: s) k36_33 st := goC_block
def k36_35 : ACode :=
  .cond (.p 36) .skip (.exit 0)
@[simp] theorem xk36_35 : GoC fns Q s k36_35 st ↔ GB fns Q s (peek st (.p 36)) .skip (.exit 0) st := goC_cond
def k36_36 : ACode :=
  .seq k36_35 k36_34
@[simp] theorem xk36_36 : GoC fns Q s k36_36 st ↔ GoC fns Q (.sq k36_34 :: s) k36_35 st := goC_seq
def k36_37 : ACode :=
  .ops q36_20 k36_36
@[simp] theorem xk36_37 : GoC fns Q s k36_37 st ↔ GoO fns Q s q36_20 k36_36 st := goC_ops
def lc36_0 : ACode :=
  k36_37
@[simp] theorem xlc36_0 : GoC fns Q s lc36_0 st ↔ GoC fns Q s k36_37 st := Iff.rfl
def k36_39 : ACode :=
  .loop lc36_0
@[simp] theorem xk36_39 : GoC fns Q s k36_39 st ↔ (LoopR fns lc36_0 st fun r => GoE fns Q s r.1 r.2) := goC_loop
def k36_40 : ACode :=
  .block 0 k36_39
@[simp] theorem xk36_40 : GoC fns Q s k36_40 st ↔ GoC fns Q (.bl 0 :: s) k36_39 st := goC_block
def k36_41 : ACode :=
  .seq k36_40 k36_0
@[simp] theorem xk36_41 : GoC fns Q s k36_41 st ↔ GoC fns Q (.sq k36_0 :: s) k36_40 st := goC_seq
def k36_42 : ACode :=
  .ops [⟨.assign (.c (.slice .nil 0 1 [])), (some 9), none⟩] k36_41
@[simp] theorem xk36_42 : GoC fns Q s k36_42 st ↔ GoO fns Q s [⟨.assign (.c (.slice .nil 0 1 [])), (some 9), none⟩] k36_41 st := goC_ops
def k36_43 : ACode :=
  .ops q36_21 k36_42
@[simp] theorem xk36_43 : GoC fns Q s k36_43 st ↔ GoO fns Q s q36_21 k36_42 st := goC_ops
def k36_44 : ACode :=
  .ops q36_22 .ret
@[simp] theorem xk36_44 : GoC fns Q s k36_44 st ↔ GoO fns Q s q36_22 .ret st := goC_ops
def k36_45 : ACode :=
  .cond (.p 27) k36_44 .skip
@[simp] theorem xk36_45 : GoC fns Q s k36_45 st ↔ GB fns Q s (peek st (.p 27)) k36_44 .skip st := goC_cond
def k36_46 : ACode :=
  .seq k36_45 k36_43
@[simp] theorem xk36_46 : GoC fns Q s k36_46 st ↔ GoC fns Q (.sq k36_43 :: s) k36_45 st := goC_seq
def k36_47 : ACode :=
  .ops q36_23 k36_46
@[simp] theorem xk36_47 : GoC fns Q s k36_47 st ↔ GoO fns Q s q36_23 k36_46 st := goC_ops
def k36_48 : ACode :=
  .ops q36_24 k36_47
@[simp] theorem xk36_48 : GoC fns Q s k36_48 st ↔ GoO fns Q s q36_24 k36_47 st := goC_ops
def k36_49 : ACode :=
  .ops q36_25 .ret
@[simp] theorem xk36_49 : GoC fns Q s k36_49 st ↔ GoO fns Q s q36_25 .ret st := goC_ops
def k36_50 : ACode :=
  .cond (.p 17) k36_49 .skip
@[simp] theorem xk36_50 : GoC fns Q s k36_50 st ↔ GB fns Q s (peek st (.p 17)) k36_49 .skip st := goC_cond
def k36_51 : ACode :=
  .seq k36_50 k36_48
@[simp] theorem xk36_51 : GoC fns Q s k36_51 st ↔ GoC fns Q (.sq k36_48 :: s) k36_50 st := goC_seq
def k36_52 : ACode :=
  .ops q36_26 k36_51
@[simp] theorem xk36_52 : GoC fns Q s k36_52 st ↔ GoO fns Q s q36_26 k36_51 st := goC_ops
def k36_53 : ACode :=
  .ops q36_27 k36_52
@[simp] theorem xk36_53 : GoC fns Q s k36_53 st ↔ GoO fns Q s q36_27 k36_52 st := goC_ops
def af36 : AFunc := ⟨113, k36_53, [.cell 4 true 2, .tmp 5], fun _ _ => none⟩

theorem ok36 : ∃ hs, pFunc Tryz.prog sg hs Tryz.f36 = some af36 := ⟨fun i => if i == 11 then 4 else if i == 13 then 4 else 0, by kernel_rfl⟩
def q34_0 : List AOper :=
  [⟨.load .look true 2 (.p 6), (some 14), none⟩,
    ⟨.call 44 [(.p 14, false)], (some 15), none⟩,
    ⟨.move .take (.p 7), (some 16), none⟩,
    ⟨.store 2 (.p 4) (.p 15), none, none⟩,
    ⟨.assign (.p 16), (some 5), none⟩]
@[simp] def eq34_0 := id q34_0.eq_1
def q34_1 : List AOper :=
  [⟨.move .look (.t 0), (some 9), none⟩,
    ⟨.move .look (.t 1), (some 10), none⟩,
    ⟨.call 36 [(.t 9, false), (.t 10, false)], (some 11), none⟩,
    ⟨.move .look (.t 11), (some 8), none⟩,
    ⟨.extract 8 0, (some 12), none⟩,
    ⟨.extract 8 1, (some 13), none⟩,
    ⟨.newbox 6 [.int .u8 0, .slice .nil 0 1 []], (some 6), none⟩,
    ⟨.store 2 (.p 6) (.p 12), none, none⟩,
    ⟨.assign (.p 13), (some 7), none⟩]
@[simp] def eq34_1 := id q34_1.eq_1
def q34_2 : List AOper :=
  [⟨.newbox 4 [.int .u8 0, .slice .nil 0 1 []], (some 4), none⟩,
    ⟨.assign (.c (.nilI)), (some 5), none⟩]
@[simp] def eq34_2 := id q34_2.eq_1
def k34_0 : ACode :=
  .ops q34_0 .ret
@[simp] theorem xk34_0 : GoC fns Q s k34_0 st ↔ GoO fns Q s q34_0 .ret st := goC_ops
def k34_1 : ACode :=
  .ops q34_1 k34_0
@[simp] theorem xk34_1 : GoC fns Q s k34_1 st ↔ GoO fns Q s q34_1 k34_0 st := goC_ops
def k34_2 : ACode :=
  .ops q34_2 k34_1
@[simp] theorem xk34_2 : GoC fns Q s k34_2 st ↔ GoO fns Q s q34_2 k34_1 st := goC_ops
def af34 : AFunc := ⟨17, k34_2, [.cell 4 true 2, .tmp 5], fun _ _ => none⟩

theorem ok34 : ∃ hs, pFunc Tryz.prog sg hs Tryz.f34 = some af34 := ⟨fun i => 0, by kernel_rfl⟩
def q17_0 : List AOper :=
  [⟨.load .look true 2 (.p 6), (some 14), none⟩,
    ⟨.call 35 [(.p 14, false)], (some 15), none⟩,
    ⟨.move .look (.p 7), (some 16), none⟩,
    ⟨.call 23 [(.p 16, false)], (some 17), none⟩,
    ⟨.store 2 (.p 4) (.p 15), none, none⟩,
    ⟨.assign (.p 17), (some 5), none⟩]
@[simp] def eq17_0 := id q17_0.eq_1
def q17_1 : List AOper :=
  [⟨.move .look (.t 0), (some 9), none⟩,
    ⟨.move .look (.t 1), (some 10), none⟩,
    ⟨.call 34 [(.t 9, false), (.t 10, false)], (some 11), none⟩,
    ⟨.move .look (.t 11), (some 8), none⟩,
    ⟨.extract 8 0, (some 12), none⟩,
    ⟨.extract 8 1, (some 13), none⟩,
    ⟨.newbox 6 [.int .u8 0, .slice .nil 0 1 []], (some 6), none⟩,
    ⟨.store 2 (.p 6) (.p 12), none, none⟩,
    ⟨.assign (.p 13), (some 7), none⟩]
@[simp] def eq17_1 := id q17_1.eq_1
def q17_2 : List AOper :=
  [⟨.newbox 4 [.int .i64 0, .slice .nil 0 1 []], (some 4), none⟩,
    ⟨.assign (.c (.int .i64 0)), (some 5), none⟩]
@[simp] def eq17_2 := id q17_2.eq_1
def k17_0 : ACode :=
  .ops q17_0 .ret
@[simp] theorem xk17_0 : GoC fns Q s k17_0 st ↔ GoO fns Q s q17_0 .ret st := goC_ops
def k17_1 : ACode :=
  .ops q17_1 k17_0
@[simp] theorem xk17_1 : GoC fns Q s k17_1 st ↔ GoO fns Q s q17_1 k17_0 st := goC_ops
def k17_2 : ACode :=
  .ops q17_2 k17_1
@[simp] theorem xk17_2 : GoC fns Q s k17_2 st ↔ GoO fns Q s q17_2 k17_1 st := goC_ops
def af17 : AFunc := ⟨18, k17_2, [.cell 4 true 2, .tmp 5], fun _ _ => none⟩

theorem ok17 : ∃ hs, pFunc Tryz.prog sg hs Tryz.f17 = some af17 := ⟨fun i => 0, by kernel_rfl⟩
def q18_0 : List AOper :=
  [⟨.load .look true 2 (.p 6), (some 14), none⟩,
    ⟨.call 37 [(.p 14, false)], (some 15), none⟩,
    ⟨.move .look (.p 7), (some 16), none⟩,
    ⟨.call 23 [(.p 16, false)], (some 17), none⟩,
    ⟨.store 2 (.p 4) (.p 15), none, none⟩,
    ⟨.assign (.p 17), (some 5), none⟩]
@[simp] def eq18_0 := id q18_0.eq_1
def q18_1 : List AOper :=
  [⟨.move .look (.t 0), (some 9), none⟩,
    ⟨.move .look (.t 1), (some 10), none⟩,
    ⟨.call 36 [(.t 9, false), (.t 10, false)], (some 11), none⟩,
    ⟨.move .look (.t 11), (some 8), none⟩,
    ⟨.extract 8 0, (some 12), none⟩,
    ⟨.extract 8 1, (some 13), none⟩,
    ⟨.newbox 6 [.int .u8 0, .slice .nil 0 1 []], (some 6), none⟩,
    ⟨.store 2 (.p 6) (.p 12), none, none⟩,
    ⟨.assign (.p 13), (some 7), none⟩]
@[simp] def eq18_1 := id q18_1.eq_1
def q18_2 : List AOper :=
  [⟨.newbox 4 [.int .i64 0, .slice .nil 0 1 []], (some 4), none⟩,
    ⟨.assign (.c (.int .i64 0)), (some 5), none⟩]
@[simp] def eq18_2 := id q18_2.eq_1
def k18_0 : ACode :=
  .ops q18_0 .ret
@[simp] theorem xk18_0 : GoC fns Q s k18_0 st ↔ GoO fns Q s q18_0 .ret st := goC_ops
def k18_1 : ACode :=
  .ops q18_1 k18_0
@[simp] theorem xk18_1 : GoC fns Q s k18_1 st ↔ GoO fns Q s q18_1 k18_0 st := goC_ops
def k18_2 : ACode :=
  .ops q18_2 k18_1
@[simp] theorem xk18_2 : GoC fns Q s k18_2 st ↔ GoO fns Q s q18_2 k18_1 st := goC_ops
def af18 : AFunc := ⟨18, k18_2, [.cell 4 true 2, .tmp 5], fun _ _ => none⟩

theorem ok18 : ∃ hs, pFunc Tryz.prog sg hs Tryz.f18 = some af18 := ⟨fun i => 0, by kernel_rfl⟩
def q16_0 : List AOper :=
  [⟨.move .head (.p 3), (some 19), none⟩,
    ⟨.bin .eql 1 true (.p 19) (.c (.int .i64 0)), (some 20), none⟩,
    ⟨.move .look (.p 20), (some 21), none⟩,
    ⟨.move .head (.p 5), (some 22), (some (21, true))⟩,
    ⟨.bin .eql 1 true (.p 22) (.c (.int .i64 0)), (some 23), (some (21, true))⟩,
    ⟨.pick (.p 21) (.p 23) (.c (.bool false)), (some 24), none⟩,
    ⟨.move .look (.p 24), (some 25), none⟩,
    ⟨.fieldAddr 1 (.p 2), (some 26), (some (25, true))⟩,
    ⟨.load .head false 1 (.p 26), (some 27), (some (25, true))⟩,
    ⟨.len false (.p 27), (some 28), (some (25, true))⟩,
    ⟨.bin .eql 1 true (.p 28) (.c (.int .i64 4)), (some 29), (some (25, true))⟩,
    ⟨.pick (.p 25) (.p 29) (.c (.bool false)), (some 30), none⟩,
    ⟨.move .look (.p 30), (some 31), none⟩,
    ⟨.load .look true 2 (.p 2), (some 32), (some (31, true))⟩,
    ⟨.load .look true 2 (.p 4), (some 33), (some (31, true))⟩,
    ⟨.call 19 [(.p 32, false), (.p 33, false)], (some 34), (some (31, true))⟩,
    ⟨.pick (.p 31) (.p 34) (.c (.bool false)), (some 35), none⟩,
    ⟨.assign (.p 35), (some 0), none⟩]
@[simp] def eq16_0 := id q16_0.eq_1
def q16_1 : List AOper :=
  [⟨.move .look (.t 1), (some 14), none⟩,
    ⟨.buildSl 9 1 [.str []] [(0, 1, .c (.str [97]))], (some 15), none⟩,
    ⟨.call 18 [(.t 14, false), (.t 15, false)], (some 16), none⟩,
    ⟨.move .look (.t 16), (some 13), none⟩,
    ⟨.extract 13 0, (some 17), none⟩,
    ⟨.extract 13 1, (some 18), none⟩,
    ⟨.newbox 4 [.int .i64 0, .slice .nil 0 1 []], (some 4), none⟩,
    ⟨.store 2 (.p 4) (.p 17), none, none⟩,
    ⟨.assign (.p 18), (some 5), none⟩]
@[simp] def eq16_1 := id q16_1.eq_1
def q16_2 : List AOper :=
  [⟨.move .look (.t 1), (some 8), none⟩,
    ⟨.buildSl 9 1 [.str []] [(0, 1, .c (.str [97]))], (some 9), none⟩,
    ⟨.call 17 [(.t 8, false), (.t 9, false)], (some 10), none⟩,
    ⟨.move .look (.t 10), (some 7), none⟩,
    ⟨.extract 7 0, (some 11), none⟩,
    ⟨.extract 7 1, (some 12), none⟩,
    ⟨.newbox 2 [.int .i64 0, .slice .nil 0 1 []], (some 2), none⟩,
    ⟨.store 2 (.p 2) (.p 11), none, none⟩,
    ⟨.assign (.p 12), (some 3), none⟩]
@[simp] def eq16_2 := id q16_2.eq_1
def q16_3 : List AOper :=
  [⟨.buildSl 5 1 [.int .u8 0, .int .u8 0, .int .u8 0, .int .u8 0, .int .u8 0, .int .u8 0, .int .u8 0, .int .u8 0, .int .u8 0, .int .u8 0, .int .u8 0, .int .u8 0] [(0, 1, .c (.int .u8 12)), (1, 1, .c (.int .u8 0)), (2, 1, .c (.int .u8 0)), (3, 1, .c (.int .u8 0)), (4, 1, .c (.int .u8 16)), (5, 1, .c (.int .u8 97)), (6, 1, .c (.int .u8 0)), (7, 1, .c (.int .u8 7)), (8, 1, .c (.int .u8 0)), (9, 1, .c (.int .u8 0)), (10, 1, .c (.int .u8 0)), (11, 1, .c (.int .u8 0))], (some 6), none⟩,
    ⟨.assign (.t 6), (some 1), none⟩]
@[simp] def eq16_3 := id q16_3.eq_1
def k16_0 : ACode :=
  .ops q16_0 .ret
@[simp] theorem xk16_0 : GoC fns Q s k16_0 st ↔ GoO fns Q s q16_0 .ret st := goC_ops
def k16_1 : ACode :=
  .ops q16_1 k16_0
@[simp] theorem xk16_1 : GoC fns Q s k16_1 st ↔ GoO fns Q s q16_1 k16_0 st := goC_ops
def k16_2 : ACode :=
  .ops q16_2 k16_1
@[simp] theorem xk16_2 : GoC fns Q s k16_2 st ↔ GoO fns Q s q16_2 k16_1 st := goC_ops
def k16_3 : ACode :=
  .ops q16_3 k16_2
@[simp] theorem xk16_3 : GoC fns Q s k16_3 st ↔ GoO fns Q s q16_3 k16_2 st := goC_ops
def k16_4 : ACode :=
  .ops [⟨.assign (.c (.bool false)), (some 0), none⟩] k16_3
@[simp] theorem xk16_4 : GoC fns Q s k16_4 st ↔ GoO fns Q s [⟨.assign (.c (.bool false)), (some 0), none⟩] k16_3 st := goC_ops
def af16 : AFunc := ⟨36, k16_4, [.tmp 0], fun _ _ => none⟩

theorem ok16 : ∃ hs, pFunc Tryz.prog sg hs Tryz.f16 = some af16 := ⟨fun i => 0, by kernel_rfl⟩
def q3_0 : List AOper :=
  [⟨.move .head (.p 20), (some 144), none⟩,
    ⟨.move .head (.p 22), (some 145), none⟩,
    ⟨.bin .eql 1 false (.p 144) (.p 145), (some 146), none⟩,
    ⟨.move .look (.p 146), (some 147), none⟩,
    ⟨.load .look true 2 (.p 19), (some 148), (some (147, true))⟩,
    ⟨.load .look true 2 (.p 21), (some 149), (some (147, true))⟩,
    ⟨.call 19 [(.p 148, false), (.p 149, false)], (some 150), (some (147, true))⟩,
    ⟨.pick (.p 147) (.p 150) (.c (.bool false)), (some 151), none⟩,
    ⟨.move .look (.p 151), (some 152), none⟩,
    ⟨.call 16 [], (some 153), (some (152, true))⟩,
    ⟨.pick (.p 152) (.p 153) (.c (.bool false)), (some 154), none⟩,
    ⟨.assign (.p 154), (some 6), none⟩]
@[simp] def eq3_0 := id q3_0.eq_1
def q3_1 : List AOper :=
  [⟨.move .look (.t 0), (some 139), none⟩,
    ⟨.move .look (.t 2), (some 140), none⟩,
    ⟨.call 18 [(.t 139, false), (.t 140, false)], (some 141), none⟩,
    ⟨.move .look (.t 141), (some 138), none⟩,
    ⟨.extract 138 0, (some 142), none⟩,
    ⟨.extract 138 1, (some 143), none⟩,
    ⟨.newbox 21 [.int .i64 0, .slice .nil 0 1 []], (some 21), none⟩,
    ⟨.store 2 (.p 21) (.p 142), none, none⟩,
    ⟨.assign (.p 143), (some 22), none⟩]
@[simp] def eq3_1 := id q3_1.eq_1
def q3_2 : List AOper :=
  [⟨.move .look (.t 0), (some 133), none⟩,
    ⟨.move .look (.t 2), (some 134), none⟩,
    ⟨.call 17 [(.t 133, false), (.t 134, false)], (some 135), none⟩,
    ⟨.move .look (.t 135), (some 132), none⟩,
    ⟨.extract 132 0, (some 136), none⟩,
    ⟨.extract 132 1, (some 137), none⟩,
    ⟨.newbox 19 [.int .i64 0, .slice .nil 0 1 []], (some 19), none⟩,
    ⟨.store 2 (.p 19) (.p 136), none, none⟩,
    ⟨.assign (.p 137), (some 20), none⟩]
@[simp] def eq3_2 := id q3_2.eq_1
def q3_3 : List AOper :=
  [⟨.move .head (.p 16), (some 119), none⟩,
    ⟨.move .head (.p 18), (some 120), none⟩,
    ⟨.bin .eql 1 false (.p 119) (.p 120), (some 121), none⟩,
    ⟨.move .look (.p 121), (some 122), none⟩,
    ⟨.move .look (.t 15), (some 123), (some (122, true))⟩,
    ⟨.convBS (.t 123), (some 124), (some (122, true))⟩,
    ⟨.move .look (.t 17), (some 125), (some (122, true))⟩,
    ⟨.convBS (.t 125), (some 126), (some (122, true))⟩,
    ⟨.bin .eql 2 false (.p 124) (.p 126), (some 127), (some (122, true))⟩,
    ⟨.pick (.p 122) (.p 127) (.c (.bool false)), (some 128), none⟩,
    ⟨.move .look (.p 128), (some 129), none⟩,
    ⟨.call 16 [], (some 130), (some (129, true))⟩,
    ⟨.pick (.p 129) (.p 130) (.c (.bool false)), (some 131), none⟩,
    ⟨.assign (.p 131), (some 6), none⟩]
@[simp] def eq3_3 := id q3_3.eq_1
def q3_4 : List AOper :=
  [⟨.move .head (.p 16), (some 104), none⟩,
    ⟨.move .head (.p 18), (some 105), none⟩,
    ⟨.bin .neq 1 false (.p 104) (.p 105), (some 106), none⟩,
    ⟨.move .look (.p 106), (some 107), none⟩,
    ⟨.move .look (.t 15), (some 108), (some (107, false))⟩,
    ⟨.convBS (.t 108), (some 109), (some (107, false))⟩,
    ⟨.move .look (.t 17), (some 110), (some (107, false))⟩,
    ⟨.convBS (.t 110), (some 111), (some (107, false))⟩,
    ⟨.bin .neq 2 false (.p 109) (.p 111), (some 112), (some (107, false))⟩,
    ⟨.pick (.p 107) (.c (.bool true)) (.p 112), (some 113), none⟩,
    ⟨.move .look (.p 113), (some 114), none⟩,
    ⟨.move .look (.t 0), (some 115), (some (114, false))⟩,
    ⟨.move .look (.t 2), (some 116), (some (114, false))⟩,
    ⟨.call 15 [(.t 115, false), (.t 116, false)], (some 117), (some (114, false))⟩,
    ⟨.pick (.p 114) (.c (.bool true)) (.p 117), (some 118), none⟩]
@[simp] def eq3_4 := id q3_4.eq_1
def q3_5 : List AOper :=
  [⟨.move .look (.t 0), (some 99), none⟩,
    ⟨.move .look (.p 1), (some 100), none⟩,
    ⟨.call 14 [(.t 99, false), (.p 100, false)], (some 101), none⟩,
    ⟨.move .look (.t 101), (some 98), none⟩,
    ⟨.extract 98 0, (some 102), none⟩,
    ⟨.extract 98 1, (some 103), none⟩,
    ⟨.assign (.t 102), (some 17), none⟩,
    ⟨.assign (.p 103), (some 18), none⟩]
@[simp] def eq3_5 := id q3_5.eq_1
def q3_6 : List AOper :=
  [⟨.move .look (.t 0), (some 93), none⟩,
    ⟨.move .look (.p 1), (some 94), none⟩,
    ⟨.call 13 [(.t 93, false), (.p 94, false)], (some 95), none⟩,
    ⟨.move .look (.t 95), (some 92), none⟩,
    ⟨.extract 92 0, (some 96), none⟩,
    ⟨.extract 92 1, (some 97), none⟩,
    ⟨.assign (.t 96), (some 15), none⟩,
    ⟨.assign (.p 97), (some 16), none⟩]
@[simp] def eq3_6 := id q3_6.eq_1
def q3_7 : List AOper :=
  [⟨.move .head (.p 12), (some 83), none⟩,
    ⟨.move .head (.p 14), (some 84), none⟩,
    ⟨.bin .neq 0 false (.p 83) (.p 84), (some 85), none⟩,
    ⟨.move .look (.p 85), (some 86), none⟩,
    ⟨.move .look (.t 11), (some 87), (some (86, false))⟩,
    ⟨.move .look (.t 13), (some 88), (some (86, false))⟩,
    ⟨.call 12 [(.t 87, false), (.t 88, false)], (some 89), (some (86, false))⟩,
    ⟨.un .not (.p 89), (some 90), (some (86, false))⟩,
    ⟨.pick (.p 86) (.c (.bool true)) (.p 90), (some 91), none⟩]
@[simp] def eq3_7 := id q3_7.eq_1
def q3_8 : List AOper :=
  [⟨.move .look (.t 0), (some 79), none⟩,
    ⟨.call 11 [(.t 79, false)], (some 80), none⟩,
    ⟨.move .look (.t 80), (some 78), none⟩,
    ⟨.extract 78 0, (some 81), none⟩,
    ⟨.extract 78 1, (some 82), none⟩,
    ⟨.assign (.t 81), (some 13), none⟩,
    ⟨.assign (.p 82), (some 14), none⟩]
@[simp] def eq3_8 := id q3_8.eq_1
def q3_9 : List AOper :=
  [⟨.move .look (.t 0), (some 74), none⟩,
    ⟨.call 10 [(.t 74, false)], (some 75), none⟩,
    ⟨.move .look (.t 75), (some 73), none⟩,
    ⟨.extract 73 0, (some 76), none⟩,
    ⟨.extract 73 1, (some 77), none⟩,
    ⟨.assign (.t 76), (some 11), none⟩,
    ⟨.assign (.p 77), (some 12), none⟩]
@[simp] def eq3_9 := id q3_9.eq_1
def q3_10 : List AOper :=
  [⟨.move .head (.p 8), (some 54), none⟩,
    ⟨.move .head (.p 10), (some 55), none⟩,
    ⟨.bin .neq 0 false (.p 54) (.p 55), (some 56), none⟩,
    ⟨.move .look (.p 56), (some 57), none⟩,
    ⟨.move .look (.p 8), (some 58), (some (57, false))⟩,
    ⟨.move .look (.p 58), (some 59), (some (57, false))⟩,
    ⟨.move .look (.t 7), (some 60), (some (59, true))⟩,
    ⟨.move .look (.t 9), (some 61), (some (59, true))⟩,
    ⟨.call 7 [(.t 60, false), (.t 61, false)], (some 62), (some (59, true))⟩,
    ⟨.un .not (.p 62), (some 63), (some (59, true))⟩,
    ⟨.pick (.p 59) (.p 63) (.c (.bool false)), (some 64), (some (57, false))⟩,
    ⟨.pick (.p 57) (.c (.bool true)) (.p 64), (some 65), none⟩,
    ⟨.move .look (.p 65), (some 66), none⟩,
    ⟨.move .look (.t 0), (some 67), (some (66, false))⟩,
    ⟨.call 8 [(.t 67, false)], (some 68), (some (66, false))⟩,
    ⟨.move .look (.t 0), (some 69), (some (66, false))⟩,
    ⟨.call 9 [(.t 69, false)], (some 70), (some (66, false))⟩,
    ⟨.bin .neq 1 false (.p 68) (.p 70), (some 71), (some (66, false))⟩,
    ⟨.pick (.p 66) (.c (.bool true)) (.p 71), (some 72), none⟩]
@[simp] def eq3_10 := id q3_10.eq_1
def q3_11 : List AOper :=
  [⟨.move .look (.t 0), (some 50), none⟩,
    ⟨.call 6 [(.t 50, false)], (some 51), none⟩,
    ⟨.move .look (.t 51), (some 49), none⟩,
    ⟨.extract 49 0, (some 52), none⟩,
    ⟨.extract 49 1, (some 53), none⟩,
    ⟨.assign (.t 52), (some 9), none⟩,
    ⟨.assign (.p 53), (some 10), none⟩]
@[simp] def eq3_11 := id q3_11.eq_1
def q3_12 : List AOper :=
  [⟨.move .look (.t 0), (some 45), none⟩,
    ⟨.call 5 [(.t 45, false)], (some 46), none⟩,
    ⟨.move .look (.t 46), (some 44), none⟩,
    ⟨.extract 44 0, (some 47), none⟩,
    ⟨.extract 44 1, (some 48), none⟩,
    ⟨.assign (.t 47), (some 7), none⟩,
    ⟨.assign (.p 48), (some 8), none⟩]
@[simp] def eq3_12 := id q3_12.eq_1
def q3_13 : List AOper :=
  [⟨.move .head (.t 0), (some 31), none⟩,
    ⟨.len false (.p 31), (some 32), none⟩,
    ⟨.bin .eql 1 true (.p 32) (.c (.int .i64 0)), (some 33), none⟩,
    ⟨.move .look (.p 33), (some 34), none⟩,
    ⟨.move .head (.t 0), (some 35), (some (34, false))⟩,
    ⟨.len false (.p 35), (some 36), (some (34, false))⟩,
    ⟨.bin .gtr 1 true (.p 36) (.c (.int .i64 5000)), (some 37), (some (34, false))⟩,
    ⟨.pick (.p 34) (.c (.bool true)) (.p 37), (some 38), none⟩,
    ⟨.move .look (.p 38), (some 39), none⟩,
    ⟨.move .head (.t 2), (some 40), (some (39, false))⟩,
    ⟨.len false (.p 40), (some 41), (some (39, false))⟩,
    ⟨.bin .gtr 1 true (.p 41) (.c (.int .i64 20)), (some 42), (some (39, false))⟩,
    ⟨.pick (.p 39) (.c (.bool true)) (.p 42), (some 43), none⟩]
@[simp] def eq3_13 := id q3_13.eq_1
def q3_14 : List AOper :=
  [⟨.move .head (.t 0), (some 23), none⟩,
    ⟨.len false (.p 23), (some 24), none⟩,
    ⟨.bin .gtr 1 true (.p 24) (.c (.int .i64 2147483647)), (some 25), none⟩,
    ⟨.move .look (.p 25), (some 26), none⟩,
    ⟨.move .look (.t 2), (some 27), (some (26, false))⟩,
    ⟨.call 4 [(.t 27, false)], (some 28), (some (26, false))⟩,
    ⟨.un .not (.p 28), (some 29), (some (26, false))⟩,
    ⟨.pick (.p 26) (.c (.bool true)) (.p 29), (some 30), none⟩]
@[simp] def eq3_14 := id q3_14.eq_1
def k3_0 : ACode :=
  .ops q3_0 .ret
@[simp] theorem xk3_0 : GoC fns Q s k3_0 st ↔ GoO fns Q s q3_0 .ret st := goC_ops
def k3_1 : ACode :=
  .ops q3_1 k3_0
@[simp] theorem xk3_1 : GoC fns Q s k3_1 st ↔ GoO fns Q s q3_1 k3_0 st := goC_ops
def k3_2 : ACode :=
  .ops q3_2 k3_1
@[simp] theorem xk3_2 : GoC fns Q s k3_2 st ↔ GoO fns Q s q3_2 k3_1 st := goC_ops
def k3_3 : ACode :=
  .ops q3_3 .ret
@[simp] theorem xk3_3 : GoC fns Q s k3_3 st ↔ GoO fns Q s q3_3 .ret st := goC_ops
def k3_4 : ACode :=
  .cond (.p 118) k3_3 .skip
@[simp] theorem xk3_4 : GoC fns Q s k3_4 st ↔ GB fns Q s (peek st (.p 118)) k3_3 .skip st := goC_cond
def k3_5 : ACode :=
  .seq k3_4 k3_2
@[simp] theorem xk3_5 : GoC fns Q s k3_5 st ↔ GoC fns Q (.sq k3_2 :: s) k3_4 st := goC_seq
def k3_6 : ACode :=
  .ops q3_4 k3_5
@[simp] theorem xk3_6 : GoC fns Q s k3_6 st ↔ GoO fns Q s q3_4 k3_5 st := goC_ops
def k3_7 : ACode :=
  .ops q3_5 k3_6
@[simp] theorem xk3_7 : GoC fns Q s k3_7 st ↔ GoO fns Q s q3_5 k3_6 st := goC_ops
def k3_8 : ACode :=
  .ops q3_6 k3_7
@[simp] theorem xk3_8 : GoC fns Q s k3_8 st ↔ GoO fns Q s q3_6 k3_7 st := goC_ops
def k3_9 : ACode :=
  .ops [⟨.assign (.c (.bool false)), (some 6), none⟩] .ret
@[simp] theorem xk3_9 : GoC fns Q s k3_9 st ↔ GoO fns Q s [⟨.assign (.c (.bool false)), (some 6), none⟩] .ret st := goC_ops
def k3_10 : ACode :=
  .cond (.p 91) k3_9 .skip
@[simp] theorem xk3_10 : GoC fns Q s k3_10 st ↔ GB fns Q s (peek st (.p 91)) k3_9 .skip st := goC_cond
def k3_11 : ACode :=
  .seq k3_10 k3_8
@[simp] theorem xk3_11 : GoC fns Q s k3_11 st ↔ GoC fns Q (.sq k3_8 :: s) k3_10 st := goC_seq
def k3_12 : ACode :=
  .ops q3_7 k3_11
@[simp] theorem xk3_12 : GoC fns Q s k3_12 st ↔ GoO fns Q s q3_7 k3_11 st := goC_ops
def k3_13 : ACode :=
  .ops q3_8 k3_12
@[simp] theorem xk3_13 : GoC fns Q s k3_13 st ↔ GoO fns Q s q3_8 k3_12 st := goC_ops
def k3_14 : ACode :=
  .ops q3_9 k3_13
@[simp] theorem xk3_14 : GoC fns Q s k3_14 st ↔ GoO fns Q s q3_9 k3_13 st := goC_ops
def k3_15 : ACode :=
  .ops [⟨.assign (.c (.bool false)), (some 6), none⟩] .ret
@[simp] theorem xk3_15 : GoC fns Q s k3_15 st ↔ GoO fns Q s [⟨.assign (.c (.bool false)), (some 6), none⟩] .ret st := goC_ops
def k3_16 : ACode :=
  .cond (.p 72) k3_15 .skip
@[simp] theorem xk3_16 : GoC fns Q s k3_16 st ↔ GB fns Q s (peek st (.p 72)) k3_15 .skip st := goC_cond
def k3_17 : ACode :=
  .seq k3_16 k3_14
@[simp] theorem xk3_17 : GoC fns Q s k3_17 st ↔ GoC fns Q (.sq k3_14 :: s) k3_16 st := goC_seq
def k3_18 : ACode :=
  .ops q3_10 k3_17
@[simp] theorem xk3_18 : GoC fns Q s k3_18 st ↔ GoO fns Q s q3_10 k3_17 st := goC_ops
def k3_19 : ACode :=
  .ops q3_11 k3_18
@[simp] theorem xk3_19 : GoC fns Q s k3_19 st ↔ GoO fns Q s q3_11 k3_18 st := goC_ops
def k3_20 : ACode :=
  .ops q3_12 k3_19
@[simp] theorem xk3_20 : GoC fns Q s k3_20 st ↔ GoO fns Q s q3_12 k3_19 st := goC_ops
def k3_21 : ACode :=
  .ops [⟨.assign (.c (.bool true)), (some 6), none⟩] .ret
@[simp] theorem xk3_21 : GoC fns Q s k3_21 st ↔ GoO fns Q s [⟨.assign (.c (.bool true)), (some 6), none⟩] .ret st := goC_ops
def k3_22 : ACode :=
  .cond (.p 43) k3_21 .skip
@[simp] theorem xk3_22 : GoC fns Q s k3_22 st ↔ GB fns Q s (peek st (.p 43)) k3_21 .skip st := goC_cond
def k3_23 : ACode :=
  .seq k3_22 k3_20
@[simp] theorem xk3_23 : GoC fns Q s k3_23 st ↔ GoC fns Q (.sq k3_20 :: s) k3_22 st := goC_seq
def k3_24 : ACode :=
  .ops q3_13 k3_23
@[simp] theorem xk3_24 : GoC fns Q s k3_24 st ↔ GoO fns Q s q3_13 k3_23 st := goC_ops
def k3_25 : ACode :=
  .ops [⟨.assign (.c (.bool true)), (some 6), none⟩] .ret
@[simp] theorem xk3_25 : GoC fns Q s k3_25 st ↔ GoO fns Q s [⟨.assign (.c (.bool true)), (some 6), none⟩] .ret st := goC_ops
def k3_26 : ACode :=
  .cond (.p 30) k3_25 .skip
@[simp] theorem xk3_26 : GoC fns Q s k3_26 st ↔ GB fns Q s (peek st (.p 30)) k3_25 .skip st := goC_cond
def k3_27 : ACode :=
  .seq k3_26 k3_24
@[simp] theorem xk3_27 : GoC fns Q s k3_27 st ↔ GoC fns Q (.sq k3_24 :: s) k3_26 st := goC_seq
def k3_28 : ACode :=
  .ops q3_14 k3_27
@[simp] theorem xk3_28 : GoC fns Q s k3_28 st ↔ GoO fns Q s q3_14 k3_27 st := goC_ops
def k3_29 : ACode :=
  .ops [⟨.assign (.c (.bool false)), (some 6), none⟩] k3_28
@[simp] theorem xk3_29 : GoC fns Q s k3_29 st ↔ GoO fns Q s [⟨.assign (.c (.bool false)), (some 6), none⟩] k3_28 st := goC_ops
def af3 : AFunc := ⟨155, k3_29, [.tmp 6], fun _ _ => none⟩

theorem ok3 : ∃ hs, pFunc Tryz.prog sg hs Tryz.f3 = some af3 := ⟨fun i => 0, by kernel_rfl⟩
end
end Go.Proofs.YtdnfnobgeddbfaaGreatDoor.Abs
