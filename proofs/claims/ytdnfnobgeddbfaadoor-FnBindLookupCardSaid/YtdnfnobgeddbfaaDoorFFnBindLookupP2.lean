/- The functions that the law reaches, made ready for the interpreter (printed by a program of this session; the kernel compares each with the given program). -/
import Derived.Test.YtdnfnobgeddbfaaDoorFFnBindLookupP1
namespace Go.Proofs.YtdnfnobgeddbfaaDoor.Abs
set_option linter.all false
set_option maxRecDepth 100000
section
variable {fns : FuncId → Option AFunc} {Q : Ex × St → Prop} {s : List Fr} {c : ACode} {st : St}
/-- No. 54 -/
def q54_0 : List AOper :=
  [⟨.fieldAddr 1 (.p 1), (some 17), none⟩,
    ⟨.load .look false 1 (.p 17), (some 18), none⟩,
    ⟨.fieldAddr 1 (.p 1), (some 19), none⟩,
    ⟨.load .look false 1 (.p 19), (some 20), none⟩,
    ⟨.call 70 [(.t 18, false), (.t 20, false)], (some 21), none⟩,
    ⟨.mkIface 100 (.p 21), (some 22), none⟩,
    ⟨.assign (.p 22), (some 2), none⟩]
@[simp] def eq54_0 := id q54_0.eq_1
def q54_1 : List AOper :=
  [⟨.move .look (.p 5), (some 15), none⟩,
    ⟨.un .not (.p 15), (some 16), none⟩]
@[simp] def eq54_1 := id q54_1.eq_1
def q54_2 : List AOper :=
  [⟨.fieldAddr 1 (.p 1), (some 7), none⟩,
    ⟨.load .look false 1 (.p 7), (some 8), none⟩,
    ⟨.fieldAddr 0 (.p 1), (some 9), none⟩,
    ⟨.load .look false 1 (.p 9), (some 10), none⟩,
    ⟨.call 69 [(.t 8, false), (.p 10, false)], (some 11), none⟩,
    ⟨.move .look (.t 11), (some 6), none⟩,
    ⟨.extract 6 0, (some 12), none⟩,
    ⟨.extract 6 1, (some 13), none⟩,
    ⟨.extract 6 2, (some 14), none⟩,
    ⟨.assign (.t 12), (some 3), none⟩,
    ⟨.assign (.t 13), (some 4), none⟩,
    ⟨.assign (.p 14), (some 5), none⟩]
@[simp] def eq54_2 := id q54_2.eq_1
def q54_3 : List AOper :=
  [⟨.box 1 (.p 0), (some 1), none⟩,
    ⟨.assign (.c (.nilI)), (some 2), none⟩]
@[simp] def eq54_3 := id q54_3.eq_1
def k54_0 : ACode :=
  .ops [⟨.assign (.c (.nilI)), (some 2), none⟩] .ret
@[simp] theorem xk54_0 : GoC fns Q s k54_0 st ↔ GoO fns Q s [⟨.assign (.c (.nilI)), (some 2), none⟩] .ret st := goC_ops
def k54_1 : ACode :=
  .ops q54_0 .ret
@[simp] theorem xk54_1 : GoC fns Q s k54_1 st ↔ GoO fns Q s q54_0 .ret st := goC_ops
def k54_2 : ACode :=
  .cond (.p 16) k54_1 .skip
@[simp] theorem xk54_2 : GoC fns Q s k54_2 st ↔ GB fns Q s (peek st (.p 16)) k54_1 .skip st := goC_cond
def k54_3 : ACode :=
  .seq k54_2 k54_0
@[simp] theorem xk54_3 : GoC fns Q s k54_3 st ↔ GoC fns Q (.sq k54_0 :: s) k54_2 st := goC_seq
def k54_4 : ACode :=
  .ops q54_1 k54_3
@[simp] theorem xk54_4 : GoC fns Q s k54_4 st ↔ GoO fns Q s q54_1 k54_3 st := goC_ops
def k54_5 : ACode :=
  .ops q54_2 k54_4
@[simp] theorem xk54_5 : GoC fns Q s k54_5 st ↔ GoO fns Q s q54_2 k54_4 st := goC_ops
def k54_6 : ACode :=
  .ops q54_3 k54_5
@[simp] theorem xk54_6 : GoC fns Q s k54_6 st ↔ GoO fns Q s q54_3 k54_5 st := goC_ops
def af54 : AFunc := ⟨23, k54_6, [.tmp 2], fun _ => none⟩

theorem ok54 : ∃ hs, pFunc Tryd.prog sg hs Tryd.f54 = some af54 := ⟨fun i => 0, by kernel_rfl⟩
/-- No. 63 -/
def q63_0 : List AOper :=
  [⟨.move .look (.t 0), (some 14), none⟩,
    ⟨.indexAddr 1 (.t 14) (.c (.int .i64 0)), (some 15), none⟩,
    ⟨.load .look false 1 (.p 15), (some 16), none⟩,
    ⟨.move .look (.t 0), (some 17), none⟩,
    ⟨.move .look (.p 3), (some 18), none⟩,
    ⟨.bin .add 1 true (.p 18) (.c (.int .i64 2)), (some 19), none⟩,
    ⟨.sliceSl 1 (.t 17) (some (.p 19)) none, (some 20), none⟩,
    ⟨.build [.int .u8 0, .slice .nil 0 1 []] [(0, 1, .p 16), (1, 1, .t 20)], (some 21), none⟩,
    ⟨.call 54 [(.p 21, false)], (some 22), none⟩,
    ⟨.assign (.p 22), (some 2), none⟩]
@[simp] def eq63_0 := id q63_0.eq_1
def q63_1 : List AOper :=
  [⟨.mkIface 102 (.c (.str [101, 108, 101, 109, 101, 110, 116, 32, 105, 115, 32, 109, 105, 115, 115, 105, 110, 103, 32, 107, 101, 121])), (some 13), none⟩,
    ⟨.assign (.p 13), (some 2), none⟩]
@[simp] def eq63_1 := id q63_1.eq_1
def q63_2 : List AOper :=
  [⟨.move .head (.p 3), (some 11), none⟩,
    ⟨.bin .eql 1 true (.p 11) (.c (.int .i64 (-1))), (some 12), none⟩]
@[simp] def eq63_2 := id q63_2.eq_1
def q63_3 : List AOper :=
  [⟨.move .look (.t 0), (some 8), none⟩,
    ⟨.sliceSl 1 (.t 8) (some (.c (.int .i64 1))) none, (some 9), none⟩,
    ⟨.call 82 [(.t 9, false), (.c (.int .u8 0), false)], (some 10), none⟩,
    ⟨.assign (.p 10), (some 3), none⟩]
@[simp] def eq63_3 := id q63_3.eq_1
def q63_4 : List AOper :=
  [⟨.mkIface 102 (.c (.str [101, 108, 101, 109, 101, 110, 116, 32, 105, 115, 32, 109, 105, 115, 115, 105, 110, 103, 32, 116, 121, 112, 101])), (some 7), none⟩,
    ⟨.assign (.p 7), (some 2), none⟩]
@[simp] def eq63_4 := id q63_4.eq_1
def q63_5 : List AOper :=
  [⟨.move .head (.t 0), (some 4), none⟩,
    ⟨.len false (.p 4), (some 5), none⟩,
    ⟨.bin .lss 1 true (.p 5) (.c (.int .i64 1)), (some 6), none⟩]
@[simp] def eq63_5 := id q63_5.eq_1
def k63_0 : ACode :=
  .ops q63_0 .ret
@[simp] theorem xk63_0 : GoC fns Q s k63_0 st ↔ GoO fns Q s q63_0 .ret st := goC_ops
def k63_1 : ACode :=
  .ops q63_1 .ret
@[simp] theorem xk63_1 : GoC fns Q s k63_1 st ↔ GoO fns Q s q63_1 .ret st := goC_ops
def k63_2 : ACode :=
  .cond (.p 12) k63_1 .skip
@[simp] theorem xk63_2 : GoC fns Q s k63_2 st ↔ GB fns Q s (peek st (.p 12)) k63_1 .skip st := goC_cond
def k63_3 : ACode :=
  .seq k63_2 k63_0
@[simp] theorem xk63_3 : GoC fns Q s k63_3 st ↔ GoC fns Q (.sq k63_0 :: s) k63_2 st := goC_seq
def k63_4 : ACode :=
  .ops q63_2 k63_3
@[simp] theorem xk63_4 : GoC fns Q s k63_4 st ↔ GoO fns Q s q63_2 k63_3 st := goC_ops
def k63_5 : ACode :=
  .ops q63_3 k63_4
@[simp] theorem xk63_5 : GoC fns Q s k63_5 st ↔ GoO fns Q s q63_3 k63_4 st := goC_ops
def k63_6 : ACode :=
  .ops q63_4 .ret
@[simp] theorem xk63_6 : GoC fns Q s k63_6 st ↔ GoO fns Q s q63_4 .ret st := goC_ops
def k63_7 : ACode :=
  .cond (.p 6) k63_6 .skip
@[simp] theorem xk63_7 : GoC fns Q s k63_7 st ↔ GB fns Q s (peek st (.p 6)) k63_6 .skip st := goC_cond
def k63_8 : ACode :=
  .seq k63_7 k63_5
@[simp] theorem xk63_8 : GoC fns Q s k63_8 st ↔ GoC fns Q (.sq k63_5 :: s) k63_7 st := goC_seq
def k63_9 : ACode :=
  .ops q63_5 k63_8
@[simp] theorem xk63_9 : GoC fns Q s k63_9 st ↔ GoO fns Q s q63_5 k63_8 st := goC_ops
def k63_10 : ACode :=
  .ops [⟨.assign (.c (.nilI)), (some 2), none⟩] k63_9
@[simp] theorem xk63_10 : GoC fns Q s k63_10 st ↔ GoO fns Q s [⟨.assign (.c (.nilI)), (some 2), none⟩] k63_9 st := goC_ops
def af63 : AFunc := ⟨23, k63_10, [.tmp 2], fun _ => none⟩

theorem ok63 : ∃ hs, pFunc Tryd.prog sg hs Tryd.f63 = some af63 := ⟨fun i => 0, by kernel_rfl⟩
/-- No. 57 -/
def q57_0 : List AOper :=
  [⟨.move .take (.t 8), (some 54), none⟩,
    ⟨.assign (.t 54), (some 2), none⟩,
    ⟨.assign (.c (.nilI)), (some 3), none⟩]
@[simp] def eq57_0 := id q57_0.eq_1
def q57_1 : List AOper :=
  [⟨.move .take (.t 8), (some 50), none⟩,
    ⟨.move .look (.t 7), (some 51), none⟩,
    ⟨.buildSl 118 1 [.slice .nil 0 1 []] [(0, 1, .t 51)], (some 52), none⟩,
    ⟨.append 118 1 24 false (.t 50) (.p 52), (some 53), none⟩,
    ⟨.assign (.t 53), (some 8), none⟩]
@[simp] def eq57_1 := id q57_1.eq_1
def q57_2 : List AOper :=
  [⟨.move .take (.t 8), (some 48), none⟩,
    ⟨.move .take (.p 9), (some 49), none⟩,
    ⟨.assign (.t 48), (some 2), none⟩,
    ⟨.assign (.p 49), (some 3), none⟩]
@[simp] def eq57_2 := id q57_2.eq_1
def q57_3 : List AOper :=
  [⟨.move .head (.p 9), (some 46), none⟩,
    ⟨.bin .neq 5 true (.p 46) (.c (.nilI)), (some 47), none⟩]
@[simp] def eq57_3 := id q57_3.eq_1
def q57_4 : List AOper :=
  [⟨.move .look (.t 7), (some 44), none⟩,
    ⟨.call 63 [(.t 44, false)], (some 45), none⟩,
    ⟨.assign (.p 45), (some 9), none⟩]
@[simp] def eq57_4 := id q57_4.eq_1
def q57_5 : List AOper :=
  [⟨.move .take (.t 8), (some 39), none⟩,
    ⟨.move .look (.t 0), (some 40), none⟩,
    ⟨.move .look (.t 5), (some 41), none⟩,
    ⟨.call 70 [(.t 40, false), (.t 41, false)], (some 42), none⟩,
    ⟨.mkIface 100 (.p 42), (some 43), none⟩,
    ⟨.assign (.t 39), (some 2), none⟩,
    ⟨.assign (.p 43), (some 3), none⟩]
@[simp] def eq57_5 := id q57_5.eq_1
def q57_6 : List AOper :=
  [⟨.move .look (.p 6), (some 37), none⟩,
    ⟨.un .not (.p 37), (some 38), none⟩]
@[simp] def eq57_6 := id q57_6.eq_1
def q57_7 : List AOper :=
  [⟨.move .look (.p 4), (some 32), none⟩,
    ⟨.move .head (.t 7), (some 33), none⟩,
    ⟨.len false (.p 33), (some 34), none⟩,
    ⟨.convInt .i32 (.p 34), (some 35), none⟩,
    ⟨.bin .sub 1 false (.p 32) (.p 35), (some 36), none⟩,
    ⟨.assign (.p 36), (some 4), none⟩]
@[simp] def eq57_7 := id q57_7.eq_1
def q57_8 : List AOper :=
  [⟨.move .look (.t 5), (some 27), none⟩,
    ⟨.call 72 [(.t 27, false)], (some 28), none⟩,
    ⟨.move .look (.t 28), (some 26), none⟩,
    ⟨.extract 26 0, (some 29), none⟩,
    ⟨.extract 26 1, (some 30), none⟩,
    ⟨.extract 26 2, (some 31), none⟩,
    ⟨.assign (.t 29), (some 7), none⟩,
    ⟨.assign (.t 30), (some 5), none⟩,
    ⟨.assign (.p 31), (some 6), none⟩]
@[simp] def eq57_8 := id q57_8.eq_1
def q57_9 : List AOper :=
  [⟨.move .look (.p 4), (some 24), none⟩,
    ⟨.bin .gtr 1 true (.p 24) (.c (.int .i32 1)), (some 25), none⟩]
@[simp] def eq57_9 := id q57_9.eq_1
def q57_10 : List AOper :=
  [⟨.move .look (.p 4), (some 22), none⟩,
    ⟨.bin .sub 1 true (.p 22) (.c (.int .i32 4)), (some 23), none⟩,
    ⟨.assign (.p 23), (some 4), none⟩]
@[simp] def eq57_10 := id q57_10.eq_1
def q57_11 : List AOper :=
  [⟨.move .look (.t 0), (some 18), none⟩,
    ⟨.move .look (.t 5), (some 19), none⟩,
    ⟨.call 70 [(.t 18, false), (.t 19, false)], (some 20), none⟩,
    ⟨.mkIface 100 (.p 20), (some 21), none⟩,
    ⟨.assign (.c (.slice .nil 0 1 [])), (some 2), none⟩,
    ⟨.assign (.p 21), (some 3), none⟩]
@[simp] def eq57_11 := id q57_11.eq_1
def q57_12 : List AOper :=
  [⟨.move .look (.p 6), (some 16), none⟩,
    ⟨.un .not (.p 16), (some 17), none⟩]
@[simp] def eq57_12 := id q57_12.eq_1
def q57_13 : List AOper :=
  [⟨.move .look (.t 0), (some 11), none⟩,
    ⟨.call 71 [(.t 11, false)], (some 12), none⟩,
    ⟨.move .look (.t 12), (some 10), none⟩,
    ⟨.extract 10 0, (some 13), none⟩,
    ⟨.extract 10 1, (some 14), none⟩,
    ⟨.extract 10 2, (some 15), none⟩,
    ⟨.assign (.p 13), (some 4), none⟩,
    ⟨.assign (.t 14), (some 5), none⟩,
    ⟨.assign (.p 15), (some 6), none⟩]
@[simp] def eq57_13 := id q57_13.eq_1
def q57_14 : List AOper :=
  [⟨.assign (.c (.slice .nil 0 1 [])), (some 2), none⟩,
    ⟨.assign (.c (.nilI)), (some 3), none⟩]
@[simp] def eq57_14 := id q57_14.eq_1
def k57_0 : ACode :=
  .ops q57_0 .ret
@[simp] theorem xk57_0 : GoC fns Q s k57_0 st ↔ GoO fns Q s q57_0 .ret st := goC_ops
def k57_1 : ACode :=
  .ops q57_1 .skip
@[simp] theorem xk57_1 : GoC fns Q s k57_1 st ↔ GoO fns Q s q57_1 .skip st := goC_ops
def k57_2 : ACode :=
  .ops q57_2 .ret
@[simp] theorem xk57_2 : GoC fns Q s k57_2 st ↔ GoO fns Q s q57_2 .ret st := goC_ops
def k57_3 : ACode :=
  .cond (.p 47) k57_2 .skip
@[simp] theorem xk57_3 : GoC fns Q s k57_3 st ↔ GB fns Q s (peek st (.p 47)) k57_2 .skip st := goC_cond
def k57_4 : ACode :=
  .seq k57_3 k57_1
@[simp] theorem xk57_4 : GoC fns Q s k57_4 st ↔ GoC fns Q (.sq k57_1 :: s) k57_3 st := goC_seq
def k57_5 : ACode :=
  .ops q57_3 k57_4
@[simp] theorem xk57_5 : GoC fns Q s k57_5 st ↔ GoO fns Q s q57_3 k57_4 st := goC_ops
def k57_6 : ACode :=
  .ops q57_4 k57_5
@[simp] theorem xk57_6 : GoC fns Q s k57_6 st ↔ GoO fns Q s q57_4 k57_5 st := goC_ops
def k57_7 : ACode :=
  .ops q57_5 .ret
@[simp] theorem xk57_7 : GoC fns Q s k57_7 st ↔ GoO fns Q s q57_5 .ret st := goC_ops
def k57_8 : ACode :=
  .cond (.p 38) k57_7 .skip
@[simp] theorem xk57_8 : GoC fns Q s k57_8 st ↔ GB fns Q s (peek st (.p 38)) k57_7 .skip st := goC_cond
def k57_9 : ACode :=
  .seq k57_8 k57_6
@[simp] theorem xk57_9 : GoC fns Q s k57_9 st ↔ GoC fns Q (.sq k57_6 :: s) k57_8 st := goC_seq
def k57_10 : ACode :=
  .ops q57_6 k57_9
@[simp] theorem xk57_10 : GoC fns Q s k57_10 st ↔ GoO fns Q s q57_6 k57_9 st := goC_ops
def k57_11 : ACode :=
  .ops q57_7 k57_10
@[simp] theorem xk57_11 : GoC fns Q s k57_11 st ↔ GoO fns Q s q57_7 k57_10 st := goC_ops
def k57_12 : ACode :=
  .ops q57_8 k57_11
@[simp] theorem xk57_12 : GoC fns Q s k57_12 st ↔ GoO fns Q s q57_8 k57_11 st := goC_ops
def k57_13 : ACode :=
  .block 1 k57_12
@[simp] theorem xk57_13 : GoC fns Q s k57_13 st ↔ GoC fns Q (.bl 1 :: s) k57_12 st := goC_block
def k57_14 : ACode :=
  .cond (.p 25) .skip (.exit 0)
@[simp] theorem xk57_14 : GoC fns Q s k57_14 st ↔ GB fns Q s (peek st (.p 25)) .skip (.exit 0) st := goC_cond
def k57_15 : ACode :=
  .seq k57_14 k57_13
@[simp] theorem xk57_15 : GoC fns Q s k57_15 st ↔ GoC fns Q (.sq k57_13 :: s) k57_14 st := goC_seq
def k57_16 : ACode :=
  .ops q57_9 k57_15
@[simp] theorem xk57_16 : GoC fns Q s k57_16 st ↔ GoO fns Q s q57_9 k57_15 st := goC_ops
def lc57_0 : ACode :=
  k57_16
@[simp] theorem xlc57_0 : GoC fns Q s lc57_0 st ↔ GoC fns Q s k57_16 st := Iff.rfl
def k57_18 : ACode :=
  .loop lc57_0
@[simp] theorem xk57_18 : GoC fns Q s k57_18 st ↔ (LoopR fns lc57_0 st fun r => GoE fns Q s r.1 r.2) := goC_loop
def k57_19 : ACode :=
  .block 0 k57_18
@[simp] theorem xk57_19 : GoC fns Q s k57_19 st ↔ GoC fns Q (.bl 0 :: s) k57_18 st := goC_block
def k57_20 : ACode :=
  .seq k57_19 k57_0
@[simp] theorem xk57_20 : GoC fns Q s k57_20 st ↔ GoC fns Q (.sq k57_0 :: s) k57_19 st := goC_seq
def k57_21 : ACode :=
  .ops [⟨.assign (.c (.slice .nil 0 1 [])), (some 8), none⟩] k57_20
@[simp] theorem xk57_21 : GoC fns Q s k57_21 st ↔ GoO fns Q s [⟨.assign (.c (.slice .nil 0 1 [])), (some 8), none⟩] k57_20 st := goC_ops
def k57_22 : ACode :=
  .ops [⟨.assign (.c (.slice .nil 0 1 [])), (some 7), none⟩] k57_21
@[simp] theorem xk57_22 : GoC fns Q s k57_22 st ↔ GoO fns Q s [⟨.assign (.c (.slice .nil 0 1 [])), (some 7), none⟩] k57_21 st := goC_ops
def k57_23 : ACode :=
  .ops q57_10 k57_22
@[simp] theorem xk57_23 : GoC fns Q s k57_23 st ↔ GoO fns Q s q57_10 k57_22 st := goC_ops
def k57_24 : ACode :=
  .ops q57_11 .ret
@[simp] theorem xk57_24 : GoC fns Q s k57_24 st ↔ GoO fns Q s q57_11 .ret st := goC_ops
def k57_25 : ACode :=
  .cond (.p 17) k57_24 .skip
@[simp] theorem xk57_25 : GoC fns Q s k57_25 st ↔ GB fns Q s (peek st (.p 17)) k57_24 .skip st := goC_cond
def k57_26 : ACode :=
  .seq k57_25 k57_23
@[simp] theorem xk57_26 : GoC fns Q s k57_26 st ↔ GoC fns Q (.sq k57_23 :: s) k57_25 st := goC_seq
def k57_27 : ACode :=
  .ops q57_12 k57_26
@[simp] theorem xk57_27 : GoC fns Q s k57_27 st ↔ GoO fns Q s q57_12 k57_26 st := goC_ops
def k57_28 : ACode :=
  .ops q57_13 k57_27
@[simp] theorem xk57_28 : GoC fns Q s k57_28 st ↔ GoO fns Q s q57_13 k57_27 st := goC_ops
def k57_29 : ACode :=
  .ops q57_14 k57_28
@[simp] theorem xk57_29 : GoC fns Q s k57_29 st ↔ GoO fns Q s q57_14 k57_28 st := goC_ops
def af57 : AFunc := ⟨55, k57_29, [.tmp 2, .tmp 3], fun _ => none⟩

theorem ok57 : ∃ hs, pFunc Tryd.prog sg hs Tryd.f57 = some af57 := ⟨fun i => 0, by kernel_rfl⟩
/-- No. 39 -/
def q39_0 : List AOper :=
  [⟨.move .take (.t 7), (some 36), none⟩,
    ⟨.assign (.t 36), (some 2), none⟩,
    ⟨.assign (.c (.nilI)), (some 3), none⟩]
@[simp] def eq39_0 := id q39_0.eq_1
def q39_1 : List AOper :=
  [⟨.bin .add 1 true (.p 27) (.c (.int .i64 1)), (some 35), none⟩,
    ⟨.move .look (.p 35), (some 27), none⟩]
@[simp] def eq39_1 := id q39_1.eq_1
def q39_2 : List AOper :=
  [⟨.move .take (.t 7), (some 31), none⟩,
    ⟨.move .look (.t 9), (some 32), none⟩,
    ⟨.buildSl 83 1 [.slice .nil 0 1 []] [(0, 1, .t 32)], (some 33), none⟩,
    ⟨.append 83 1 24 false (.t 31) (.p 33), (some 34), none⟩,
    ⟨.assign (.t 34), (some 7), none⟩]
@[simp] def eq39_2 := id q39_2.eq_1
def q39_3 : List AOper :=
  [⟨.indexAddr 1 (.t 25) (.p 27), (some 29), none⟩,
    ⟨.load .take false 1 (.p 29), (some 30), none⟩,
    ⟨.assign (.t 30), (some 9), none⟩]
@[simp] def eq39_3 := id q39_3.eq_1
def q39_4 : List AOper :=
  [⟨.move .look (.t 5), (some 25), none⟩,
    ⟨.len false (.p 25), (some 26), none⟩,
    ⟨.move .head (.c (.int .i64 0)), (some 27), none⟩]
@[simp] def eq39_4 := id q39_4.eq_1
def q39_5 : List AOper :=
  [⟨.move .head (.t 5), (some 22), none⟩,
    ⟨.len false (.p 22), (some 23), none⟩,
    ⟨.mkSl false 83 1 24 [.slice .nil 0 1 []] (.c (.int .i64 0)) (.p 23), (some 24), none⟩,
    ⟨.assign (.t 24), (some 7), none⟩]
@[simp] def eq39_5 := id q39_5.eq_1
def q39_6 : List AOper :=
  [⟨.move .take (.p 6), (some 21), none⟩,
    ⟨.assign (.c (.slice .nil 0 1 [])), (some 2), none⟩,
    ⟨.assign (.p 21), (some 3), none⟩]
@[simp] def eq39_6 := id q39_6.eq_1
def q39_7 : List AOper :=
  [⟨.move .head (.p 6), (some 19), none⟩,
    ⟨.bin .neq 5 true (.p 19) (.c (.nilI)), (some 20), none⟩]
@[simp] def eq39_7 := id q39_7.eq_1
def q39_8 : List AOper :=
  [⟨.move .look (.t 4), (some 15), none⟩,
    ⟨.call 57 [(.t 15, false)], (some 16), none⟩,
    ⟨.move .look (.t 16), (some 14), none⟩,
    ⟨.extract 14 0, (some 17), none⟩,
    ⟨.extract 14 1, (some 18), none⟩,
    ⟨.assign (.t 17), (some 5), none⟩,
    ⟨.assign (.p 18), (some 6), none⟩]
@[simp] def eq39_8 := id q39_8.eq_1
def q39_9 : List AOper :=
  [⟨.assign (.c (.slice .nil 0 1 [])), (some 2), none⟩,
    ⟨.assign (.c (.nilI)), (some 3), none⟩]
@[simp] def eq39_9 := id q39_9.eq_1
def q39_10 : List AOper :=
  [⟨.move .head (.t 4), (some 11), none⟩,
    ⟨.len false (.p 11), (some 12), none⟩,
    ⟨.bin .eql 1 true (.p 12) (.c (.int .i64 0)), (some 13), none⟩]
@[simp] def eq39_10 := id q39_10.eq_1
def q39_11 : List AOper :=
  [⟨.move .take (.t 0), (some 10), none⟩,
    ⟨.assign (.t 10), (some 4), none⟩]
@[simp] def eq39_11 := id q39_11.eq_1
def q39_12 : List AOper :=
  [⟨.assign (.c (.slice .nil 0 1 [])), (some 2), none⟩,
    ⟨.assign (.c (.nilI)), (some 3), none⟩]
@[simp] def eq39_12 := id q39_12.eq_1
def k39_0 : ACode :=
  .ops q39_0 .ret
@[simp] theorem xk39_0 : GoC fns Q s k39_0 st ↔ GoO fns Q s q39_0 .ret st := goC_ops
def k39_1 : ACode :=
  .ops q39_1 .skip
@[simp] theorem xk39_1 : GoC fns Q s k39_1 st ↔ GoO fns Q s q39_1 .skip st := goC_ops
def k39_2 : ACode :=
  .ops q39_2 .skip
@[simp] theorem xk39_2 : GoC fns Q s k39_2 st ↔ GoO fns Q s q39_2 .skip st := goC_ops
def k39_3 : ACode :=
  .ops q39_3 k39_2
@[simp] theorem xk39_3 : GoC fns Q s k39_3 st ↔ GoO fns Q s q39_3 k39_2 st := goC_ops
def k39_4 : ACode :=
  .block 1 k39_3
@[simp] theorem xk39_4 : GoC fns Q s k39_4 st ↔ GoC fns Q (.bl 1 :: s) k39_3 st := goC_block
def k39_5 : ACode :=
  .seq k39_4 k39_1
@[simp] theorem xk39_5 : GoC fns Q s k39_5 st ↔ GoC fns Q (.sq k39_1 :: s) k39_4 st := goC_seq
def k39_6 : ACode :=
  .cond (.p 28) .skip (.exit 0)
@[simp] theorem xk39_6 : GoC fns Q s k39_6 st ↔ GB fns Q s (peek st (.p 28)) .skip (.exit 0) st := goC_cond
def k39_7 : ACode :=
  .seq k39_6 k39_5
@[simp] theorem xk39_7 : GoC fns Q s k39_7 st ↔ GoC fns Q (.sq k39_5 :: s) k39_6 st := goC_seq
def k39_8 : ACode :=
  .ops [⟨.bin .lss 1 false (.p 27) (.p 26), (some 28), none⟩] k39_7
@[simp] theorem xk39_8 : GoC fns Q s k39_8 st ↔ GoO fns Q s [⟨.bin .lss 1 false (.p 27) (.p 26), (some 28), none⟩] k39_7 st := goC_ops
def lc39_0 : ACode :=
  k39_8
@[simp] theorem xlc39_0 : GoC fns Q s lc39_0 st ↔ GoC fns Q s k39_8 st := Iff.rfl
def k39_10 : ACode :=
  .loop lc39_0
@[simp] theorem xk39_10 : GoC fns Q s k39_10 st ↔ (LoopR fns lc39_0 st fun r => GoE fns Q s r.1 r.2) := goC_loop
def k39_11 : ACode :=
  .block 0 k39_10
@[simp] theorem xk39_11 : GoC fns Q s k39_11 st ↔ GoC fns Q (.bl 0 :: s) k39_10 st := goC_block
def k39_12 : ACode :=
  .seq k39_11 k39_0
@[simp] theorem xk39_12 : GoC fns Q s k39_12 st ↔ GoC fns Q (.sq k39_0 :: s) k39_11 st := goC_seq
def k39_13 : ACode :=
  .ops q39_4 k39_12
@[simp] theorem xk39_13 : GoC fns Q s k39_13 st ↔ GoO fns Q s q39_4 k39_12 st := goC_ops
def k39_14 : ACode :=
  .ops q39_5 k39_13
@[simp] theorem xk39_14 : GoC fns Q s k39_14 st ↔ GoO fns Q s q39_5 k39_13 st := goC_ops
def k39_15 : ACode :=
  .ops q39_6 .ret
@[simp] theorem xk39_15 : GoC fns Q s k39_15 st ↔ GoO fns Q s q39_6 .ret st := goC_ops
def k39_16 : ACode :=
  .cond (.p 20) k39_15 .skip
@[simp] theorem xk39_16 : GoC fns Q s k39_16 st ↔ GB fns Q s (peek st (.p 20)) k39_15 .skip st := goC_cond
def k39_17 : ACode :=
  .seq k39_16 k39_14
@[simp] theorem xk39_17 : GoC fns Q s k39_17 st ↔ GoC fns Q (.sq k39_14 :: s) k39_16 st := goC_seq
def k39_18 : ACode :=
  .ops q39_7 k39_17
@[simp] theorem xk39_18 : GoC fns Q s k39_18 st ↔ GoO fns Q s q39_7 k39_17 st := goC_ops
def k39_19 : ACode :=
  .ops q39_8 k39_18
@[simp] theorem xk39_19 : GoC fns Q s k39_19 st ↔ GoO fns Q s q39_8 k39_18 st := goC_ops
def k39_20 : ACode :=
  .ops q39_9 .ret
@[simp] theorem xk39_20 : GoC fns Q s k39_20 st ↔ GoO fns Q s q39_9 .ret st := goC_ops
def k39_21 : ACode :=
  .cond (.p 13) k39_20 .skip
@[simp] theorem xk39_21 : GoC fns Q s k39_21 st ↔ GB fns Q s (peek st (.p 13)) k39_20 .skip st := goC_cond
def k39_22 : ACode :=
  .seq k39_21 k39_19
@[simp] theorem xk39_22 : GoC fns Q s k39_22 st ↔ GoC fns Q (.sq k39_19 :: s) k39_21 st := goC_seq
def k39_23 : ACode :=
  .ops q39_10 k39_22
@[simp] theorem xk39_23 : GoC fns Q s k39_23 st ↔ GoO fns Q s q39_10 k39_22 st := goC_ops
def k39_24 : ACode :=
  .ops q39_11 k39_23
@[simp] theorem xk39_24 : GoC fns Q s k39_24 st ↔ GoO fns Q s q39_11 k39_23 st := goC_ops
def k39_25 : ACode :=
  .ops q39_12 k39_24
@[simp] theorem xk39_25 : GoC fns Q s k39_25 st ↔ GoO fns Q s q39_12 k39_24 st := goC_ops
def af39 : AFunc := ⟨37, k39_25, [.tmp 2, .tmp 3], fun _ => none⟩

theorem ok39 : ∃ hs, pFunc Tryd.prog sg hs Tryd.f39 = some af39 := ⟨fun i => if i == 25 then 5 else 0, by kernel_rfl⟩
/-- No. 17 -/
def q17_0 : List AOper :=
  [⟨.move .take (.t 6), (some 26), none⟩,
    ⟨.move .head (.p 5), (some 27), none⟩,
    ⟨.bin .eql 5 true (.p 27) (.c (.nilI)), (some 28), none⟩,
    ⟨.assign (.t 26), (some 2), none⟩,
    ⟨.assign (.p 28), (some 3), none⟩]
@[simp] def eq17_0 := id q17_0.eq_1
def q17_1 : List AOper :=
  [⟨.bin .add 1 true (.p 16) (.c (.int .i64 1)), (some 25), none⟩,
    ⟨.move .look (.p 25), (some 16), none⟩]
@[simp] def eq17_1 := id q17_1.eq_1
def q17_2 : List AOper :=
  [⟨.move .take (.t 6), (some 20), none⟩,
    ⟨.move .look (.t 8), (some 21), none⟩,
    ⟨.call 40 [(.t 21, false)], (some 22), none⟩,
    ⟨.buildSl 23 1 [.slice .nil 0 1 []] [(0, 1, .t 22)], (some 23), none⟩,
    ⟨.append 23 1 24 false (.t 20) (.p 23), (some 24), none⟩,
    ⟨.assign (.t 24), (some 6), none⟩]
@[simp] def eq17_2 := id q17_2.eq_1
def q17_3 : List AOper :=
  [⟨.indexAddr 1 (.t 14) (.p 16), (some 18), none⟩,
    ⟨.load .take false 1 (.p 18), (some 19), none⟩,
    ⟨.assign (.t 19), (some 8), none⟩]
@[simp] def eq17_3 := id q17_3.eq_1
def q17_4 : List AOper :=
  [⟨.move .look (.t 4), (some 14), none⟩,
    ⟨.len false (.p 14), (some 15), none⟩,
    ⟨.move .head (.c (.int .i64 0)), (some 16), none⟩]
@[simp] def eq17_4 := id q17_4.eq_1
def q17_5 : List AOper :=
  [⟨.move .look (.t 0), (some 10), none⟩,
    ⟨.call 39 [(.t 10, false)], (some 11), none⟩,
    ⟨.move .look (.t 11), (some 9), none⟩,
    ⟨.extract 9 0, (some 12), none⟩,
    ⟨.extract 9 1, (some 13), none⟩,
    ⟨.assign (.t 12), (some 4), none⟩,
    ⟨.assign (.p 13), (some 5), none⟩]
@[simp] def eq17_5 := id q17_5.eq_1
def q17_6 : List AOper :=
  [⟨.assign (.c (.slice .nil 0 1 [])), (some 2), none⟩,
    ⟨.assign (.c (.bool false)), (some 3), none⟩]
@[simp] def eq17_6 := id q17_6.eq_1
def k17_0 : ACode :=
  .ops q17_0 .ret
@[simp] theorem xk17_0 : GoC fns Q s k17_0 st ↔ GoO fns Q s q17_0 .ret st := goC_ops
def k17_1 : ACode :=
  .ops q17_1 .skip
@[simp] theorem xk17_1 : GoC fns Q s k17_1 st ↔ GoO fns Q s q17_1 .skip st := goC_ops
def k17_2 : ACode :=
  .ops q17_2 .skip
@[simp] theorem xk17_2 : GoC fns Q s k17_2 st ↔ GoO fns Q s q17_2 .skip st := goC_ops
def k17_3 : ACode :=
  .ops q17_3 k17_2
@[simp] theorem xk17_3 : GoC fns Q s k17_3 st ↔ GoO fns Q s q17_3 k17_2 st := goC_ops
def k17_4 : ACode :=
  .block 1 k17_3
@[simp] theorem xk17_4 : GoC fns Q s k17_4 st ↔ GoC fns Q (.bl 1 :: s) k17_3 st := goC_block
def k17_5 : ACode :=
  .seq k17_4 k17_1
@[simp] theorem xk17_5 : GoC fns Q s k17_5 st ↔ GoC fns Q (.sq k17_1 :: s) k17_4 st := goC_seq
def k17_6 : ACode :=
  .cond (.p 17) .skip (.exit 0)
@[simp] theorem xk17_6 : GoC fns Q s k17_6 st ↔ GB fns Q s (peek st (.p 17)) .skip (.exit 0) st := goC_cond
def k17_7 : ACode :=
  .seq k17_6 k17_5
@[simp] theorem xk17_7 : GoC fns Q s k17_7 st ↔ GoC fns Q (.sq k17_5 :: s) k17_6 st := goC_seq
def k17_8 : ACode :=
  .ops [⟨.bin .lss 1 false (.p 16) (.p 15), (some 17), none⟩] k17_7
@[simp] theorem xk17_8 : GoC fns Q s k17_8 st ↔ GoO fns Q s [⟨.bin .lss 1 false (.p 16) (.p 15), (some 17), none⟩] k17_7 st := goC_ops
def lc17_0 : ACode :=
  k17_8
@[simp] theorem xlc17_0 : GoC fns Q s lc17_0 st ↔ GoC fns Q s k17_8 st := Iff.rfl
def k17_10 : ACode :=
  .loop lc17_0
@[simp] theorem xk17_10 : GoC fns Q s k17_10 st ↔ (LoopR fns lc17_0 st fun r => GoE fns Q s r.1 r.2) := goC_loop
def k17_11 : ACode :=
  .block 0 k17_10
@[simp] theorem xk17_11 : GoC fns Q s k17_11 st ↔ GoC fns Q (.bl 0 :: s) k17_10 st := goC_block
def k17_12 : ACode :=
  .seq k17_11 k17_0
@[simp] theorem xk17_12 : GoC fns Q s k17_12 st ↔ GoC fns Q (.sq k17_0 :: s) k17_11 st := goC_seq
def k17_13 : ACode :=
  .ops q17_4 k17_12
@[simp] theorem xk17_13 : GoC fns Q s k17_13 st ↔ GoO fns Q s q17_4 k17_12 st := goC_ops
def k17_14 : ACode :=
  .ops [⟨.assign (.c (.slice .nil 0 1 [])), (some 6), none⟩] k17_13
@[simp] theorem xk17_14 : GoC fns Q s k17_14 st ↔ GoO fns Q s [⟨.assign (.c (.slice .nil 0 1 [])), (some 6), none⟩] k17_13 st := goC_ops
def k17_15 : ACode :=
  .ops q17_5 k17_14
@[simp] theorem xk17_15 : GoC fns Q s k17_15 st ↔ GoO fns Q s q17_5 k17_14 st := goC_ops
def k17_16 : ACode :=
  .ops q17_6 k17_15
@[simp] theorem xk17_16 : GoC fns Q s k17_16 st ↔ GoO fns Q s q17_6 k17_15 st := goC_ops
def af17 : AFunc := ⟨29, k17_16, [.tmp 2, .tmp 3], fun _ => none⟩

theorem ok17 : ∃ hs, pFunc Tryd.prog sg hs Tryd.f17 = some af17 := ⟨fun i => if i == 14 then 5 else 0, by kernel_rfl⟩
/-- No. 78 -/
def q78_0 : List AOper :=
  [⟨.move .take (.t 8), (some 56), none⟩,
    ⟨.assign (.t 56), (some 2), none⟩,
    ⟨.assign (.c (.nilI)), (some 3), none⟩]
@[simp] def eq78_0 := id q78_0.eq_1
def q78_1 : List AOper :=
  [⟨.move .take (.t 8), (some 51), none⟩,
    ⟨.move .look (.t 7), (some 52), none⟩,
    ⟨.call 74 [(.t 52, false)], (some 53), none⟩,
    ⟨.buildSl 108 2 [.int .u8 0, .slice .nil 0 1 []] [(0, 2, .p 53)], (some 54), none⟩,
    ⟨.append 108 2 32 false (.t 51) (.p 54), (some 55), none⟩,
    ⟨.assign (.t 55), (some 8), none⟩]
@[simp] def eq78_1 := id q78_1.eq_1
def q78_2 : List AOper :=
  [⟨.move .take (.t 8), (some 49), none⟩,
    ⟨.move .take (.p 9), (some 50), none⟩,
    ⟨.assign (.t 49), (some 2), none⟩,
    ⟨.assign (.p 50), (some 3), none⟩]
@[simp] def eq78_2 := id q78_2.eq_1
def q78_3 : List AOper :=
  [⟨.move .head (.p 9), (some 47), none⟩,
    ⟨.bin .neq 5 true (.p 47) (.c (.nilI)), (some 48), none⟩]
@[simp] def eq78_3 := id q78_3.eq_1
def q78_4 : List AOper :=
  [⟨.move .look (.t 7), (some 44), none⟩,
    ⟨.call 74 [(.t 44, false)], (some 45), none⟩,
    ⟨.call 54 [(.p 45, false)], (some 46), none⟩,
    ⟨.assign (.p 46), (some 9), none⟩]
@[simp] def eq78_4 := id q78_4.eq_1
def q78_5 : List AOper :=
  [⟨.move .take (.t 8), (some 39), none⟩,
    ⟨.move .look (.t 0), (some 40), none⟩,
    ⟨.move .look (.t 5), (some 41), none⟩,
    ⟨.call 70 [(.t 40, false), (.t 41, false)], (some 42), none⟩,
    ⟨.mkIface 100 (.p 42), (some 43), none⟩,
    ⟨.assign (.t 39), (some 2), none⟩,
    ⟨.assign (.p 43), (some 3), none⟩]
@[simp] def eq78_5 := id q78_5.eq_1
def q78_6 : List AOper :=
  [⟨.move .look (.p 6), (some 37), none⟩,
    ⟨.un .not (.p 37), (some 38), none⟩]
@[simp] def eq78_6 := id q78_6.eq_1
def q78_7 : List AOper :=
  [⟨.move .look (.p 4), (some 32), none⟩,
    ⟨.move .head (.t 7), (some 33), none⟩,
    ⟨.len false (.p 33), (some 34), none⟩,
    ⟨.convInt .i32 (.p 34), (some 35), none⟩,
    ⟨.bin .sub 1 false (.p 32) (.p 35), (some 36), none⟩,
    ⟨.assign (.p 36), (some 4), none⟩]
@[simp] def eq78_7 := id q78_7.eq_1
def q78_8 : List AOper :=
  [⟨.move .look (.t 5), (some 27), none⟩,
    ⟨.call 72 [(.t 27, false)], (some 28), none⟩,
    ⟨.move .look (.t 28), (some 26), none⟩,
    ⟨.extract 26 0, (some 29), none⟩,
    ⟨.extract 26 1, (some 30), none⟩,
    ⟨.extract 26 2, (some 31), none⟩,
    ⟨.assign (.t 29), (some 7), none⟩,
    ⟨.assign (.t 30), (some 5), none⟩,
    ⟨.assign (.p 31), (some 6), none⟩]
@[simp] def eq78_8 := id q78_8.eq_1
def q78_9 : List AOper :=
  [⟨.move .look (.p 4), (some 24), none⟩,
    ⟨.bin .gtr 1 true (.p 24) (.c (.int .i32 1)), (some 25), none⟩]
@[simp] def eq78_9 := id q78_9.eq_1
def q78_10 : List AOper :=
  [⟨.move .look (.p 4), (some 22), none⟩,
    ⟨.bin .sub 1 true (.p 22) (.c (.int .i32 4)), (some 23), none⟩,
    ⟨.assign (.p 23), (some 4), none⟩]
@[simp] def eq78_10 := id q78_10.eq_1
def q78_11 : List AOper :=
  [⟨.move .look (.t 0), (some 18), none⟩,
    ⟨.move .look (.t 5), (some 19), none⟩,
    ⟨.call 70 [(.t 18, false), (.t 19, false)], (some 20), none⟩,
    ⟨.mkIface 100 (.p 20), (some 21), none⟩,
    ⟨.assign (.c (.slice .nil 0 1 [])), (some 2), none⟩,
    ⟨.assign (.p 21), (some 3), none⟩]
@[simp] def eq78_11 := id q78_11.eq_1
def q78_12 : List AOper :=
  [⟨.move .look (.p 6), (some 16), none⟩,
    ⟨.un .not (.p 16), (some 17), none⟩]
@[simp] def eq78_12 := id q78_12.eq_1
def q78_13 : List AOper :=
  [⟨.move .look (.t 0), (some 11), none⟩,
    ⟨.call 71 [(.t 11, false)], (some 12), none⟩,
    ⟨.move .look (.t 12), (some 10), none⟩,
    ⟨.extract 10 0, (some 13), none⟩,
    ⟨.extract 10 1, (some 14), none⟩,
    ⟨.extract 10 2, (some 15), none⟩,
    ⟨.assign (.p 13), (some 4), none⟩,
    ⟨.assign (.t 14), (some 5), none⟩,
    ⟨.assign (.p 15), (some 6), none⟩]
@[simp] def eq78_13 := id q78_13.eq_1
def q78_14 : List AOper :=
  [⟨.assign (.c (.slice .nil 0 1 [])), (some 2), none⟩,
    ⟨.assign (.c (.nilI)), (some 3), none⟩]
@[simp] def eq78_14 := id q78_14.eq_1
def k78_0 : ACode :=
  .ops q78_0 .ret
@[simp] theorem xk78_0 : GoC fns Q s k78_0 st ↔ GoO fns Q s q78_0 .ret st := goC_ops
def k78_1 : ACode :=
  .ops q78_1 .skip
@[simp] theorem xk78_1 : GoC fns Q s k78_1 st ↔ GoO fns Q s q78_1 .skip st := goC_ops
def k78_2 : ACode :=
  .ops q78_2 .ret
@[simp] theorem xk78_2 : GoC fns Q s k78_2 st ↔ GoO fns Q s q78_2 .ret st := goC_ops
def k78_3 : ACode :=
  .cond (.p 48) k78_2 .skip
@[simp] theorem xk78_3 : GoC fns Q s k78_3 st ↔ GB fns Q s (peek st (.p 48)) k78_2 .skip st := goC_cond
def k78_4 : ACode :=
  .seq k78_3 k78_1
@[simp] theorem xk78_4 : GoC fns Q s k78_4 st ↔ GoC fns Q (.sq k78_1 :: s) k78_3 st := goC_seq
def k78_5 : ACode :=
  .ops q78_3 k78_4
@[simp] theorem xk78_5 : GoC fns Q s k78_5 st ↔ GoO fns Q s q78_3 k78_4 st := goC_ops
def k78_6 : ACode :=
  .ops q78_4 k78_5
@[simp] theorem xk78_6 : GoC fns Q s k78_6 st ↔ GoO fns Q s q78_4 k78_5 st := goC_ops
def k78_7 : ACode :=
  .ops q78_5 .ret
@[simp] theorem xk78_7 : GoC fns Q s k78_7 st ↔ GoO fns Q s q78_5 .ret st := goC_ops
def k78_8 : ACode :=
  .cond (.p 38) k78_7 .skip
@[simp] theorem xk78_8 : GoC fns Q s k78_8 st ↔ GB fns Q s (peek st (.p 38)) k78_7 .skip st := goC_cond
def k78_9 : ACode :=
  .seq k78_8 k78_6
@[simp] theorem xk78_9 : GoC fns Q s k78_9 st ↔ GoC fns Q (.sq k78_6 :: s) k78_8 st := goC_seq
def k78_10 : ACode :=
  .ops q78_6 k78_9
@[simp] theorem xk78_10 : GoC fns Q s k78_10 st ↔ GoO fns Q s q78_6 k78_9 st := goC_ops
def k78_11 : ACode :=
  .ops q78_7 k78_10
@[simp] theorem xk78_11 : GoC fns Q s k78_11 st ↔ GoO fns Q s q78_7 k78_10 st := goC_ops
def k78_12 : ACode :=
  .ops q78_8 k78_11
@[simp] theorem xk78_12 : GoC fns Q s k78_12 st ↔ GoO fns Q s q78_8 k78_11 st := goC_ops
def k78_13 : ACode :=
  .block 1 k78_12
@[simp] theorem xk78_13 : GoC fns Q s k78_13 st ↔ GoC fns Q (.bl 1 :: s) k78_12 st := goC_block
def k78_14 : ACode :=
  .cond (.p 25) .skip (.exit 0)
@[simp] theorem xk78_14 : GoC fns Q s k78_14 st ↔ GB fns Q s (peek st (.p 25)) .skip (.exit 0) st := goC_cond
def k78_15 : ACode :=
  .seq k78_14 k78_13
@[simp] theorem xk78_15 : GoC fns Q s k78_15 st ↔ GoC fns Q (.sq k78_13 :: s) k78_14 st := goC_seq
def k78_16 : ACode :=
  .ops q78_9 k78_15
@[simp] theorem xk78_16 : GoC fns Q s k78_16 st ↔ GoO fns Q s q78_9 k78_15 st := goC_ops
def lc78_0 : ACode :=
  k78_16
@[simp] theorem xlc78_0 : GoC fns Q s lc78_0 st ↔ GoC fns Q s k78_16 st := Iff.rfl
def k78_18 : ACode :=
  .loop lc78_0
@[simp] theorem xk78_18 : GoC fns Q s k78_18 st ↔ (LoopR fns lc78_0 st fun r => GoE fns Q s r.1 r.2) := goC_loop
def k78_19 : ACode :=
  .block 0 k78_18
@[simp] theorem xk78_19 : GoC fns Q s k78_19 st ↔ GoC fns Q (.bl 0 :: s) k78_18 st := goC_block
def k78_20 : ACode :=
  .seq k78_19 k78_0
@[simp] theorem xk78_20 : GoC fns Q s k78_20 st ↔ GoC fns Q (.sq k78_0 :: s) k78_19 st := goC_seq
def k78_21 : ACode :=
  .ops [⟨.assign (.c (.slice .nil 0 1 [])), (some 8), none⟩] k78_20
@[simp] theorem xk78_21 : GoC fns Q s k78_21 st ↔ GoO fns Q s [⟨.assign (.c (.slice .nil 0 1 [])), (some 8), none⟩] k78_20 st := goC_ops
def k78_22 : ACode :=
  .ops [⟨.assign (.c (.slice .nil 0 1 [])), (some 7), none⟩] k78_21
@[simp] theorem xk78_22 : GoC fns Q s k78_22 st ↔ GoO fns Q s [⟨.assign (.c (.slice .nil 0 1 [])), (some 7), none⟩] k78_21 st := goC_ops
def k78_23 : ACode :=
  .ops q78_10 k78_22
@[simp] theorem xk78_23 : GoC fns Q s k78_23 st ↔ GoO fns Q s q78_10 k78_22 st := goC_ops
def k78_24 : ACode :=
  .ops q78_11 .ret
@[simp] theorem xk78_24 : GoC fns Q s k78_24 st ↔ GoO fns Q s q78_11 .ret st := goC_ops
def k78_25 : ACode :=
  .cond (.p 17) k78_24 .skip
@[simp] theorem xk78_25 : GoC fns Q s k78_25 st ↔ GB fns Q s (peek st (.p 17)) k78_24 .skip st := goC_cond
def k78_26 : ACode :=
  .seq k78_25 k78_23
@[simp] theorem xk78_26 : GoC fns Q s k78_26 st ↔ GoC fns Q (.sq k78_23 :: s) k78_25 st := goC_seq
def k78_27 : ACode :=
  .ops q78_12 k78_26
@[simp] theorem xk78_27 : GoC fns Q s k78_27 st ↔ GoO fns Q s q78_12 k78_26 st := goC_ops
def k78_28 : ACode :=
  .ops q78_13 k78_27
@[simp] theorem xk78_28 : GoC fns Q s k78_28 st ↔ GoO fns Q s q78_13 k78_27 st := goC_ops
def k78_29 : ACode :=
  .ops q78_14 k78_28
@[simp] theorem xk78_29 : GoC fns Q s k78_29 st ↔ GoO fns Q s q78_14 k78_28 st := goC_ops
def af78 : AFunc := ⟨57, k78_29, [.tmp 2, .tmp 3], fun _ => none⟩

theorem ok78 : ∃ hs, pFunc Tryd.prog sg hs Tryd.f78 = some af78 := ⟨fun i => 0, by kernel_rfl⟩
/-- No. 58 -/
def q58_0 : List AOper :=
  [⟨.move .look (.t 0), (some 4), none⟩,
    ⟨.call 78 [(.t 4, false)], (some 5), none⟩,
    ⟨.extract 5 0, (some 6), none⟩,
    ⟨.extract 5 1, (some 7), none⟩,
    ⟨.assign (.t 6), (some 2), none⟩,
    ⟨.assign (.p 7), (some 3), none⟩]
@[simp] def eq58_0 := id q58_0.eq_1
def q58_1 : List AOper :=
  [⟨.assign (.c (.slice .nil 0 1 [])), (some 2), none⟩,
    ⟨.assign (.c (.nilI)), (some 3), none⟩]
@[simp] def eq58_1 := id q58_1.eq_1
def k58_0 : ACode :=
  .ops q58_0 .ret
@[simp] theorem xk58_0 : GoC fns Q s k58_0 st ↔ GoO fns Q s q58_0 .ret st := goC_ops
def k58_1 : ACode :=
  .ops q58_1 k58_0
@[simp] theorem xk58_1 : GoC fns Q s k58_1 st ↔ GoO fns Q s q58_1 k58_0 st := goC_ops
def af58 : AFunc := ⟨8, k58_1, [.tmp 2, .tmp 3], fun _ => none⟩

theorem ok58 : ∃ hs, pFunc Tryd.prog sg hs Tryd.f58 = some af58 := ⟨fun i => 0, by kernel_rfl⟩
/-- No. 41 -/
def q41_0 : List AOper :=
  [⟨.move .take (.t 6), (some 29), none⟩,
    ⟨.move .take (.p 5), (some 30), none⟩,
    ⟨.assign (.t 29), (some 2), none⟩,
    ⟨.assign (.p 30), (some 3), none⟩]
@[simp] def eq41_0 := id q41_0.eq_1
def q41_1 : List AOper :=
  [⟨.bin .add 1 true (.p 19) (.c (.int .i64 1)), (some 28), none⟩,
    ⟨.move .look (.p 28), (some 19), none⟩]
@[simp] def eq41_1 := id q41_1.eq_1
def q41_2 : List AOper :=
  [⟨.move .take (.t 6), (some 23), none⟩,
    ⟨.load .look true 2 (.p 8), (some 24), none⟩,
    ⟨.call 56 [(.p 24, false)], (some 25), none⟩,
    ⟨.buildSl 71 2 [.int .u8 0, .slice .nil 0 1 []] [(0, 2, .p 25)], (some 26), none⟩,
    ⟨.append 71 2 32 false (.t 23) (.p 26), (some 27), none⟩,
    ⟨.assign (.t 27), (some 6), none⟩]
@[simp] def eq41_2 := id q41_2.eq_1
def q41_3 : List AOper :=
  [⟨.indexAddr 2 (.t 17) (.p 19), (some 21), none⟩,
    ⟨.load .take true 2 (.p 21), (some 22), none⟩,
    ⟨.newbox 8 [.int .u8 0, .slice .nil 0 1 []], (some 8), none⟩,
    ⟨.store 2 (.p 8) (.p 22), none, none⟩]
@[simp] def eq41_3 := id q41_3.eq_1
def q41_4 : List AOper :=
  [⟨.move .look (.t 4), (some 17), none⟩,
    ⟨.len false (.p 17), (some 18), none⟩,
    ⟨.move .head (.c (.int .i64 0)), (some 19), none⟩]
@[simp] def eq41_4 := id q41_4.eq_1
def q41_5 : List AOper :=
  [⟨.move .head (.t 4), (some 14), none⟩,
    ⟨.len false (.p 14), (some 15), none⟩,
    ⟨.mkSl false 71 2 32 [.int .u8 0, .slice .nil 0 1 []] (.c (.int .i64 0)) (.p 15), (some 16), none⟩,
    ⟨.assign (.t 16), (some 6), none⟩]
@[simp] def eq41_5 := id q41_5.eq_1
def q41_6 : List AOper :=
  [⟨.move .look (.t 0), (some 10), none⟩,
    ⟨.call 58 [(.t 10, false)], (some 11), none⟩,
    ⟨.move .look (.t 11), (some 9), none⟩,
    ⟨.extract 9 0, (some 12), none⟩,
    ⟨.extract 9 1, (some 13), none⟩,
    ⟨.assign (.t 12), (some 4), none⟩,
    ⟨.assign (.p 13), (some 5), none⟩]
@[simp] def eq41_6 := id q41_6.eq_1
def q41_7 : List AOper :=
  [⟨.assign (.c (.slice .nil 0 1 [])), (some 2), none⟩,
    ⟨.assign (.c (.nilI)), (some 3), none⟩]
@[simp] def eq41_7 := id q41_7.eq_1
def k41_0 : ACode :=
  .ops q41_0 .ret
@[simp] theorem xk41_0 : GoC fns Q s k41_0 st ↔ GoO fns Q s q41_0 .ret st := goC_ops
def k41_1 : ACode :=
  .ops q41_1 .skip
@[simp] theorem xk41_1 : GoC fns Q s k41_1 st ↔ GoO fns Q s q41_1 .skip st := goC_ops
def k41_2 : ACode :=
  .ops q41_2 .skip
@[simp] theorem xk41_2 : GoC fns Q s k41_2 st ↔ GoO fns Q s q41_2 .skip st := goC_ops
def k41_3 : ACode :=
  .ops q41_3 k41_2
@[simp] theorem xk41_3 : GoC fns Q s k41_3 st ↔ GoO fns Q s q41_3 k41_2 st := goC_ops
def k41_4 : ACode :=
  .block 1 k41_3
@[simp] theorem xk41_4 : GoC fns Q s k41_4 st ↔ GoC fns Q (.bl 1 :: s) k41_3 st := goC_block
def k41_5 : ACode :=
  .seq k41_4 k41_1
@[simp] theorem xk41_5 : GoC fns Q s k41_5 st ↔ GoC fns Q (.sq k41_1 :: s) k41_4 st := goC_seq
def k41_6 : ACode :=
  .cond (.p 20) .skip (.exit 0)
@[simp] theorem xk41_6 : GoC fns Q s k41_6 st ↔ GB fns Q s (peek st (.p 20)) .skip (.exit 0) st := goC_cond
def k41_7 : ACode :=
  .seq k41_6 k41_5
@[simp] theorem xk41_7 : GoC fns Q s k41_7 st ↔ GoC fns Q (.sq k41_5 :: s) k41_6 st := goC_seq
def k41_8 : ACode :=
  .ops [⟨.bin .lss 1 false (.p 19) (.p 18), (some 20), none⟩] k41_7
@[simp] theorem xk41_8 : GoC fns Q s k41_8 st ↔ GoO fns Q s [⟨.bin .lss 1 false (.p 19) (.p 18), (some 20), none⟩] k41_7 st := goC_ops
def lc41_0 : ACode :=
  k41_8
@[simp] theorem xlc41_0 : GoC fns Q s lc41_0 st ↔ GoC fns Q s k41_8 st := Iff.rfl
def k41_10 : ACode :=
  .loop lc41_0
@[simp] theorem xk41_10 : GoC fns Q s k41_10 st ↔ (LoopR fns lc41_0 st fun r => GoE fns Q s r.1 r.2) := goC_loop
def k41_11 : ACode :=
  .block 0 k41_10
@[simp] theorem xk41_11 : GoC fns Q s k41_11 st ↔ GoC fns Q (.bl 0 :: s) k41_10 st := goC_block
def k41_12 : ACode :=
  .seq k41_11 k41_0
@[simp] theorem xk41_12 : GoC fns Q s k41_12 st ↔ GoC fns Q (.sq k41_0 :: s) k41_11 st := goC_seq
def k41_13 : ACode :=
  .ops q41_4 k41_12
@[simp] theorem xk41_13 : GoC fns Q s k41_13 st ↔ GoO fns Q s q41_4 k41_12 st := goC_ops
def k41_14 : ACode :=
  .ops q41_5 k41_13
@[simp] theorem xk41_14 : GoC fns Q s k41_14 st ↔ GoO fns Q s q41_5 k41_13 st := goC_ops
def k41_15 : ACode :=
  .ops q41_6 k41_14
@[simp] theorem xk41_15 : GoC fns Q s k41_15 st ↔ GoO fns Q s q41_6 k41_14 st := goC_ops
def k41_16 : ACode :=
  .ops q41_7 k41_15
@[simp] theorem xk41_16 : GoC fns Q s k41_16 st ↔ GoO fns Q s q41_7 k41_15 st := goC_ops
def af41 : AFunc := ⟨31, k41_16, [.tmp 2, .tmp 3], fun _ => none⟩

theorem ok41 : ∃ hs, pFunc Tryd.prog sg hs Tryd.f41 = some af41 := ⟨fun i => if i == 17 then 5 else 0, by kernel_rfl⟩
/-- No. 42 -/
def q42_0 : List AOper :=
  [⟨.move .take (.t 3), (some 18), none⟩,
    ⟨.assign (.t 18), (some 2), none⟩]
@[simp] def eq42_0 := id q42_0.eq_1
def q42_1 : List AOper :=
  [⟨.bin .add 1 true (.p 8) (.c (.int .i64 1)), (some 17), none⟩,
    ⟨.move .look (.p 17), (some 8), none⟩]
@[simp] def eq42_1 := id q42_1.eq_1
def q42_2 : List AOper :=
  [⟨.move .take (.t 3), (some 12), none⟩,
    ⟨.load .look true 2 (.p 5), (some 13), none⟩,
    ⟨.call 37 [(.p 13, false)], (some 14), none⟩,
    ⟨.buildSl 29 2 [.int .i64 0, .slice .nil 0 1 []] [(0, 2, .p 14)], (some 15), none⟩,
    ⟨.append 29 2 32 false (.t 12) (.p 15), (some 16), none⟩,
    ⟨.assign (.t 16), (some 3), none⟩]
@[simp] def eq42_2 := id q42_2.eq_1
def q42_3 : List AOper :=
  [⟨.indexAddr 2 (.t 6) (.p 8), (some 10), none⟩,
    ⟨.load .take true 2 (.p 10), (some 11), none⟩,
    ⟨.newbox 5 [.int .u8 0, .slice .nil 0 1 []], (some 5), none⟩,
    ⟨.store 2 (.p 5) (.p 11), none, none⟩]
@[simp] def eq42_3 := id q42_3.eq_1
def q42_4 : List AOper :=
  [⟨.move .look (.t 0), (some 6), none⟩,
    ⟨.len false (.p 6), (some 7), none⟩,
    ⟨.move .head (.c (.int .i64 0)), (some 8), none⟩]
@[simp] def eq42_4 := id q42_4.eq_1
def k42_0 : ACode :=
  .ops q42_0 .ret
@[simp] theorem xk42_0 : GoC fns Q s k42_0 st ↔ GoO fns Q s q42_0 .ret st := goC_ops
def k42_1 : ACode :=
  .ops q42_1 .skip
@[simp] theorem xk42_1 : GoC fns Q s k42_1 st ↔ GoO fns Q s q42_1 .skip st := goC_ops
def k42_2 : ACode :=
  .ops q42_2 .skip
@[simp] theorem xk42_2 : GoC fns Q s k42_2 st ↔ GoO fns Q s q42_2 .skip st := goC_ops
def k42_3 : ACode :=
  .ops q42_3 k42_2
@[simp] theorem xk42_3 : GoC fns Q s k42_3 st ↔ GoO fns Q s q42_3 k42_2 st := goC_ops
def k42_4 : ACode :=
  .block 1 k42_3
@[simp] theorem xk42_4 : GoC fns Q s k42_4 st ↔ GoC fns Q (.bl 1 :: s) k42_3 st := goC_block
def k42_5 : ACode :=
  .seq k42_4 k42_1
@[simp] theorem xk42_5 : GoC fns Q s k42_5 st ↔ GoC fns Q (.sq k42_1 :: s) k42_4 st := goC_seq
def k42_6 : ACode :=
  .cond (.p 9) .skip (.exit 0)
@[simp] theorem xk42_6 : GoC fns Q s k42_6 st ↔ GB fns Q s (peek st (.p 9)) .skip (.exit 0) st := goC_cond
def k42_7 : ACode :=
  .seq k42_6 k42_5
@[simp] theorem xk42_7 : GoC fns Q s k42_7 st ↔ GoC fns Q (.sq k42_5 :: s) k42_6 st := goC_seq
def k42_8 : ACode :=
  .ops [⟨.bin .lss 1 false (.p 8) (.p 7), (some 9), none⟩] k42_7
@[simp] theorem xk42_8 : GoC fns Q s k42_8 st ↔ GoO fns Q s [⟨.bin .lss 1 false (.p 8) (.p 7), (some 9), none⟩] k42_7 st := goC_ops
def lc42_0 : ACode :=
  k42_8
@[simp] theorem xlc42_0 : GoC fns Q s lc42_0 st ↔ GoC fns Q s k42_8 st := Iff.rfl
def k42_10 : ACode :=
  .loop lc42_0
@[simp] theorem xk42_10 : GoC fns Q s k42_10 st ↔ (LoopR fns lc42_0 st fun r => GoE fns Q s r.1 r.2) := goC_loop
def k42_11 : ACode :=
  .block 0 k42_10
@[simp] theorem xk42_11 : GoC fns Q s k42_11 st ↔ GoC fns Q (.bl 0 :: s) k42_10 st := goC_block
def k42_12 : ACode :=
  .seq k42_11 k42_0
@[simp] theorem xk42_12 : GoC fns Q s k42_12 st ↔ GoC fns Q (.sq k42_0 :: s) k42_11 st := goC_seq
def k42_13 : ACode :=
  .ops q42_4 k42_12
@[simp] theorem xk42_13 : GoC fns Q s k42_13 st ↔ GoO fns Q s q42_4 k42_12 st := goC_ops
def k42_14 : ACode :=
  .ops [⟨.assign (.c (.slice .nil 0 1 [])), (some 3), none⟩] k42_13
@[simp] theorem xk42_14 : GoC fns Q s k42_14 st ↔ GoO fns Q s [⟨.assign (.c (.slice .nil 0 1 [])), (some 3), none⟩] k42_13 st := goC_ops
def k42_15 : ACode :=
  .ops [⟨.assign (.c (.slice .nil 0 1 [])), (some 2), none⟩] k42_14
@[simp] theorem xk42_15 : GoC fns Q s k42_15 st ↔ GoO fns Q s [⟨.assign (.c (.slice .nil 0 1 [])), (some 2), none⟩] k42_14 st := goC_ops
def af42 : AFunc := ⟨19, k42_15, [.tmp 2], fun _ => none⟩

theorem ok42 : ∃ hs, pFunc Tryd.prog sg hs Tryd.f42 = some af42 := ⟨fun i => if i == 6 then 5 else 0, by kernel_rfl⟩
/-- No. 18 -/
def q18_0 : List AOper :=
  [⟨.move .look (.t 4), (some 11), none⟩,
    ⟨.move .head (.p 5), (some 13), none⟩,
    ⟨.bin .eql 5 true (.p 13) (.c (.nilI)), (some 14), none⟩,
    ⟨.call 42 [(.t 11, false)], (some 12), none⟩,
    ⟨.assign (.t 12), (some 2), none⟩,
    ⟨.assign (.p 14), (some 3), none⟩]
@[simp] def eq18_0 := id q18_0.eq_1
def q18_1 : List AOper :=
  [⟨.move .look (.t 0), (some 7), none⟩,
    ⟨.call 41 [(.t 7, false)], (some 8), none⟩,
    ⟨.move .look (.t 8), (some 6), none⟩,
    ⟨.extract 6 0, (some 9), none⟩,
    ⟨.extract 6 1, (some 10), none⟩,
    ⟨.assign (.t 9), (some 4), none⟩,
    ⟨.assign (.p 10), (some 5), none⟩]
@[simp] def eq18_1 := id q18_1.eq_1
def q18_2 : List AOper :=
  [⟨.assign (.c (.slice .nil 0 1 [])), (some 2), none⟩,
    ⟨.assign (.c (.bool false)), (some 3), none⟩]
@[simp] def eq18_2 := id q18_2.eq_1
def k18_0 : ACode :=
  .ops q18_0 .ret
@[simp] theorem xk18_0 : GoC fns Q s k18_0 st ↔ GoO fns Q s q18_0 .ret st := goC_ops
def k18_1 : ACode :=
  .ops q18_1 k18_0
@[simp] theorem xk18_1 : GoC fns Q s k18_1 st ↔ GoO fns Q s q18_1 k18_0 st := goC_ops
def k18_2 : ACode :=
  .ops q18_2 k18_1
@[simp] theorem xk18_2 : GoC fns Q s k18_2 st ↔ GoO fns Q s q18_2 k18_1 st := goC_ops
def af18 : AFunc := ⟨15, k18_2, [.tmp 2, .tmp 3], fun _ => none⟩

theorem ok18 : ∃ hs, pFunc Tryd.prog sg hs Tryd.f18 = some af18 := ⟨fun i => 0, by kernel_rfl⟩
/-- No. 88 -/
def q88_0 : List AOper :=
  [⟨.move .look (.p 0), (some 7), none⟩,
    ⟨.bin .add 2 true (.p 7) (.c (.str [32, 108, 101, 110, 103, 116, 104, 32, 101, 120, 99, 101, 101, 100, 115, 32, 97, 118, 97, 105, 108, 97, 98, 108, 101, 32, 98, 121, 116, 101, 115])), (some 8), none⟩,
    ⟨.mkIface 101 (.p 8), (some 9), none⟩,
    ⟨.assign (.p 9), (some 6), none⟩]
@[simp] def eq88_0 := id q88_0.eq_1
def k88_0 : ACode :=
  .ops q88_0 .ret
@[simp] theorem xk88_0 : GoC fns Q s k88_0 st ↔ GoO fns Q s q88_0 .ret st := goC_ops
def k88_1 : ACode :=
  .ops [⟨.assign (.c (.nilI)), (some 6), none⟩] k88_0
@[simp] theorem xk88_1 : GoC fns Q s k88_1 st ↔ GoO fns Q s [⟨.assign (.c (.nilI)), (some 6), none⟩] k88_0 st := goC_ops
def af88 : AFunc := ⟨10, k88_1, [.tmp 6], fun _ => none⟩

theorem ok88 : ∃ hs, pFunc Tryd.prog sg hs Tryd.f88 = some af88 := ⟨fun i => 0, by kernel_rfl⟩
/-- No. 79 -/
def q79_0 : List AOper :=
  [⟨.move .look (.p 0), (some 5), none⟩,
    ⟨.move .look (.p 1), (some 6), none⟩,
    ⟨.call 88 [(.c (.str [100, 111, 99, 117, 109, 101, 110, 116]), false), (.p 5, false), (.p 6, false)], (some 7), none⟩,
    ⟨.assign (.p 7), (some 4), none⟩]
@[simp] def eq79_0 := id q79_0.eq_1
def k79_0 : ACode :=
  .ops q79_0 .ret
@[simp] theorem xk79_0 : GoC fns Q s k79_0 st ↔ GoO fns Q s q79_0 .ret st := goC_ops
def k79_1 : ACode :=
  .ops [⟨.assign (.c (.nilI)), (some 4), none⟩] k79_0
@[simp] theorem xk79_1 : GoC fns Q s k79_1 st ↔ GoO fns Q s [⟨.assign (.c (.nilI)), (some 4), none⟩] k79_0 st := goC_ops
def af79 : AFunc := ⟨8, k79_1, [.tmp 4], fun _ => none⟩

theorem ok79 : ∃ hs, pFunc Tryd.prog sg hs Tryd.f79 = some af79 := ⟨fun i => 0, by kernel_rfl⟩
/-- No. 59 -/
def q59_0 : List AOper :=
  [⟨.mkIface 101 (.c (.str [100, 111, 99, 117, 109, 101, 110, 116, 32, 111, 114, 32, 97, 114, 114, 97, 121, 32, 101, 110, 100, 32, 105, 115, 32, 109, 105, 115, 115, 105, 110, 103, 32, 110, 117, 108, 108, 32, 98, 121, 116, 101])), (some 75), none⟩,
    ⟨.assign (.p 75), (some 2), none⟩]
@[simp] def eq59_0 := id q59_0.eq_1
def q59_1 : List AOper :=
  [⟨.move .head (.t 4), (some 66), none⟩,
    ⟨.len false (.p 66), (some 67), none⟩,
    ⟨.bin .lss 1 true (.p 67) (.c (.int .i64 1)), (some 68), none⟩,
    ⟨.move .look (.p 68), (some 69), none⟩,
    ⟨.move .look (.t 4), (some 70), (some (69, false))⟩,
    ⟨.indexAddr 1 (.t 70) (.c (.int .i64 0)), (some 71), (some (69, false))⟩,
    ⟨.load .head false 1 (.p 71), (some 72), (some (69, false))⟩,
    ⟨.bin .neq 1 true (.p 72) (.c (.int .u8 0)), (some 73), (some (69, false))⟩,
    ⟨.pick (.p 69) (.c (.bool true)) (.p 73), (some 74), none⟩]
@[simp] def eq59_1 := id q59_1.eq_1
def q59_2 : List AOper :=
  [⟨.move .take (.p 7), (some 65), none⟩,
    ⟨.assign (.p 65), (some 2), none⟩]
@[simp] def eq59_2 := id q59_2.eq_1
def q59_3 : List AOper :=
  [⟨.move .head (.p 7), (some 63), none⟩,
    ⟨.bin .neq 5 true (.p 63) (.c (.nilI)), (some 64), none⟩]
@[simp] def eq59_3 := id q59_3.eq_1
def q59_4 : List AOper :=
  [⟨.move .look (.t 6), (some 61), none⟩,
    ⟨.call 63 [(.t 61, false)], (some 62), none⟩,
    ⟨.assign (.p 62), (some 7), none⟩]
@[simp] def eq59_4 := id q59_4.eq_1
def q59_5 : List AOper :=
  [⟨.move .look (.t 0), (some 57), none⟩,
    ⟨.move .look (.t 4), (some 58), none⟩,
    ⟨.call 70 [(.t 57, false), (.t 58, false)], (some 59), none⟩,
    ⟨.mkIface 100 (.p 59), (some 60), none⟩,
    ⟨.assign (.p 60), (some 2), none⟩]
@[simp] def eq59_5 := id q59_5.eq_1
def q59_6 : List AOper :=
  [⟨.move .look (.p 5), (some 55), none⟩,
    ⟨.un .not (.p 55), (some 56), none⟩]
@[simp] def eq59_6 := id q59_6.eq_1
def q59_7 : List AOper :=
  [⟨.move .look (.p 3), (some 50), none⟩,
    ⟨.move .head (.t 6), (some 51), none⟩,
    ⟨.len false (.p 51), (some 52), none⟩,
    ⟨.convInt .i32 (.p 52), (some 53), none⟩,
    ⟨.bin .sub 1 false (.p 50) (.p 53), (some 54), none⟩,
    ⟨.assign (.p 54), (some 3), none⟩]
@[simp] def eq59_7 := id q59_7.eq_1
def q59_8 : List AOper :=
  [⟨.move .look (.t 4), (some 45), none⟩,
    ⟨.call 72 [(.t 45, false)], (some 46), none⟩,
    ⟨.move .look (.t 46), (some 44), none⟩,
    ⟨.extract 44 0, (some 47), none⟩,
    ⟨.extract 44 1, (some 48), none⟩,
    ⟨.extract 44 2, (some 49), none⟩,
    ⟨.assign (.t 47), (some 6), none⟩,
    ⟨.assign (.t 48), (some 4), none⟩,
    ⟨.assign (.p 49), (some 5), none⟩]
@[simp] def eq59_8 := id q59_8.eq_1
def q59_9 : List AOper :=
  [⟨.move .look (.p 3), (some 42), none⟩,
    ⟨.bin .gtr 1 true (.p 42) (.c (.int .i32 1)), (some 43), none⟩]
@[simp] def eq59_9 := id q59_9.eq_1
def q59_10 : List AOper :=
  [⟨.move .look (.p 3), (some 40), none⟩,
    ⟨.bin .sub 1 true (.p 40) (.c (.int .i32 4)), (some 41), none⟩,
    ⟨.assign (.p 41), (some 3), none⟩]
@[simp] def eq59_10 := id q59_10.eq_1
def q59_11 : List AOper :=
  [⟨.mkIface 101 (.c (.str [100, 111, 99, 117, 109, 101, 110, 116, 32, 111, 114, 32, 97, 114, 114, 97, 121, 32, 101, 110, 100, 32, 105, 115, 32, 109, 105, 115, 115, 105, 110, 103, 32, 110, 117, 108, 108, 32, 98, 121, 116, 101])), (some 39), none⟩,
    ⟨.assign (.p 39), (some 2), none⟩]
@[simp] def eq59_11 := id q59_11.eq_1
def q59_12 : List AOper :=
  [⟨.move .look (.t 0), (some 33), none⟩,
    ⟨.move .look (.p 3), (some 34), none⟩,
    ⟨.bin .sub 1 true (.p 34) (.c (.int .i32 1)), (some 35), none⟩,
    ⟨.indexAddr 1 (.t 33) (.p 35), (some 36), none⟩,
    ⟨.load .head false 1 (.p 36), (some 37), none⟩,
    ⟨.bin .neq 1 true (.p 37) (.c (.int .u8 0)), (some 38), none⟩]
@[simp] def eq59_12 := id q59_12.eq_1
def q59_13 : List AOper :=
  [⟨.mkIface 101 (.c (.str [100, 111, 99, 117, 109, 101, 110, 116, 32, 111, 114, 32, 97, 114, 114, 97, 121, 32, 108, 101, 110, 103, 116, 104, 32, 105, 115, 32, 105, 110, 118, 97, 108, 105, 100])), (some 32), none⟩,
    ⟨.assign (.p 32), (some 2), none⟩]
@[simp] def eq59_13 := id q59_13.eq_1
def q59_14 : List AOper :=
  [⟨.move .look (.p 3), (some 30), none⟩,
    ⟨.bin .lss 1 true (.p 30) (.c (.int .i32 5)), (some 31), none⟩]
@[simp] def eq59_14 := id q59_14.eq_1
def q59_15 : List AOper :=
  [⟨.move .look (.p 3), (some 25), none⟩,
    ⟨.convInt .i64 (.p 25), (some 26), none⟩,
    ⟨.move .head (.t 0), (some 27), none⟩,
    ⟨.len false (.p 27), (some 28), none⟩,
    ⟨.call 79 [(.p 26, false), (.p 28, false)], (some 29), none⟩,
    ⟨.assign (.p 29), (some 2), none⟩]
@[simp] def eq59_15 := id q59_15.eq_1
def q59_16 : List AOper :=
  [⟨.move .look (.p 3), (some 20), none⟩,
    ⟨.convInt .i64 (.p 20), (some 21), none⟩,
    ⟨.move .head (.t 0), (some 22), none⟩,
    ⟨.len false (.p 22), (some 23), none⟩,
    ⟨.bin .gtr 1 false (.p 21) (.p 23), (some 24), none⟩]
@[simp] def eq59_16 := id q59_16.eq_1
def q59_17 : List AOper :=
  [⟨.move .look (.t 0), (some 16), none⟩,
    ⟨.move .look (.t 4), (some 17), none⟩,
    ⟨.call 70 [(.t 16, false), (.t 17, false)], (some 18), none⟩,
    ⟨.mkIface 100 (.p 18), (some 19), none⟩,
    ⟨.assign (.p 19), (some 2), none⟩]
@[simp] def eq59_17 := id q59_17.eq_1
def q59_18 : List AOper :=
  [⟨.move .look (.p 5), (some 14), none⟩,
    ⟨.un .not (.p 14), (some 15), none⟩]
@[simp] def eq59_18 := id q59_18.eq_1
def q59_19 : List AOper :=
  [⟨.move .look (.t 0), (some 9), none⟩,
    ⟨.call 71 [(.t 9, false)], (some 10), none⟩,
    ⟨.move .look (.t 10), (some 8), none⟩,
    ⟨.extract 8 0, (some 11), none⟩,
    ⟨.extract 8 1, (some 12), none⟩,
    ⟨.extract 8 2, (some 13), none⟩,
    ⟨.assign (.p 11), (some 3), none⟩,
    ⟨.assign (.t 12), (some 4), none⟩,
    ⟨.assign (.p 13), (some 5), none⟩]
@[simp] def eq59_19 := id q59_19.eq_1
def k59_0 : ACode :=
  .ops [⟨.assign (.c (.nilI)), (some 2), none⟩] .ret
@[simp] theorem xk59_0 : GoC fns Q s k59_0 st ↔ GoO fns Q s [⟨.assign (.c (.nilI)), (some 2), none⟩] .ret st := goC_ops
def k59_1 : ACode :=
  .ops q59_0 .ret
@[simp] theorem xk59_1 : GoC fns Q s k59_1 st ↔ GoO fns Q s q59_0 .ret st := goC_ops
def k59_2 : ACode :=
  .cond (.p 74) k59_1 .skip
@[simp] theorem xk59_2 : GoC fns Q s k59_2 st ↔ GB fns Q s (peek st (.p 74)) k59_1 .skip st := goC_cond
def k59_3 : ACode :=
  .seq k59_2 k59_0
@[simp] theorem xk59_3 : GoC fns Q s k59_3 st ↔ GoC fns Q (.sq k59_0 :: s) k59_2 st := goC_seq
def k59_4 : ACode :=
  .ops q59_1 k59_3
@[simp] theorem xk59_4 : GoC fns Q s k59_4 st ↔ GoO fns Q s q59_1 k59_3 st := goC_ops
def k59_5 : ACode :=
  .ops q59_2 .ret
@[simp] theorem xk59_5 : GoC fns Q s k59_5 st ↔ GoO fns Q s q59_2 .ret st := goC_ops
def k59_6 : ACode :=
  .cond (.p 64) k59_5 .skip
@[simp] theorem xk59_6 : GoC fns Q s k59_6 st ↔ GB fns Q s (peek st (.p 64)) k59_5 .skip st := goC_cond
def k59_7 : ACode :=
  .ops q59_3 k59_6
@[simp] theorem xk59_7 : GoC fns Q s k59_7 st ↔ GoO fns Q s q59_3 k59_6 st := goC_ops
def k59_8 : ACode :=
  .ops q59_4 k59_7
@[simp] theorem xk59_8 : GoC fns Q s k59_8 st ↔ GoO fns Q s q59_4 k59_7 st := goC_ops
def k59_9 : ACode :=
  .ops q59_5 .ret
@[simp] theorem xk59_9 : GoC fns Q s k59_9 st ↔ GoO fns Q s q59_5 .ret st := goC_ops
def k59_10 : ACode :=
  .cond (.p 56) k59_9 .skip
@[simp] theorem xk59_10 : GoC fns Q s k59_10 st ↔ GB fns Q s (peek st (.p 56)) k59_9 .skip st := goC_cond
def k59_11 : ACode :=
  .seq k59_10 k59_8
@[simp] theorem xk59_11 : GoC fns Q s k59_11 st ↔ GoC fns Q (.sq k59_8 :: s) k59_10 st := goC_seq
def k59_12 : ACode :=
  .ops q59_6 k59_11
@[simp] theorem xk59_12 : GoC fns Q s k59_12 st ↔ GoO fns Q s q59_6 k59_11 st := goC_ops
def k59_13 : ACode :=
  .ops q59_7 k59_12
@[simp] theorem xk59_13 : GoC fns Q s k59_13 st ↔ GoO fns Q s q59_7 k59_12 st := goC_ops
def k59_14 : ACode :=
  .ops q59_8 k59_13
@[simp] theorem xk59_14 : GoC fns Q s k59_14 st ↔ GoO fns Q s q59_8 k59_13 st := goC_ops
def k59_15 : ACode :=
  .block 1 k59_14
@[simp] theorem xk59_15 : GoC fns Q s k59_15 st ↔ GoC fns Q (.bl 1 :: s) k59_14 st := goC_block
def k59_16 : ACode :=
  .cond (.p 43) .skip (.exit 0)
@[simp] theorem xk59_16 : GoC fns Q s k59_16 st ↔ GB fns Q s (peek st (.p 43)) .skip (.exit 0) st := goC_cond
def k59_17 : ACode :=
  .seq k59_16 k59_15
@[simp] theorem xk59_17 : GoC fns Q s k59_17 st ↔ GoC fns Q (.sq k59_15 :: s) k59_16 st := goC_seq
def k59_18 : ACode :=
  .ops q59_9 k59_17
@[simp] theorem xk59_18 : GoC fns Q s k59_18 st ↔ GoO fns Q s q59_9 k59_17 st := goC_ops
def lc59_0 : ACode :=
  k59_18
@[simp] theorem xlc59_0 : GoC fns Q s lc59_0 st ↔ GoC fns Q s k59_18 st := Iff.rfl
def k59_20 : ACode :=
  .loop lc59_0
@[simp] theorem xk59_20 : GoC fns Q s k59_20 st ↔ (LoopR fns lc59_0 st fun r => GoE fns Q s r.1 r.2) := goC_loop
def k59_21 : ACode :=
  .block 0 k59_20
@[simp] theorem xk59_21 : GoC fns Q s k59_21 st ↔ GoC fns Q (.bl 0 :: s) k59_20 st := goC_block
def k59_22 : ACode :=
  .seq k59_21 k59_4
@[simp] theorem xk59_22 : GoC fns Q s k59_22 st ↔ GoC fns Q (.sq k59_4 :: s) k59_21 st := goC_seq
def k59_23 : ACode :=
  .ops [⟨.assign (.c (.slice .nil 0 1 [])), (some 6), none⟩] k59_22
@[simp] theorem xk59_23 : GoC fns Q s k59_23 st ↔ GoO fns Q s [⟨.assign (.c (.slice .nil 0 1 [])), (some 6), none⟩] k59_22 st := goC_ops
def k59_24 : ACode :=
  .ops q59_10 k59_23
@[simp] theorem xk59_24 : GoC fns Q s k59_24 st ↔ GoO fns Q s q59_10 k59_23 st := goC_ops
def k59_25 : ACode :=
  .ops q59_11 .ret
@[simp] theorem xk59_25 : GoC fns Q s k59_25 st ↔ GoO fns Q s q59_11 .ret st := goC_ops
def k59_26 : ACode :=
  .cond (.p 38) k59_25 .skip
@[simp] theorem xk59_26 : GoC fns Q s k59_26 st ↔ GB fns Q s (peek st (.p 38)) k59_25 .skip st := goC_cond
def k59_27 : ACode :=
  .seq k59_26 k59_24
@[simp] theorem xk59_27 : GoC fns Q s k59_27 st ↔ GoC fns Q (.sq k59_24 :: s) k59_26 st := goC_seq
def k59_28 : ACode :=
  .ops q59_12 k59_27
@[simp] theorem xk59_28 : GoC fns Q s k59_28 st ↔ GoO fns Q s q59_12 k59_27 st := goC_ops
def k59_29 : ACode :=
  .ops q59_13 .ret
@[simp] theorem xk59_29 : GoC fns Q s k59_29 st ↔ GoO fns Q s q59_13 .ret st := goC_ops
def k59_30 : ACode :=
  .cond (.p 31) k59_29 .skip
@[simp] theorem xk59_30 : GoC fns Q s k59_30 st ↔ GB fns Q s (peek st (.p 31)) k59_29 .skip st := goC_cond
def k59_31 : ACode :=
  .seq k59_30 k59_28
@[simp] theorem xk59_31 : GoC fns Q s k59_31 st ↔ GoC fns Q (.sq k59_28 :: s) k59_30 st := goC_seq
def k59_32 : ACode :=
  .ops q59_14 k59_31
@[simp] theorem xk59_32 : GoC fns Q s k59_32 st ↔ GoO fns Q s q59_14 k59_31 st := goC_ops
def k59_33 : ACode :=
  .ops q59_15 .ret
@[simp] theorem xk59_33 : GoC fns Q s k59_33 st ↔ GoO fns Q s q59_15 .ret st := goC_ops
def k59_34 : ACode :=
  .cond (.p 24) k59_33 .skip
@[simp] theorem xk59_34 : GoC fns Q s k59_34 st ↔ GB fns Q s (peek st (.p 24)) k59_33 .skip st := goC_cond
def k59_35 : ACode :=
  .seq k59_34 k59_32
@[simp] theorem xk59_35 : GoC fns Q s k59_35 st ↔ GoC fns Q (.sq k59_32 :: s) k59_34 st := goC_seq
def k59_36 : ACode :=
  .ops q59_16 k59_35
@[simp] theorem xk59_36 : GoC fns Q s k59_36 st ↔ GoO fns Q s q59_16 k59_35 st := goC_ops
def k59_37 : ACode :=
  .ops q59_17 .ret
@[simp] theorem xk59_37 : GoC fns Q s k59_37 st ↔ GoO fns Q s q59_17 .ret st := goC_ops
def k59_38 : ACode :=
  .cond (.p 15) k59_37 .skip
@[simp] theorem xk59_38 : GoC fns Q s k59_38 st ↔ GB fns Q s (peek st (.p 15)) k59_37 .skip st := goC_cond
def k59_39 : ACode :=
  .seq k59_38 k59_36
@[simp] theorem xk59_39 : GoC fns Q s k59_39 st ↔ GoC fns Q (.sq k59_36 :: s) k59_38 st := goC_seq
def k59_40 : ACode :=
  .ops q59_18 k59_39
@[simp] theorem xk59_40 : GoC fns Q s k59_40 st ↔ GoO fns Q s q59_18 k59_39 st := goC_ops
def k59_41 : ACode :=
  .ops q59_19 k59_40
@[simp] theorem xk59_41 : GoC fns Q s k59_41 st ↔ GoO fns Q s q59_19 k59_40 st := goC_ops
def k59_42 : ACode :=
  .ops [⟨.assign (.c (.nilI)), (some 2), none⟩] k59_41
@[simp] theorem xk59_42 : GoC fns Q s k59_42 st ↔ GoO fns Q s [⟨.assign (.c (.nilI)), (some 2), none⟩] k59_41 st := goC_ops
def af59 : AFunc := ⟨76, k59_42, [.tmp 2], fun _ => none⟩

theorem ok59 : ∃ hs, pFunc Tryd.prog sg hs Tryd.f59 = some af59 := ⟨fun i => 0, by kernel_rfl⟩
/-- No. 43 -/
def q43_0 : List AOper :=
  [⟨.move .look (.t 0), (some 3), none⟩,
    ⟨.call 59 [(.t 3, false)], (some 4), none⟩,
    ⟨.assign (.p 4), (some 2), none⟩]
@[simp] def eq43_0 := id q43_0.eq_1
def k43_0 : ACode :=
  .ops q43_0 .ret
@[simp] theorem xk43_0 : GoC fns Q s k43_0 st ↔ GoO fns Q s q43_0 .ret st := goC_ops
def k43_1 : ACode :=
  .ops [⟨.assign (.c (.nilI)), (some 2), none⟩] k43_0
@[simp] theorem xk43_1 : GoC fns Q s k43_1 st ↔ GoO fns Q s [⟨.assign (.c (.nilI)), (some 2), none⟩] k43_0 st := goC_ops
def af43 : AFunc := ⟨5, k43_1, [.tmp 2], fun _ => none⟩

theorem ok43 : ∃ hs, pFunc Tryd.prog sg hs Tryd.f43 = some af43 := ⟨fun i => 0, by kernel_rfl⟩
/-- No. 19 -/
def q19_0 : List AOper :=
  [⟨.move .look (.t 0), (some 3), none⟩,
    ⟨.call 43 [(.t 3, false)], (some 4), none⟩,
    ⟨.call 31 [(.p 4, false)], (some 5), none⟩,
    ⟨.assign (.p 5), (some 2), none⟩]
@[simp] def eq19_0 := id q19_0.eq_1
def k19_0 : ACode :=
  .ops q19_0 .ret
@[simp] theorem xk19_0 : GoC fns Q s k19_0 st ↔ GoO fns Q s q19_0 .ret st := goC_ops
def k19_1 : ACode :=
  .ops [⟨.assign (.c (.int .i64 0)), (some 2), none⟩] k19_0
@[simp] theorem xk19_1 : GoC fns Q s k19_1 st ↔ GoO fns Q s [⟨.assign (.c (.int .i64 0)), (some 2), none⟩] k19_0 st := goC_ops
def af19 : AFunc := ⟨6, k19_1, [.tmp 2], fun _ => none⟩

theorem ok19 : ∃ hs, pFunc Tryd.prog sg hs Tryd.f19 = some af19 := ⟨fun i => 0, by kernel_rfl⟩
/-- No. 80 -/
def q80_0 : List AOper :=
  [⟨.load .take false 1 (.c (.gl 0)), (some 50), none⟩,
    ⟨.assign (.c (.slice .nil 0 1 [])), (some 4), none⟩,
    ⟨.assign (.p 50), (some 5), none⟩]
@[simp] def eq80_0 := id q80_0.eq_1
def q80_1 : List AOper :=
  [⟨.move .take (.t 10), (some 49), none⟩,
    ⟨.assign (.t 49), (some 4), none⟩,
    ⟨.assign (.c (.nilI)), (some 5), none⟩]
@[simp] def eq80_1 := id q80_1.eq_1
def q80_2 : List AOper :=
  [⟨.move .look (.p 9), (some 47), none⟩,
    ⟨.bin .add 1 true (.p 47) (.c (.int .u64 1)), (some 48), none⟩,
    ⟨.assign (.p 48), (some 9), none⟩]
@[simp] def eq80_2 := id q80_2.eq_1
def q80_3 : List AOper :=
  [⟨.move .head (.p 9), (some 44), none⟩,
    ⟨.move .head (.p 1), (some 45), none⟩,
    ⟨.bin .neq 1 false (.p 44) (.p 45), (some 46), none⟩]
@[simp] def eq80_3 := id q80_3.eq_1
def q80_4 : List AOper :=
  [⟨.move .look (.t 0), (some 40), none⟩,
    ⟨.move .look (.t 7), (some 41), none⟩,
    ⟨.call 70 [(.t 40, false), (.t 41, false)], (some 42), none⟩,
    ⟨.mkIface 100 (.p 42), (some 43), none⟩,
    ⟨.assign (.c (.slice .nil 0 1 [])), (some 4), none⟩,
    ⟨.assign (.p 43), (some 5), none⟩]
@[simp] def eq80_4 := id q80_4.eq_1
def q80_5 : List AOper :=
  [⟨.move .look (.p 8), (some 38), none⟩,
    ⟨.un .not (.p 38), (some 39), none⟩]
@[simp] def eq80_5 := id q80_5.eq_1
def q80_6 : List AOper :=
  [⟨.move .look (.p 6), (some 33), none⟩,
    ⟨.move .head (.t 10), (some 34), none⟩,
    ⟨.len false (.p 34), (some 35), none⟩,
    ⟨.convInt .i32 (.p 35), (some 36), none⟩,
    ⟨.bin .sub 1 false (.p 33) (.p 36), (some 37), none⟩,
    ⟨.assign (.p 37), (some 6), none⟩]
@[simp] def eq80_6 := id q80_6.eq_1
def q80_7 : List AOper :=
  [⟨.move .look (.t 7), (some 28), none⟩,
    ⟨.call 72 [(.t 28, false)], (some 29), none⟩,
    ⟨.move .look (.t 29), (some 27), none⟩,
    ⟨.extract 27 0, (some 30), none⟩,
    ⟨.extract 27 1, (some 31), none⟩,
    ⟨.extract 27 2, (some 32), none⟩,
    ⟨.assign (.t 30), (some 10), none⟩,
    ⟨.assign (.t 31), (some 7), none⟩,
    ⟨.assign (.p 32), (some 8), none⟩]
@[simp] def eq80_7 := id q80_7.eq_1
def q80_8 : List AOper :=
  [⟨.move .look (.p 6), (some 25), none⟩,
    ⟨.bin .gtr 1 true (.p 25) (.c (.int .i32 1)), (some 26), none⟩]
@[simp] def eq80_8 := id q80_8.eq_1
def q80_9 : List AOper :=
  [⟨.move .look (.p 6), (some 23), none⟩,
    ⟨.bin .sub 1 true (.p 23) (.c (.int .i32 4)), (some 24), none⟩,
    ⟨.assign (.p 24), (some 6), none⟩]
@[simp] def eq80_9 := id q80_9.eq_1
def q80_10 : List AOper :=
  [⟨.move .look (.t 0), (some 19), none⟩,
    ⟨.move .look (.t 7), (some 20), none⟩,
    ⟨.call 70 [(.t 19, false), (.t 20, false)], (some 21), none⟩,
    ⟨.mkIface 100 (.p 21), (some 22), none⟩,
    ⟨.assign (.c (.slice .nil 0 1 [])), (some 4), none⟩,
    ⟨.assign (.p 22), (some 5), none⟩]
@[simp] def eq80_10 := id q80_10.eq_1
def q80_11 : List AOper :=
  [⟨.move .look (.p 8), (some 17), none⟩,
    ⟨.un .not (.p 17), (some 18), none⟩]
@[simp] def eq80_11 := id q80_11.eq_1
def q80_12 : List AOper :=
  [⟨.move .look (.t 0), (some 12), none⟩,
    ⟨.call 71 [(.t 12, false)], (some 13), none⟩,
    ⟨.move .look (.t 13), (some 11), none⟩,
    ⟨.extract 11 0, (some 14), none⟩,
    ⟨.extract 11 1, (some 15), none⟩,
    ⟨.extract 11 2, (some 16), none⟩,
    ⟨.assign (.p 14), (some 6), none⟩,
    ⟨.assign (.t 15), (some 7), none⟩,
    ⟨.assign (.p 16), (some 8), none⟩]
@[simp] def eq80_12 := id q80_12.eq_1
def q80_13 : List AOper :=
  [⟨.assign (.c (.slice .nil 0 1 [])), (some 4), none⟩,
    ⟨.assign (.c (.nilI)), (some 5), none⟩]
@[simp] def eq80_13 := id q80_13.eq_1
def k80_0 : ACode :=
  .ops q80_0 .ret
@[simp] theorem xk80_0 : GoC fns Q s k80_0 st ↔ GoO fns Q s q80_0 .ret st := goC_ops
def k80_1 : ACode :=
  .ops q80_1 .ret
@[simp] theorem xk80_1 : GoC fns Q s k80_1 st ↔ GoO fns Q s q80_1 .ret st := goC_ops
def k80_2 : ACode :=
  .ops q80_2 (.exit 1)
@[simp] theorem xk80_2 : GoC fns Q s k80_2 st ↔ GoO fns Q s q80_2 (.exit 1) st := goC_ops
def k80_3 : ACode :=
  .cond (.p 46) k80_2 .skip
@[simp] theorem xk80_3 : GoC fns Q s k80_3 st ↔ GB fns Q s (peek st (.p 46)) k80_2 .skip st := goC_cond
def k80_4 : ACode :=
  .seq k80_3 k80_1
@[simp] theorem xk80_4 : GoC fns Q s k80_4 st ↔ GoC fns Q (.sq k80_1 :: s) k80_3 st := goC_seq
def k80_5 : ACode :=
  .ops q80_3 k80_4
@[simp] theorem xk80_5 : GoC fns Q s k80_5 st ↔ GoO fns Q s q80_3 k80_4 st := goC_ops
def k80_6 : ACode :=
  .ops q80_4 .ret
@[simp] theorem xk80_6 : GoC fns Q s k80_6 st ↔ GoO fns Q s q80_4 .ret st := goC_ops
def k80_7 : ACode :=
  .cond (.p 39) k80_6 .skip
@[simp] theorem xk80_7 : GoC fns Q s k80_7 st ↔ GB fns Q s (peek st (.p 39)) k80_6 .skip st := goC_cond
def k80_8 : ACode :=
  .seq k80_7 k80_5
@[simp] theorem xk80_8 : GoC fns Q s k80_8 st ↔ GoC fns Q (.sq k80_5 :: s) k80_7 st := goC_seq
def k80_9 : ACode :=
  .ops q80_5 k80_8
@[simp] theorem xk80_9 : GoC fns Q s k80_9 st ↔ GoO fns Q s q80_5 k80_8 st := goC_ops
def k80_10 : ACode :=
  .ops q80_6 k80_9
@[simp] theorem xk80_10 : GoC fns Q s k80_10 st ↔ GoO fns Q s q80_6 k80_9 st := goC_ops
def k80_11 : ACode :=
  .ops q80_7 k80_10
@[simp] theorem xk80_11 : GoC fns Q s k80_11 st ↔ GoO fns Q s q80_7 k80_10 st := goC_ops
def k80_12 : ACode :=
  .block 1 k80_11
@[simp] theorem xk80_12 : GoC fns Q s k80_12 st ↔ GoC fns Q (.bl 1 :: s) k80_11 st := goC_block
def k80_13 : ACode :=
  .cond (.p 26) .skip (.exit 0)
@[simp] theorem xk80_13 : GoC fns Q s k80_13 st ↔ GB fns Q s (peek st (.p 26)) .skip (.exit 0) st := goC_cond
def k80_14 : ACode :=
  .seq k80_13 k80_12
@[simp] theorem xk80_14 : GoC fns Q s k80_14 st ↔ GoC fns Q (.sq k80_12 :: s) k80_13 st := goC_seq
def k80_15 : ACode :=
  .ops q80_8 k80_14
@[simp] theorem xk80_15 : GoC fns Q s k80_15 st ↔ GoO fns Q s q80_8 k80_14 st := goC_ops
def lc80_0 : ACode :=
  k80_15
@[simp] theorem xlc80_0 : GoC fns Q s lc80_0 st ↔ GoC fns Q s k80_15 st := Iff.rfl
def k80_17 : ACode :=
  .loop lc80_0
@[simp] theorem xk80_17 : GoC fns Q s k80_17 st ↔ (LoopR fns lc80_0 st fun r => GoE fns Q s r.1 r.2) := goC_loop
def k80_18 : ACode :=
  .block 0 k80_17
@[simp] theorem xk80_18 : GoC fns Q s k80_18 st ↔ GoC fns Q (.bl 0 :: s) k80_17 st := goC_block
def k80_19 : ACode :=
  .seq k80_18 k80_0
@[simp] theorem xk80_19 : GoC fns Q s k80_19 st ↔ GoC fns Q (.sq k80_0 :: s) k80_18 st := goC_seq
def k80_20 : ACode :=
  .ops [⟨.assign (.c (.slice .nil 0 1 [])), (some 10), none⟩] k80_19
@[simp] theorem xk80_20 : GoC fns Q s k80_20 st ↔ GoO fns Q s [⟨.assign (.c (.slice .nil 0 1 [])), (some 10), none⟩] k80_19 st := goC_ops
def k80_21 : ACode :=
  .ops [⟨.assign (.c (.int .u64 0)), (some 9), none⟩] k80_20
@[simp] theorem xk80_21 : GoC fns Q s k80_21 st ↔ GoO fns Q s [⟨.assign (.c (.int .u64 0)), (some 9), none⟩] k80_20 st := goC_ops
def k80_22 : ACode :=
  .ops q80_9 k80_21
@[simp] theorem xk80_22 : GoC fns Q s k80_22 st ↔ GoO fns Q s q80_9 k80_21 st := goC_ops
def k80_23 : ACode :=
  .ops q80_10 .ret
@[simp] theorem xk80_23 : GoC fns Q s k80_23 st ↔ GoO fns Q s q80_10 .ret st := goC_ops
def k80_24 : ACode :=
  .cond (.p 18) k80_23 .skip
@[simp] theorem xk80_24 : GoC fns Q s k80_24 st ↔ GB fns Q s (peek st (.p 18)) k80_23 .skip st := goC_cond
def k80_25 : ACode :=
  .seq k80_24 k80_22
@[simp] theorem xk80_25 : GoC fns Q s k80_25 st ↔ GoC fns Q (.sq k80_22 :: s) k80_24 st := goC_seq
def k80_26 : ACode :=
  .ops q80_11 k80_25
@[simp] theorem xk80_26 : GoC fns Q s k80_26 st ↔ GoO fns Q s q80_11 k80_25 st := goC_ops
def k80_27 : ACode :=
  .ops q80_12 k80_26
@[simp] theorem xk80_27 : GoC fns Q s k80_27 st ↔ GoO fns Q s q80_12 k80_26 st := goC_ops
def k80_28 : ACode :=
  .ops q80_13 k80_27
@[simp] theorem xk80_28 : GoC fns Q s k80_28 st ↔ GoO fns Q s q80_13 k80_27 st := goC_ops
def af80 : AFunc := ⟨51, k80_28, [.tmp 4, .tmp 5], fun _ => none⟩

theorem ok80 : ∃ hs, pFunc Tryd.prog sg hs Tryd.f80 = some af80 := ⟨fun i => 0, by kernel_rfl⟩
/-- No. 60 -/
def q60_0 : List AOper :=
  [⟨.move .look (.t 0), (some 6), none⟩,
    ⟨.move .look (.p 1), (some 7), none⟩,
    ⟨.call 80 [(.t 6, false), (.p 7, false)], (some 8), none⟩,
    ⟨.extract 8 0, (some 9), none⟩,
    ⟨.extract 8 1, (some 10), none⟩,
    ⟨.assign (.t 9), (some 4), none⟩,
    ⟨.assign (.p 10), (some 5), none⟩]
@[simp] def eq60_0 := id q60_0.eq_1
def q60_1 : List AOper :=
  [⟨.assign (.c (.slice .nil 0 1 [])), (some 4), none⟩,
    ⟨.assign (.c (.nilI)), (some 5), none⟩]
@[simp] def eq60_1 := id q60_1.eq_1
def k60_0 : ACode :=
  .ops q60_0 .ret
@[simp] theorem xk60_0 : GoC fns Q s k60_0 st ↔ GoO fns Q s q60_0 .ret st := goC_ops
def k60_1 : ACode :=
  .ops q60_1 k60_0
@[simp] theorem xk60_1 : GoC fns Q s k60_1 st ↔ GoO fns Q s q60_1 k60_0 st := goC_ops
def af60 : AFunc := ⟨11, k60_1, [.tmp 4, .tmp 5], fun _ => none⟩

theorem ok60 : ∃ hs, pFunc Tryd.prog sg hs Tryd.f60 = some af60 := ⟨fun i => 0, by kernel_rfl⟩
/-- No. 44 -/
def q44_0 : List AOper :=
  [⟨.move .take (.t 6), (some 14), none⟩,
    ⟨.move .take (.p 7), (some 15), none⟩,
    ⟨.assign (.t 14), (some 4), none⟩,
    ⟨.assign (.p 15), (some 5), none⟩]
@[simp] def eq44_0 := id q44_0.eq_1
def q44_1 : List AOper :=
  [⟨.move .look (.t 0), (some 9), none⟩,
    ⟨.move .look (.p 1), (some 10), none⟩,
    ⟨.call 60 [(.t 9, false), (.p 10, false)], (some 11), none⟩,
    ⟨.move .look (.t 11), (some 8), none⟩,
    ⟨.extract 8 0, (some 12), none⟩,
    ⟨.extract 8 1, (some 13), none⟩,
    ⟨.assign (.t 12), (some 6), none⟩,
    ⟨.assign (.p 13), (some 7), none⟩]
@[simp] def eq44_1 := id q44_1.eq_1
def q44_2 : List AOper :=
  [⟨.assign (.c (.slice .nil 0 1 [])), (some 4), none⟩,
    ⟨.assign (.c (.nilI)), (some 5), none⟩]
@[simp] def eq44_2 := id q44_2.eq_1
def k44_0 : ACode :=
  .ops q44_0 .ret
@[simp] theorem xk44_0 : GoC fns Q s k44_0 st ↔ GoO fns Q s q44_0 .ret st := goC_ops
def k44_1 : ACode :=
  .ops q44_1 k44_0
@[simp] theorem xk44_1 : GoC fns Q s k44_1 st ↔ GoO fns Q s q44_1 k44_0 st := goC_ops
def k44_2 : ACode :=
  .ops q44_2 k44_1
@[simp] theorem xk44_2 : GoC fns Q s k44_2 st ↔ GoO fns Q s q44_2 k44_1 st := goC_ops
def af44 : AFunc := ⟨16, k44_2, [.tmp 4, .tmp 5], fun _ => none⟩

theorem ok44 : ∃ hs, pFunc Tryd.prog sg hs Tryd.f44 = some af44 := ⟨fun i => 0, by kernel_rfl⟩
/-- No. 21 -/
def q21_0 : List AOper :=
  [⟨.move .look (.t 6), (some 15), none⟩,
    ⟨.call 40 [(.t 15, false)], (some 16), none⟩,
    ⟨.move .look (.p 7), (some 17), none⟩,
    ⟨.call 31 [(.p 17, false)], (some 18), none⟩,
    ⟨.assign (.t 16), (some 4), none⟩,
    ⟨.assign (.p 18), (some 5), none⟩]
@[simp] def eq21_0 := id q21_0.eq_1
def q21_1 : List AOper :=
  [⟨.move .look (.t 0), (some 9), none⟩,
    ⟨.move .look (.p 1), (some 10), none⟩,
    ⟨.convInt .u64 (.p 10), (some 11), none⟩,
    ⟨.call 44 [(.t 9, false), (.p 11, false)], (some 12), none⟩,
    ⟨.move .look (.t 12), (some 8), none⟩,
    ⟨.extract 8 0, (some 13), none⟩,
    ⟨.extract 8 1, (some 14), none⟩,
    ⟨.assign (.t 13), (some 6), none⟩,
    ⟨.assign (.p 14), (some 7), none⟩]
@[simp] def eq21_1 := id q21_1.eq_1
def q21_2 : List AOper :=
  [⟨.assign (.c (.slice .nil 0 1 [])), (some 4), none⟩,
    ⟨.assign (.c (.int .i64 0)), (some 5), none⟩]
@[simp] def eq21_2 := id q21_2.eq_1
def k21_0 : ACode :=
  .ops q21_0 .ret
@[simp] theorem xk21_0 : GoC fns Q s k21_0 st ↔ GoO fns Q s q21_0 .ret st := goC_ops
def k21_1 : ACode :=
  .ops q21_1 k21_0
@[simp] theorem xk21_1 : GoC fns Q s k21_1 st ↔ GoO fns Q s q21_1 k21_0 st := goC_ops
def k21_2 : ACode :=
  .ops q21_2 k21_1
@[simp] theorem xk21_2 : GoC fns Q s k21_2 st ↔ GoO fns Q s q21_2 k21_1 st := goC_ops
def af21 : AFunc := ⟨19, k21_2, [.tmp 4, .tmp 5], fun _ => none⟩

theorem ok21 : ∃ hs, pFunc Tryd.prog sg hs Tryd.f21 = some af21 := ⟨fun i => 0, by kernel_rfl⟩
/-- No. 5 -/
def q5_0 : List AOper :=
  [⟨.move .head (.p 14), (some 121), none⟩,
    ⟨.bin .neq 1 true (.p 121) (.c (.int .i64 0)), (some 122), none⟩,
    ⟨.assign (.p 122), (some 2), none⟩]
@[simp] def eq5_0 := id q5_0.eq_1
def q5_1 : List AOper :=
  [⟨.move .look (.t 3), (some 115), none⟩,
    ⟨.move .head (.t 5), (some 116), none⟩,
    ⟨.len false (.p 116), (some 117), none⟩,
    ⟨.call 21 [(.t 115, false), (.p 117, false)], (some 118), none⟩,
    ⟨.move .look (.t 118), (some 114), none⟩,
    ⟨.extract 114 0, (some 119), none⟩,
    ⟨.extract 114 1, (some 120), none⟩,
    ⟨.assign (.t 119), (some 13), none⟩,
    ⟨.assign (.p 120), (some 14), none⟩]
@[simp] def eq5_1 := id q5_1.eq_1
def q5_2 : List AOper :=
  [⟨.move .look (.p 9), (some 66), none⟩,
    ⟨.bin .add 1 true (.p 66) (.c (.int .i64 1)), (some 67), none⟩,
    ⟨.assign (.p 67), (some 9), none⟩]
@[simp] def eq5_2 := id q5_2.eq_1
def q5_3 : List AOper :=
  [⟨.move .head (.p 12), (some 80), none⟩,
    ⟨.bin .neq 1 true (.p 80) (.c (.int .i64 0)), (some 81), none⟩,
    ⟨.move .look (.p 81), (some 82), none⟩,
    ⟨.move .look (.t 11), (some 83), (some (82, false))⟩,
    ⟨.convBS (.t 83), (some 84), (some (82, false))⟩,
    ⟨.move .look (.t 10), (some 85), (some (82, false))⟩,
    ⟨.convBS (.t 85), (some 86), (some (82, false))⟩,
    ⟨.bin .neq 2 false (.p 84) (.p 86), (some 87), (some (82, false))⟩,
    ⟨.pick (.p 82) (.c (.bool true)) (.p 87), (some 88), none⟩,
    ⟨.move .look (.p 88), (some 89), none⟩,
    ⟨.move .look (.t 5), (some 90), (some (89, false))⟩,
    ⟨.move .look (.p 9), (some 91), (some (89, false))⟩,
    ⟨.indexAddr 1 (.t 90) (.p 91), (some 92), (some (89, false))⟩,
    ⟨.load .look false 1 (.p 92), (some 93), (some (89, false))⟩,
    ⟨.convBS (.t 93), (some 94), (some (89, false))⟩,
    ⟨.move .look (.t 10), (some 95), (some (89, false))⟩,
    ⟨.convBS (.t 95), (some 96), (some (89, false))⟩,
    ⟨.bin .neq 2 false (.p 94) (.p 96), (some 97), (some (89, false))⟩,
    ⟨.pick (.p 89) (.c (.bool true)) (.p 97), (some 98), none⟩,
    ⟨.move .look (.p 98), (some 99), none⟩,
    ⟨.move .look (.t 7), (some 100), (some (99, false))⟩,
    ⟨.move .look (.p 9), (some 101), (some (99, false))⟩,
    ⟨.indexAddr 2 (.t 100) (.p 101), (some 102), (some (99, false))⟩,
    ⟨.load .look true 2 (.p 102), (some 103), (some (99, false))⟩,
    ⟨.fieldAddr 7 (.p 1), (some 104), (some (99, false))⟩,
    ⟨.load .look false 1 (.p 104), (some 105), (some (99, false))⟩,
    ⟨.move .look (.p 9), (some 106), (some (99, false))⟩,
    ⟨.indexAddr 9 (.t 105) (.p 106), (some 107), (some (99, false))⟩,
    ⟨.fieldAddr 1 (.p 107), (some 108), (some (99, false))⟩,
    ⟨.load .look true 8 (.p 108), (some 109), (some (99, false))⟩,
    ⟨.call 9 [(.p 109, false)], (some 110), (some (99, false))⟩,
    ⟨.call 16 [(.p 103, false), (.p 110, false)], (some 111), (some (99, false))⟩,
    ⟨.un .not (.p 111), (some 112), (some (99, false))⟩,
    ⟨.pick (.p 99) (.c (.bool true)) (.p 112), (some 113), none⟩]
@[simp] def eq5_3 := id q5_3.eq_1
def q5_4 : List AOper :=
  [⟨.move .look (.t 3), (some 75), none⟩,
    ⟨.move .look (.p 9), (some 76), none⟩,
    ⟨.call 21 [(.t 75, false), (.p 76, false)], (some 77), none⟩,
    ⟨.move .look (.t 77), (some 74), none⟩,
    ⟨.extract 74 0, (some 78), none⟩,
    ⟨.extract 74 1, (some 79), none⟩,
    ⟨.assign (.t 78), (some 11), none⟩,
    ⟨.assign (.p 79), (some 12), none⟩]
@[simp] def eq5_4 := id q5_4.eq_1
def q5_5 : List AOper :=
  [⟨.fieldAddr 7 (.p 1), (some 68), none⟩,
    ⟨.load .look false 1 (.p 68), (some 69), none⟩,
    ⟨.move .look (.p 9), (some 70), none⟩,
    ⟨.indexAddr 9 (.t 69) (.p 70), (some 71), none⟩,
    ⟨.load .look true 9 (.p 71), (some 72), none⟩,
    ⟨.call 20 [(.p 72, false)], (some 73), none⟩,
    ⟨.assign (.t 73), (some 10), none⟩]
@[simp] def eq5_5 := id q5_5.eq_1
def q5_6 : List AOper :=
  [⟨.move .look (.p 9), (some 62), none⟩,
    ⟨.move .head (.t 5), (some 63), none⟩,
    ⟨.len false (.p 63), (some 64), none⟩,
    ⟨.bin .lss 1 false (.p 62) (.p 64), (some 65), none⟩]
@[simp] def eq5_6 := id q5_6.eq_1
def q5_7 : List AOper :=
  [⟨.move .look (.p 6), (some 35), none⟩,
    ⟨.un .not (.p 35), (some 36), none⟩,
    ⟨.move .look (.p 36), (some 37), none⟩,
    ⟨.move .look (.p 8), (some 38), (some (37, false))⟩,
    ⟨.un .not (.p 38), (some 39), (some (37, false))⟩,
    ⟨.pick (.p 37) (.c (.bool true)) (.p 39), (some 40), none⟩,
    ⟨.move .look (.p 40), (some 41), none⟩,
    ⟨.move .head (.t 5), (some 42), (some (41, false))⟩,
    ⟨.len false (.p 42), (some 43), (some (41, false))⟩,
    ⟨.fieldAddr 7 (.p 1), (some 44), (some (41, false))⟩,
    ⟨.load .head false 1 (.p 44), (some 45), (some (41, false))⟩,
    ⟨.len false (.p 45), (some 46), (some (41, false))⟩,
    ⟨.bin .neq 1 false (.p 43) (.p 46), (some 47), (some (41, false))⟩,
    ⟨.pick (.p 41) (.c (.bool true)) (.p 47), (some 48), none⟩,
    ⟨.move .look (.p 48), (some 49), none⟩,
    ⟨.move .head (.t 7), (some 50), (some (49, false))⟩,
    ⟨.len false (.p 50), (some 51), (some (49, false))⟩,
    ⟨.fieldAddr 7 (.p 1), (some 52), (some (49, false))⟩,
    ⟨.load .head false 1 (.p 52), (some 53), (some (49, false))⟩,
    ⟨.len false (.p 53), (some 54), (some (49, false))⟩,
    ⟨.bin .neq 1 false (.p 51) (.p 54), (some 55), (some (49, false))⟩,
    ⟨.pick (.p 49) (.c (.bool true)) (.p 55), (some 56), none⟩,
    ⟨.move .look (.p 56), (some 57), none⟩,
    ⟨.move .look (.t 3), (some 58), (some (57, false))⟩,
    ⟨.call 19 [(.t 58, false)], (some 59), (some (57, false))⟩,
    ⟨.bin .neq 1 true (.p 59) (.c (.int .i64 0)), (some 60), (some (57, false))⟩,
    ⟨.pick (.p 57) (.c (.bool true)) (.p 60), (some 61), none⟩]
@[simp] def eq5_7 := id q5_7.eq_1
def q5_8 : List AOper :=
  [⟨.move .look (.t 3), (some 31), none⟩,
    ⟨.call 18 [(.t 31, false)], (some 32), none⟩,
    ⟨.move .look (.t 32), (some 30), none⟩,
    ⟨.extract 30 0, (some 33), none⟩,
    ⟨.extract 30 1, (some 34), none⟩,
    ⟨.assign (.t 33), (some 7), none⟩,
    ⟨.assign (.p 34), (some 8), none⟩]
@[simp] def eq5_8 := id q5_8.eq_1
def q5_9 : List AOper :=
  [⟨.move .look (.t 3), (some 26), none⟩,
    ⟨.call 17 [(.t 26, false)], (some 27), none⟩,
    ⟨.move .look (.t 27), (some 25), none⟩,
    ⟨.extract 25 0, (some 28), none⟩,
    ⟨.extract 25 1, (some 29), none⟩,
    ⟨.assign (.t 28), (some 5), none⟩,
    ⟨.assign (.p 29), (some 6), none⟩]
@[simp] def eq5_9 := id q5_9.eq_1
def q5_10 : List AOper :=
  [⟨.move .look (.p 4), (some 23), none⟩,
    ⟨.un .not (.p 23), (some 24), none⟩]
@[simp] def eq5_10 := id q5_10.eq_1
def q5_11 : List AOper :=
  [⟨.load .look true 8 (.p 1), (some 19), none⟩,
    ⟨.call 12 [(.p 19, false)], (some 20), none⟩,
    ⟨.move .look (.t 20), (some 18), none⟩,
    ⟨.extract 18 0, (some 21), none⟩,
    ⟨.extract 18 1, (some 22), none⟩,
    ⟨.assign (.t 21), (some 3), none⟩,
    ⟨.assign (.p 22), (some 4), none⟩]
@[simp] def eq5_11 := id q5_11.eq_1
def q5_12 : List AOper :=
  [⟨.load .look true 8 (.p 1), (some 15), none⟩,
    ⟨.call 7 [(.p 15, false)], (some 16), none⟩,
    ⟨.un .not (.p 16), (some 17), none⟩]
@[simp] def eq5_12 := id q5_12.eq_1
def q5_13 : List AOper :=
  [⟨.box 1 (.p 0), (some 1), none⟩,
    ⟨.assign (.c (.bool false)), (some 2), none⟩]
@[simp] def eq5_13 := id q5_13.eq_1
def k5_0 : ACode :=
  .ops q5_0 .ret
@[simp] theorem xk5_0 : GoC fns Q s k5_0 st ↔ GoO fns Q s q5_0 .ret st := goC_ops
def k5_1 : ACode :=
  .ops q5_1 k5_0
@[simp] theorem xk5_1 : GoC fns Q s k5_1 st ↔ GoO fns Q s q5_1 k5_0 st := goC_ops
def k5_2 : ACode :=
  .ops q5_2 .skip
@[simp] theorem xk5_2 : GoC fns Q s k5_2 st ↔ GoO fns Q s q5_2 .skip st := goC_ops
def k5_3 : ACode :=
  .ops [⟨.assign (.c (.bool false)), (some 2), none⟩] .ret
@[simp] theorem xk5_3 : GoC fns Q s k5_3 st ↔ GoO fns Q s [⟨.assign (.c (.bool false)), (some 2), none⟩] .ret st := goC_ops
def k5_4 : ACode :=
  .cond (.p 113) k5_3 .skip
@[simp] theorem xk5_4 : GoC fns Q s k5_4 st ↔ GB fns Q s (peek st (.p 113)) k5_3 .skip st := goC_cond
def k5_5 : ACode :=
  .ops q5_3 k5_4
@[simp] theorem xk5_5 : GoC fns Q s k5_5 st ↔ GoO fns Q s q5_3 k5_4 st := goC_ops
def k5_6 : ACode :=
  .ops q5_4 k5_5
@[simp] theorem xk5_6 : GoC fns Q s k5_6 st ↔ GoO fns Q s q5_4 k5_5 st := goC_ops
def k5_7 : ACode :=
  .ops q5_5 k5_6
@[simp] theorem xk5_7 : GoC fns Q s k5_7 st ↔ GoO fns Q s q5_5 k5_6 st := goC_ops
def k5_8 : ACode :=
  .block 1 k5_7
@[simp] theorem xk5_8 : GoC fns Q s k5_8 st ↔ GoC fns Q (.bl 1 :: s) k5_7 st := goC_block
def k5_9 : ACode :=
  .seq k5_8 k5_2
@[simp] theorem xk5_9 : GoC fns Q s k5_9 st ↔ GoC fns Q (.sq k5_2 :: s) k5_8 st := goC_seq
def k5_10 : ACode :=
  .cond (.p 65) .skip (.exit 0)
@[simp] theorem xk5_10 : GoC fns Q s k5_10 st ↔ GB fns Q s (peek st (.p 65)) .skip (.exit 0) st := goC_cond
def k5_11 : ACode :=
  .seq k5_10 k5_9
@[simp] theorem xk5_11 : GoC fns Q s k5_11 st ↔ GoC fns Q (.sq k5_9 :: s) k5_10 st := goC_seq
def k5_12 : ACode :=
  .ops q5_6 k5_11
@[simp] theorem xk5_12 : GoC fns Q s k5_12 st ↔ GoO fns Q s q5_6 k5_11 st := goC_ops
def lc5_0 : ACode :=
  k5_12
@[simp] theorem xlc5_0 : GoC fns Q s lc5_0 st ↔ GoC fns Q s k5_12 st := Iff.rfl
def k5_14 : ACode :=
  .loop lc5_0
@[simp] theorem xk5_14 : GoC fns Q s k5_14 st ↔ (LoopR fns lc5_0 st fun r => GoE fns Q s r.1 r.2) := goC_loop
def k5_15 : ACode :=
  .block 0 k5_14
@[simp] theorem xk5_15 : GoC fns Q s k5_15 st ↔ GoC fns Q (.bl 0 :: s) k5_14 st := goC_block
def k5_16 : ACode :=
  .seq k5_15 k5_1
@[simp] theorem xk5_16 : GoC fns Q s k5_16 st ↔ GoC fns Q (.sq k5_1 :: s) k5_15 st := goC_seq
def k5_17 : ACode :=
  .ops [⟨.assign (.c (.int .i64 0)), (some 9), none⟩] k5_16
@[simp] theorem xk5_17 : GoC fns Q s k5_17 st ↔ GoO fns Q s [⟨.assign (.c (.int .i64 0)), (some 9), none⟩] k5_16 st := goC_ops
def k5_18 : ACode :=
  .ops [⟨.assign (.c (.bool false)), (some 2), none⟩] .ret
@[simp] theorem xk5_18 : GoC fns Q s k5_18 st ↔ GoO fns Q s [⟨.assign (.c (.bool false)), (some 2), none⟩] .ret st := goC_ops
def k5_19 : ACode :=
  .cond (.p 61) k5_18 .skip
@[simp] theorem xk5_19 : GoC fns Q s k5_19 st ↔ GB fns Q s (peek st (.p 61)) k5_18 .skip st := goC_cond
def k5_20 : ACode :=
  .seq k5_19 k5_17
@[simp] theorem xk5_20 : GoC fns Q s k5_20 st ↔ GoC fns Q (.sq k5_17 :: s) k5_19 st := goC_seq
def k5_21 : ACode :=
  .ops q5_7 k5_20
@[simp] theorem xk5_21 : GoC fns Q s k5_21 st ↔ GoO fns Q s q5_7 k5_20 st := goC_ops
def k5_22 : ACode :=
  .ops q5_8 k5_21
@[simp] theorem xk5_22 : GoC fns Q s k5_22 st ↔ GoO fns Q s q5_8 k5_21 st := goC_ops
def k5_23 : ACode :=
  .ops q5_9 k5_22
@[simp] theorem xk5_23 : GoC fns Q s k5_23 st ↔ GoO fns Q s q5_9 k5_22 st := goC_ops
def k5_24 : ACode :=
  .ops [⟨.assign (.c (.bool true)), (some 2), none⟩] .ret
@[simp] theorem xk5_24 : GoC fns Q s k5_24 st ↔ GoO fns Q s [⟨.assign (.c (.bool true)), (some 2), none⟩] .ret st := goC_ops
def k5_25 : ACode :=
  .cond (.p 24) k5_24 .skip
@[simp] theorem xk5_25 : GoC fns Q s k5_25 st ↔ GB fns Q s (peek st (.p 24)) k5_24 .skip st := goC_cond
def k5_26 : ACode :=
  .seq k5_25 k5_23
@[simp] theorem xk5_26 : GoC fns Q s k5_26 st ↔ GoC fns Q (.sq k5_23 :: s) k5_25 st := goC_seq
def k5_27 : ACode :=
  .ops q5_10 k5_26
@[simp] theorem xk5_27 : GoC fns Q s k5_27 st ↔ GoO fns Q s q5_10 k5_26 st := goC_ops
def k5_28 : ACode :=
  .ops q5_11 k5_27
@[simp] theorem xk5_28 : GoC fns Q s k5_28 st ↔ GoO fns Q s q5_11 k5_27 st := goC_ops
def k5_29 : ACode :=
  .ops [⟨.assign (.c (.bool true)), (some 2), none⟩] .ret
@[simp] theorem xk5_29 : GoC fns Q s k5_29 st ↔ GoO fns Q s [⟨.assign (.c (.bool true)), (some 2), none⟩] .ret st := goC_ops
def k5_30 : ACode :=
  .cond (.p 17) k5_29 .skip
@[simp] theorem xk5_30 : GoC fns Q s k5_30 st ↔ GB fns Q s (peek st (.p 17)) k5_29 .skip st := goC_cond
def k5_31 : ACode :=
  .seq k5_30 k5_28
@[simp] theorem xk5_31 : GoC fns Q s k5_31 st ↔ GoC fns Q (.sq k5_28 :: s) k5_30 st := goC_seq
def k5_32 : ACode :=
  .ops q5_12 k5_31
@[simp] theorem xk5_32 : GoC fns Q s k5_32 st ↔ GoO fns Q s q5_12 k5_31 st := goC_ops
def k5_33 : ACode :=
  .ops q5_13 k5_32
@[simp] theorem xk5_33 : GoC fns Q s k5_33 st ↔ GoO fns Q s q5_13 k5_32 st := goC_ops
def af5 : AFunc := ⟨123, k5_33, [.tmp 2], fun _ => none⟩

theorem ok5 : ∃ hs, pFunc Tryd.prog sg hs Tryd.f5 = some af5 := ⟨fun i => 0, by kernel_rfl⟩
/-- No. 22 -/
def q22_0 : List AOper :=
  [⟨.move .look (.t 0), (some 7), none⟩,
    ⟨.indexAddr 1 (.t 7) (.c (.int .i64 0)), (some 8), none⟩,
    ⟨.load .look false 1 (.p 8), (some 9), none⟩,
    ⟨.convInt .u32 (.p 9), (some 10), none⟩,
    ⟨.move .look (.t 0), (some 11), none⟩,
    ⟨.indexAddr 1 (.t 11) (.c (.int .i64 1)), (some 12), none⟩,
    ⟨.load .look false 1 (.p 12), (some 13), none⟩,
    ⟨.convInt .u32 (.p 13), (some 14), none⟩,
    ⟨.bin .shl 1 true (.p 14) (.c (.int .u64 8)), (some 15), none⟩,
    ⟨.bin .or 1 false (.p 10) (.p 15), (some 16), none⟩,
    ⟨.move .look (.t 0), (some 17), none⟩,
    ⟨.indexAddr 1 (.t 17) (.c (.int .i64 2)), (some 18), none⟩,
    ⟨.load .look false 1 (.p 18), (some 19), none⟩,
    ⟨.convInt .u32 (.p 19), (some 20), none⟩,
    ⟨.bin .shl 1 true (.p 20) (.c (.int .u64 16)), (some 21), none⟩,
    ⟨.bin .or 1 false (.p 16) (.p 21), (some 22), none⟩,
    ⟨.move .look (.t 0), (some 23), none⟩,
    ⟨.indexAddr 1 (.t 23) (.c (.int .i64 3)), (some 24), none⟩,
    ⟨.load .look false 1 (.p 24), (some 25), none⟩,
    ⟨.convInt .u32 (.p 25), (some 26), none⟩,
    ⟨.bin .shl 1 true (.p 26) (.c (.int .u64 24)), (some 27), none⟩,
    ⟨.bin .or 1 false (.p 22) (.p 27), (some 28), none⟩,
    ⟨.convInt .i32 (.p 28), (some 29), none⟩,
    ⟨.convInt .i64 (.p 29), (some 30), none⟩,
    ⟨.assign (.p 30), (some 2), none⟩,
    ⟨.assign (.c (.bool true)), (some 3), none⟩]
@[simp] def eq22_0 := id q22_0.eq_1
def q22_1 : List AOper :=
  [⟨.assign (.c (.int .i64 0)), (some 2), none⟩,
    ⟨.assign (.c (.bool false)), (some 3), none⟩]
@[simp] def eq22_1 := id q22_1.eq_1
def q22_2 : List AOper :=
  [⟨.move .head (.t 0), (some 4), none⟩,
    ⟨.len false (.p 4), (some 5), none⟩,
    ⟨.bin .lss 1 true (.p 5) (.c (.int .i64 4)), (some 6), none⟩]
@[simp] def eq22_2 := id q22_2.eq_1
def q22_3 : List AOper :=
  [⟨.assign (.c (.int .i64 0)), (some 2), none⟩,
    ⟨.assign (.c (.bool false)), (some 3), none⟩]
@[simp] def eq22_3 := id q22_3.eq_1
def k22_0 : ACode :=
  .ops q22_0 .ret
@[simp] theorem xk22_0 : GoC fns Q s k22_0 st ↔ GoO fns Q s q22_0 .ret st := goC_ops
def k22_1 : ACode :=
  .ops q22_1 .ret
@[simp] theorem xk22_1 : GoC fns Q s k22_1 st ↔ GoO fns Q s q22_1 .ret st := goC_ops
def k22_2 : ACode :=
  .cond (.p 6) k22_1 .skip
@[simp] theorem xk22_2 : GoC fns Q s k22_2 st ↔ GB fns Q s (peek st (.p 6)) k22_1 .skip st := goC_cond
def k22_3 : ACode :=
  .seq k22_2 k22_0
@[simp] theorem xk22_3 : GoC fns Q s k22_3 st ↔ GoC fns Q (.sq k22_0 :: s) k22_2 st := goC_seq
def k22_4 : ACode :=
  .ops q22_2 k22_3
@[simp] theorem xk22_4 : GoC fns Q s k22_4 st ↔ GoO fns Q s q22_2 k22_3 st := goC_ops
def k22_5 : ACode :=
  .ops q22_3 k22_4
@[simp] theorem xk22_5 : GoC fns Q s k22_5 st ↔ GoO fns Q s q22_3 k22_4 st := goC_ops
def af22 : AFunc := ⟨31, k22_5, [.tmp 2, .tmp 3], fun _ => none⟩

theorem ok22 : ∃ hs, pFunc Tryd.prog sg hs Tryd.f22 = some af22 := ⟨fun i => 0, by kernel_rfl⟩
/-- No. 45 -/
def q45_0 : List AOper :=
  [⟨.move .look (.t 0), (some 4), none⟩,
    ⟨.call 61 [(.t 4, false)], (some 5), none⟩,
    ⟨.extract 5 0, (some 6), none⟩,
    ⟨.extract 5 1, (some 7), none⟩,
    ⟨.assign (.p 6), (some 2), none⟩,
    ⟨.assign (.p 7), (some 3), none⟩]
@[simp] def eq45_0 := id q45_0.eq_1
def q45_1 : List AOper :=
  [⟨.assign (.c (.str [])), (some 2), none⟩,
    ⟨.assign (.c (.nilI)), (some 3), none⟩]
@[simp] def eq45_1 := id q45_1.eq_1
def k45_0 : ACode :=
  .ops q45_0 .ret
@[simp] theorem xk45_0 : GoC fns Q s k45_0 st ↔ GoO fns Q s q45_0 .ret st := goC_ops
def k45_1 : ACode :=
  .ops q45_1 k45_0
@[simp] theorem xk45_1 : GoC fns Q s k45_1 st ↔ GoO fns Q s q45_1 k45_0 st := goC_ops
def af45 : AFunc := ⟨8, k45_1, [.tmp 2, .tmp 3], fun _ => none⟩

theorem ok45 : ∃ hs, pFunc Tryd.prog sg hs Tryd.f45 = some af45 := ⟨fun i => 0, by kernel_rfl⟩
/-- No. 23 -/
def q23_0 : List AOper :=
  [⟨.move .take (.p 4), (some 11), none⟩,
    ⟨.move .look (.p 5), (some 12), none⟩,
    ⟨.call 31 [(.p 12, false)], (some 13), none⟩,
    ⟨.assign (.p 11), (some 2), none⟩,
    ⟨.assign (.p 13), (some 3), none⟩]
@[simp] def eq23_0 := id q23_0.eq_1
def q23_1 : List AOper :=
  [⟨.move .look (.t 0), (some 7), none⟩,
    ⟨.call 45 [(.t 7, false)], (some 8), none⟩,
    ⟨.move .look (.t 8), (some 6), none⟩,
    ⟨.extract 6 0, (some 9), none⟩,
    ⟨.extract 6 1, (some 10), none⟩,
    ⟨.assign (.p 9), (some 4), none⟩,
    ⟨.assign (.p 10), (some 5), none⟩]
@[simp] def eq23_1 := id q23_1.eq_1
def q23_2 : List AOper :=
  [⟨.assign (.c (.str [])), (some 2), none⟩,
    ⟨.assign (.c (.int .i64 0)), (some 3), none⟩]
@[simp] def eq23_2 := id q23_2.eq_1
def k23_0 : ACode :=
  .ops q23_0 .ret
@[simp] theorem xk23_0 : GoC fns Q s k23_0 st ↔ GoO fns Q s q23_0 .ret st := goC_ops
def k23_1 : ACode :=
  .ops q23_1 k23_0
@[simp] theorem xk23_1 : GoC fns Q s k23_1 st ↔ GoO fns Q s q23_1 k23_0 st := goC_ops
def k23_2 : ACode :=
  .ops q23_2 k23_1
@[simp] theorem xk23_2 : GoC fns Q s k23_2 st ↔ GoO fns Q s q23_2 k23_1 st := goC_ops
def af23 : AFunc := ⟨14, k23_2, [.tmp 2, .tmp 3], fun _ => none⟩

theorem ok23 : ∃ hs, pFunc Tryd.prog sg hs Tryd.f23 = some af23 := ⟨fun i => 0, by kernel_rfl⟩
/-- No. 46 -/
def q46_0 : List AOper :=
  [⟨.load .look true 2 (.p 4), (some 11), none⟩,
    ⟨.call 56 [(.p 11, false)], (some 12), none⟩,
    ⟨.move .take (.p 5), (some 13), none⟩,
    ⟨.store 2 (.p 2) (.p 12), none, none⟩,
    ⟨.assign (.p 13), (some 3), none⟩]
@[simp] def eq46_0 := id q46_0.eq_1
def q46_1 : List AOper :=
  [⟨.move .look (.t 0), (some 7), none⟩,
    ⟨.call 62 [(.t 7, false)], (some 8), none⟩,
    ⟨.move .look (.t 8), (some 6), none⟩,
    ⟨.extract 6 0, (some 9), none⟩,
    ⟨.extract 6 1, (some 10), none⟩,
    ⟨.newbox 4 [.int .u8 0, .slice .nil 0 1 []], (some 4), none⟩,
    ⟨.store 2 (.p 4) (.p 9), none, none⟩,
    ⟨.assign (.p 10), (some 5), none⟩]
@[simp] def eq46_1 := id q46_1.eq_1
def q46_2 : List AOper :=
  [⟨.newbox 2 [.int .u8 0, .slice .nil 0 1 []], (some 2), none⟩,
    ⟨.assign (.c (.nilI)), (some 3), none⟩]
@[simp] def eq46_2 := id q46_2.eq_1
def k46_0 : ACode :=
  .ops q46_0 .ret
@[simp] theorem xk46_0 : GoC fns Q s k46_0 st ↔ GoO fns Q s q46_0 .ret st := goC_ops
def k46_1 : ACode :=
  .ops q46_1 k46_0
@[simp] theorem xk46_1 : GoC fns Q s k46_1 st ↔ GoO fns Q s q46_1 k46_0 st := goC_ops
def k46_2 : ACode :=
  .ops q46_2 k46_1
@[simp] theorem xk46_2 : GoC fns Q s k46_2 st ↔ GoO fns Q s q46_2 k46_1 st := goC_ops
def af46 : AFunc := ⟨14, k46_2, [.cell 2 true 2, .tmp 3], fun _ => none⟩

theorem ok46 : ∃ hs, pFunc Tryd.prog sg hs Tryd.f46 = some af46 := ⟨fun i => 0, by kernel_rfl⟩
/-- No. 24 -/
def q24_0 : List AOper :=
  [⟨.load .look true 2 (.p 4), (some 11), none⟩,
    ⟨.call 37 [(.p 11, false)], (some 12), none⟩,
    ⟨.move .look (.p 5), (some 13), none⟩,
    ⟨.call 31 [(.p 13, false)], (some 14), none⟩,
    ⟨.store 2 (.p 2) (.p 12), none, none⟩,
    ⟨.assign (.p 14), (some 3), none⟩]
@[simp] def eq24_0 := id q24_0.eq_1
def q24_1 : List AOper :=
  [⟨.move .look (.t 0), (some 7), none⟩,
    ⟨.call 46 [(.t 7, false)], (some 8), none⟩,
    ⟨.move .look (.t 8), (some 6), none⟩,
    ⟨.extract 6 0, (some 9), none⟩,
    ⟨.extract 6 1, (some 10), none⟩,
    ⟨.newbox 4 [.int .u8 0, .slice .nil 0 1 []], (some 4), none⟩,
    ⟨.store 2 (.p 4) (.p 9), none, none⟩,
    ⟨.assign (.p 10), (some 5), none⟩]
@[simp] def eq24_1 := id q24_1.eq_1
def q24_2 : List AOper :=
  [⟨.newbox 2 [.int .i64 0, .slice .nil 0 1 []], (some 2), none⟩,
    ⟨.assign (.c (.int .i64 0)), (some 3), none⟩]
@[simp] def eq24_2 := id q24_2.eq_1
def k24_0 : ACode :=
  .ops q24_0 .ret
@[simp] theorem xk24_0 : GoC fns Q s k24_0 st ↔ GoO fns Q s q24_0 .ret st := goC_ops
def k24_1 : ACode :=
  .ops q24_1 k24_0
@[simp] theorem xk24_1 : GoC fns Q s k24_1 st ↔ GoO fns Q s q24_1 k24_0 st := goC_ops
def k24_2 : ACode :=
  .ops q24_2 k24_1
@[simp] theorem xk24_2 : GoC fns Q s k24_2 st ↔ GoO fns Q s q24_2 k24_1 st := goC_ops
def af24 : AFunc := ⟨15, k24_2, [.cell 2 true 2, .tmp 3], fun _ => none⟩

theorem ok24 : ∃ hs, pFunc Tryd.prog sg hs Tryd.f24 = some af24 := ⟨fun i => 0, by kernel_rfl⟩
/-- No. 47 -/
def q47_0 : List AOper :=
  [⟨.move .look (.t 0), (some 3), none⟩,
    ⟨.call 63 [(.t 3, false)], (some 4), none⟩,
    ⟨.assign (.p 4), (some 2), none⟩]
@[simp] def eq47_0 := id q47_0.eq_1
def k47_0 : ACode :=
  .ops q47_0 .ret
@[simp] theorem xk47_0 : GoC fns Q s k47_0 st ↔ GoO fns Q s q47_0 .ret st := goC_ops
def k47_1 : ACode :=
  .ops [⟨.assign (.c (.nilI)), (some 2), none⟩] k47_0
@[simp] theorem xk47_1 : GoC fns Q s k47_1 st ↔ GoO fns Q s [⟨.assign (.c (.nilI)), (some 2), none⟩] k47_0 st := goC_ops
def af47 : AFunc := ⟨5, k47_1, [.tmp 2], fun _ => none⟩

theorem ok47 : ∃ hs, pFunc Tryd.prog sg hs Tryd.f47 = some af47 := ⟨fun i => 0, by kernel_rfl⟩
/-- No. 25 -/
def q25_0 : List AOper :=
  [⟨.move .look (.t 0), (some 3), none⟩,
    ⟨.call 47 [(.t 3, false)], (some 4), none⟩,
    ⟨.call 31 [(.p 4, false)], (some 5), none⟩,
    ⟨.assign (.p 5), (some 2), none⟩]
@[simp] def eq25_0 := id q25_0.eq_1
def k25_0 : ACode :=
  .ops q25_0 .ret
@[simp] theorem xk25_0 : GoC fns Q s k25_0 st ↔ GoO fns Q s q25_0 .ret st := goC_ops
def k25_1 : ACode :=
  .ops [⟨.assign (.c (.int .i64 0)), (some 2), none⟩] k25_0
@[simp] theorem xk25_1 : GoC fns Q s k25_1 st ↔ GoO fns Q s [⟨.assign (.c (.int .i64 0)), (some 2), none⟩] k25_0 st := goC_ops
def af25 : AFunc := ⟨6, k25_1, [.tmp 2], fun _ => none⟩

theorem ok25 : ∃ hs, pFunc Tryd.prog sg hs Tryd.f25 = some af25 := ⟨fun i => 0, by kernel_rfl⟩
/-- No. 6 -/
def q6_0 : List AOper :=
  [⟨.move .head (.p 9), (some 168), none⟩,
    ⟨.move .look (.p 3), (some 169), none⟩,
    ⟨.bin .sub 1 true (.p 169) (.c (.int .i64 1)), (some 170), none⟩,
    ⟨.bin .eql 1 false (.p 168) (.p 170), (some 171), none⟩,
    ⟨.move .look (.p 171), (some 172), none⟩,
    ⟨.move .look (.t 0), (some 173), (some (172, true))⟩,
    ⟨.move .look (.p 9), (some 174), (some (172, true))⟩,
    ⟨.indexAddr 1 (.t 173) (.p 174), (some 175), (some (172, true))⟩,
    ⟨.load .head false 1 (.p 175), (some 176), (some (172, true))⟩,
    ⟨.bin .eql 1 true (.p 176) (.c (.int .u8 0)), (some 177), (some (172, true))⟩,
    ⟨.pick (.p 172) (.p 177) (.c (.bool false)), (some 178), none⟩,
    ⟨.assign (.p 178), (some 2), none⟩]
@[simp] def eq6_0 := id q6_0.eq_1
def q6_1 : List AOper :=
  [⟨.move .look (.p 10), (some 75), none⟩,
    ⟨.bin .add 1 true (.p 75) (.c (.int .i64 1)), (some 76), none⟩,
    ⟨.assign (.p 76), (some 10), none⟩]
@[simp] def eq6_1 := id q6_1.eq_1
def q6_2 : List AOper :=
  [⟨.move .look (.p 9), (some 161), none⟩,
    ⟨.move .look (.t 5), (some 162), none⟩,
    ⟨.move .look (.p 10), (some 163), none⟩,
    ⟨.indexAddr 1 (.t 162) (.p 163), (some 164), none⟩,
    ⟨.load .head false 1 (.p 164), (some 165), none⟩,
    ⟨.len false (.p 165), (some 166), none⟩,
    ⟨.bin .add 1 false (.p 161) (.p 166), (some 167), none⟩,
    ⟨.assign (.p 167), (some 9), none⟩]
@[simp] def eq6_2 := id q6_2.eq_1
def q6_3 : List AOper :=
  [⟨.move .look (.p 9), (some 133), none⟩,
    ⟨.move .look (.t 5), (some 134), none⟩,
    ⟨.move .look (.p 10), (some 135), none⟩,
    ⟨.indexAddr 1 (.t 134) (.p 135), (some 136), none⟩,
    ⟨.load .head false 1 (.p 136), (some 137), none⟩,
    ⟨.len false (.p 137), (some 138), none⟩,
    ⟨.bin .add 1 false (.p 133) (.p 138), (some 139), none⟩,
    ⟨.move .look (.p 3), (some 140), none⟩,
    ⟨.bin .geq 1 false (.p 139) (.p 140), (some 141), none⟩,
    ⟨.move .look (.p 141), (some 142), none⟩,
    ⟨.move .look (.t 0), (some 143), (some (142, false))⟩,
    ⟨.move .head (.p 9), (some 144), (some (142, false))⟩,
    ⟨.move .look (.p 9), (some 145), (some (142, false))⟩,
    ⟨.move .look (.t 5), (some 146), (some (142, false))⟩,
    ⟨.move .look (.p 10), (some 147), (some (142, false))⟩,
    ⟨.indexAddr 1 (.t 146) (.p 147), (some 148), (some (142, false))⟩,
    ⟨.load .head false 1 (.p 148), (some 149), (some (142, false))⟩,
    ⟨.len false (.p 149), (some 150), (some (142, false))⟩,
    ⟨.bin .add 1 false (.p 145) (.p 150), (some 151), (some (142, false))⟩,
    ⟨.sliceSl 1 (.t 143) (some (.p 144)) (some (.p 151)), (some 152), (some (142, false))⟩,
    ⟨.convBS (.t 152), (some 153), (some (142, false))⟩,
    ⟨.move .look (.t 5), (some 154), (some (142, false))⟩,
    ⟨.move .look (.p 10), (some 155), (some (142, false))⟩,
    ⟨.indexAddr 1 (.t 154) (.p 155), (some 156), (some (142, false))⟩,
    ⟨.load .look false 1 (.p 156), (some 157), (some (142, false))⟩,
    ⟨.convBS (.t 157), (some 158), (some (142, false))⟩,
    ⟨.bin .neq 2 false (.p 153) (.p 158), (some 159), (some (142, false))⟩,
    ⟨.pick (.p 142) (.c (.bool true)) (.p 159), (some 160), none⟩]
@[simp] def eq6_3 := id q6_3.eq_1
def q6_4 : List AOper :=
  [⟨.move .head (.p 12), (some 93), none⟩,
    ⟨.bin .neq 1 true (.p 93) (.c (.int .i64 0)), (some 94), none⟩,
    ⟨.move .look (.p 94), (some 95), none⟩,
    ⟨.move .head (.p 14), (some 96), (some (95, false))⟩,
    ⟨.bin .neq 1 true (.p 96) (.c (.int .i64 0)), (some 97), (some (95, false))⟩,
    ⟨.pick (.p 95) (.c (.bool true)) (.p 97), (some 98), none⟩,
    ⟨.move .look (.p 98), (some 99), none⟩,
    ⟨.move .look (.t 5), (some 100), (some (99, false))⟩,
    ⟨.move .look (.p 10), (some 101), (some (99, false))⟩,
    ⟨.indexAddr 1 (.t 100) (.p 101), (some 102), (some (99, false))⟩,
    ⟨.load .look false 1 (.p 102), (some 103), (some (99, false))⟩,
    ⟨.call 25 [(.t 103, false)], (some 104), (some (99, false))⟩,
    ⟨.bin .neq 1 true (.p 104) (.c (.int .i64 0)), (some 105), (some (99, false))⟩,
    ⟨.pick (.p 99) (.c (.bool true)) (.p 105), (some 106), none⟩,
    ⟨.move .look (.p 106), (some 107), none⟩,
    ⟨.load .look true 2 (.p 13), (some 108), (some (107, false))⟩,
    ⟨.move .look (.t 7), (some 109), (some (107, false))⟩,
    ⟨.move .look (.p 10), (some 110), (some (107, false))⟩,
    ⟨.indexAddr 2 (.t 109) (.p 110), (some 111), (some (107, false))⟩,
    ⟨.load .look true 2 (.p 111), (some 112), (some (107, false))⟩,
    ⟨.call 16 [(.p 108, false), (.p 112, false)], (some 113), (some (107, false))⟩,
    ⟨.un .not (.p 113), (some 114), (some (107, false))⟩,
    ⟨.pick (.p 107) (.c (.bool true)) (.p 114), (some 115), none⟩,
    ⟨.move .look (.p 115), (some 116), none⟩,
    ⟨.move .look (.t 5), (some 117), (some (116, false))⟩,
    ⟨.move .look (.p 10), (some 118), (some (116, false))⟩,
    ⟨.indexAddr 1 (.t 117) (.p 118), (some 119), (some (116, false))⟩,
    ⟨.load .look false 1 (.p 119), (some 120), (some (116, false))⟩,
    ⟨.convBS (.t 120), (some 121), (some (116, false))⟩,
    ⟨.fieldAddr 0 (.p 13), (some 122), (some (116, false))⟩,
    ⟨.load .look false 1 (.p 122), (some 123), (some (116, false))⟩,
    ⟨.move .look (.p 11), (some 124), (some (116, false))⟩,
    ⟨.fieldAddr 1 (.p 13), (some 127), (some (116, false))⟩,
    ⟨.load .look false 1 (.p 127), (some 128), (some (116, false))⟩,
    ⟨.convBS (.t 128), (some 129), (some (116, false))⟩,
    ⟨.call 26 [(.p 123, false), (.p 124, false)], (some 125), (some (116, false))⟩,
    ⟨.convBS (.t 125), (some 126), (some (116, false))⟩,
    ⟨.bin .add 2 false (.p 126) (.p 129), (some 130), (some (116, false))⟩,
    ⟨.bin .neq 2 false (.p 121) (.p 130), (some 131), (some (116, false))⟩,
    ⟨.pick (.p 116) (.c (.bool true)) (.p 131), (some 132), none⟩]
@[simp] def eq6_4 := id q6_4.eq_1
def q6_5 : List AOper :=
  [⟨.move .look (.t 5), (some 86), none⟩,
    ⟨.move .look (.p 10), (some 87), none⟩,
    ⟨.indexAddr 1 (.t 86) (.p 87), (some 88), none⟩,
    ⟨.load .look false 1 (.p 88), (some 89), none⟩,
    ⟨.call 24 [(.t 89, false)], (some 90), none⟩,
    ⟨.move .look (.t 90), (some 85), none⟩,
    ⟨.extract 85 0, (some 91), none⟩,
    ⟨.extract 85 1, (some 92), none⟩,
    ⟨.newbox 13 [.int .i64 0, .slice .nil 0 1 []], (some 13), none⟩,
    ⟨.store 2 (.p 13) (.p 91), none, none⟩,
    ⟨.assign (.p 92), (some 14), none⟩]
@[simp] def eq6_5 := id q6_5.eq_1
def q6_6 : List AOper :=
  [⟨.move .look (.t 5), (some 78), none⟩,
    ⟨.move .look (.p 10), (some 79), none⟩,
    ⟨.indexAddr 1 (.t 78) (.p 79), (some 80), none⟩,
    ⟨.load .look false 1 (.p 80), (some 81), none⟩,
    ⟨.call 23 [(.t 81, false)], (some 82), none⟩,
    ⟨.move .look (.t 82), (some 77), none⟩,
    ⟨.extract 77 0, (some 83), none⟩,
    ⟨.extract 77 1, (some 84), none⟩,
    ⟨.assign (.p 83), (some 11), none⟩,
    ⟨.assign (.p 84), (some 12), none⟩]
@[simp] def eq6_6 := id q6_6.eq_1
def q6_7 : List AOper :=
  [⟨.move .look (.p 10), (some 71), none⟩,
    ⟨.move .head (.t 5), (some 72), none⟩,
    ⟨.len false (.p 72), (some 73), none⟩,
    ⟨.bin .lss 1 false (.p 71) (.p 73), (some 74), none⟩]
@[simp] def eq6_7 := id q6_7.eq_1
def q6_8 : List AOper :=
  [⟨.move .look (.p 4), (some 50), none⟩,
    ⟨.un .not (.p 50), (some 51), none⟩,
    ⟨.move .look (.p 51), (some 52), none⟩,
    ⟨.move .look (.p 3), (some 53), (some (52, false))⟩,
    ⟨.bin .lss 1 true (.p 53) (.c (.int .i64 5)), (some 54), (some (52, false))⟩,
    ⟨.pick (.p 52) (.c (.bool true)) (.p 54), (some 55), none⟩,
    ⟨.move .look (.p 55), (some 56), none⟩,
    ⟨.move .look (.p 6), (some 57), (some (56, false))⟩,
    ⟨.un .not (.p 57), (some 58), (some (56, false))⟩,
    ⟨.pick (.p 56) (.c (.bool true)) (.p 58), (some 59), none⟩,
    ⟨.move .look (.p 59), (some 60), none⟩,
    ⟨.move .look (.p 8), (some 61), (some (60, false))⟩,
    ⟨.un .not (.p 61), (some 62), (some (60, false))⟩,
    ⟨.pick (.p 60) (.c (.bool true)) (.p 62), (some 63), none⟩,
    ⟨.move .look (.p 63), (some 64), none⟩,
    ⟨.move .head (.t 5), (some 65), (some (64, false))⟩,
    ⟨.len false (.p 65), (some 66), (some (64, false))⟩,
    ⟨.move .head (.t 7), (some 67), (some (64, false))⟩,
    ⟨.len false (.p 67), (some 68), (some (64, false))⟩,
    ⟨.bin .neq 1 false (.p 66) (.p 68), (some 69), (some (64, false))⟩,
    ⟨.pick (.p 64) (.c (.bool true)) (.p 69), (some 70), none⟩]
@[simp] def eq6_8 := id q6_8.eq_1
def q6_9 : List AOper :=
  [⟨.move .look (.t 0), (some 46), none⟩,
    ⟨.call 18 [(.t 46, false)], (some 47), none⟩,
    ⟨.move .look (.t 47), (some 45), none⟩,
    ⟨.extract 45 0, (some 48), none⟩,
    ⟨.extract 45 1, (some 49), none⟩,
    ⟨.assign (.t 48), (some 7), none⟩,
    ⟨.assign (.p 49), (some 8), none⟩]
@[simp] def eq6_9 := id q6_9.eq_1
def q6_10 : List AOper :=
  [⟨.move .look (.t 0), (some 41), none⟩,
    ⟨.call 17 [(.t 41, false)], (some 42), none⟩,
    ⟨.move .look (.t 42), (some 40), none⟩,
    ⟨.extract 40 0, (some 43), none⟩,
    ⟨.extract 40 1, (some 44), none⟩,
    ⟨.assign (.t 43), (some 5), none⟩,
    ⟨.assign (.p 44), (some 6), none⟩]
@[simp] def eq6_10 := id q6_10.eq_1
def q6_11 : List AOper :=
  [⟨.move .head (.t 0), (some 23), none⟩,
    ⟨.len false (.p 23), (some 24), none⟩,
    ⟨.bin .gtr 1 true (.p 24) (.c (.int .i64 65536)), (some 25), none⟩,
    ⟨.move .look (.p 25), (some 26), none⟩,
    ⟨.move .look (.p 4), (some 27), (some (26, false))⟩,
    ⟨.move .look (.p 27), (some 28), (some (26, false))⟩,
    ⟨.move .head (.p 3), (some 29), (some (28, true))⟩,
    ⟨.move .head (.t 0), (some 30), (some (28, true))⟩,
    ⟨.len false (.p 30), (some 31), (some (28, true))⟩,
    ⟨.bin .neq 1 false (.p 29) (.p 31), (some 32), (some (28, true))⟩,
    ⟨.pick (.p 28) (.p 32) (.c (.bool false)), (some 33), (some (26, false))⟩,
    ⟨.pick (.p 26) (.c (.bool true)) (.p 33), (some 34), none⟩,
    ⟨.move .look (.p 34), (some 35), none⟩,
    ⟨.move .look (.t 0), (some 36), (some (35, false))⟩,
    ⟨.call 19 [(.t 36, false)], (some 37), (some (35, false))⟩,
    ⟨.bin .neq 1 true (.p 37) (.c (.int .i64 0)), (some 38), (some (35, false))⟩,
    ⟨.pick (.p 35) (.c (.bool true)) (.p 38), (some 39), none⟩]
@[simp] def eq6_11 := id q6_11.eq_1
def q6_12 : List AOper :=
  [⟨.move .look (.t 0), (some 19), none⟩,
    ⟨.call 22 [(.t 19, false)], (some 20), none⟩,
    ⟨.move .look (.t 20), (some 18), none⟩,
    ⟨.extract 18 0, (some 21), none⟩,
    ⟨.extract 18 1, (some 22), none⟩,
    ⟨.assign (.p 21), (some 3), none⟩,
    ⟨.assign (.p 22), (some 4), none⟩]
@[simp] def eq6_12 := id q6_12.eq_1
def q6_13 : List AOper :=
  [⟨.move .head (.t 0), (some 15), none⟩,
    ⟨.len false (.p 15), (some 16), none⟩,
    ⟨.bin .gtr 1 true (.p 16) (.c (.int .i64 2147483647)), (some 17), none⟩]
@[simp] def eq6_13 := id q6_13.eq_1
def k6_0 : ACode :=
  .ops q6_0 .ret
@[simp] theorem xk6_0 : GoC fns Q s k6_0 st ↔ GoO fns Q s q6_0 .ret st := goC_ops
def k6_1 : ACode :=
  .ops q6_1 .skip
@[simp] theorem xk6_1 : GoC fns Q s k6_1 st ↔ GoO fns Q s q6_1 .skip st := goC_ops
def k6_2 : ACode :=
  .ops q6_2 .skip
@[simp] theorem xk6_2 : GoC fns Q s k6_2 st ↔ GoO fns Q s q6_2 .skip st := goC_ops
def k6_3 : ACode :=
  .ops [⟨.assign (.c (.bool false)), (some 2), none⟩] .ret
@[simp] theorem xk6_3 : GoC fns Q s k6_3 st ↔ GoO fns Q s [⟨.assign (.c (.bool false)), (some 2), none⟩] .ret st := goC_ops
def k6_4 : ACode :=
  .cond (.p 160) k6_3 .skip
@[simp] theorem xk6_4 : GoC fns Q s k6_4 st ↔ GB fns Q s (peek st (.p 160)) k6_3 .skip st := goC_cond
def k6_5 : ACode :=
  .seq k6_4 k6_2
@[simp] theorem xk6_5 : GoC fns Q s k6_5 st ↔ GoC fns Q (.sq k6_2 :: s) k6_4 st := goC_seq
def k6_6 : ACode :=
  .ops q6_3 k6_5
@[simp] theorem xk6_6 : GoC fns Q s k6_6 st ↔ GoO fns Q s q6_3 k6_5 st := goC_ops
def k6_7 : ACode :=
  .ops [⟨.assign (.c (.bool false)), (some 2), none⟩] .ret
@[simp] theorem xk6_7 : GoC fns Q s k6_7 st ↔ GoO fns Q s [⟨.assign (.c (.bool false)), (some 2), none⟩] .ret st := goC_ops
def k6_8 : ACode :=
  .cond (.p 132) k6_7 .skip
@[simp] theorem xk6_8 : GoC fns Q s k6_8 st ↔ GB fns Q s (peek st (.p 132)) k6_7 .skip st := goC_cond
def k6_9 : ACode :=
  .seq k6_8 k6_6
@[simp] theorem xk6_9 : GoC fns Q s k6_9 st ↔ GoC fns Q (.sq k6_6 :: s) k6_8 st := goC_seq
def k6_10 : ACode :=
  .ops q6_4 k6_9
@[simp] theorem xk6_10 : GoC fns Q s k6_10 st ↔ GoO fns Q s q6_4 k6_9 st := goC_ops
def k6_11 : ACode :=
  .ops q6_5 k6_10
@[simp] theorem xk6_11 : GoC fns Q s k6_11 st ↔ GoO fns Q s q6_5 k6_10 st := goC_ops
def k6_12 : ACode :=
  .ops q6_6 k6_11
@[simp] theorem xk6_12 : GoC fns Q s k6_12 st ↔ GoO fns Q s q6_6 k6_11 st := goC_ops
def k6_13 : ACode :=
  .block 1 k6_12
@[simp] theorem xk6_13 : GoC fns Q s k6_13 st ↔ GoC fns Q (.bl 1 :: s) k6_12 st := goC_block
def k6_14 : ACode :=
  .seq k6_13 k6_1
@[simp] theorem xk6_14 : GoC fns Q s k6_14 st ↔ GoC fns Q (.sq k6_1 :: s) k6_13 st := goC_seq
def k6_15 : ACode :=
  .cond (.p 74) .skip (.exit 0)
@[simp] theorem xk6_15 : GoC fns Q s k6_15 st ↔ GB fns Q s (peek st (.p 74)) .skip (.exit 0) st := goC_cond
def k6_16 : ACode :=
  .seq k6_15 k6_14
@[simp] theorem xk6_16 : GoC fns Q s k6_16 st ↔ GoC fns Q (.sq k6_14 :: s) k6_15 st := goC_seq
def k6_17 : ACode :=
  .ops q6_7 k6_16
@[simp] theorem xk6_17 : GoC fns Q s k6_17 st ↔ GoO fns Q s q6_7 k6_16 st := goC_ops
def lc6_0 : ACode :=
  k6_17
@[simp] theorem xlc6_0 : GoC fns Q s lc6_0 st ↔ GoC fns Q s k6_17 st := Iff.rfl
def k6_19 : ACode :=
  .loop lc6_0
@[simp] theorem xk6_19 : GoC fns Q s k6_19 st ↔ (LoopR fns lc6_0 st fun r => GoE fns Q s r.1 r.2) := goC_loop
def k6_20 : ACode :=
  .block 0 k6_19
@[simp] theorem xk6_20 : GoC fns Q s k6_20 st ↔ GoC fns Q (.bl 0 :: s) k6_19 st := goC_block
def k6_21 : ACode :=
  .seq k6_20 k6_0
@[simp] theorem xk6_21 : GoC fns Q s k6_21 st ↔ GoC fns Q (.sq k6_0 :: s) k6_20 st := goC_seq
def k6_22 : ACode :=
  .ops [⟨.assign (.c (.int .i64 0)), (some 10), none⟩] k6_21
@[simp] theorem xk6_22 : GoC fns Q s k6_22 st ↔ GoO fns Q s [⟨.assign (.c (.int .i64 0)), (some 10), none⟩] k6_21 st := goC_ops
def k6_23 : ACode :=
  .ops [⟨.assign (.c (.int .i64 4)), (some 9), none⟩] k6_22
@[simp] theorem xk6_23 : GoC fns Q s k6_23 st ↔ GoO fns Q s [⟨.assign (.c (.int .i64 4)), (some 9), none⟩] k6_22 st := goC_ops
def k6_24 : ACode :=
  .ops [⟨.assign (.c (.bool false)), (some 2), none⟩] .ret
@[simp] theorem xk6_24 : GoC fns Q s k6_24 st ↔ GoO fns Q s [⟨.assign (.c (.bool false)), (some 2), none⟩] .ret st := goC_ops
def k6_25 : ACode :=
  .cond (.p 70) k6_24 .skip
@[simp] theorem xk6_25 : GoC fns Q s k6_25 st ↔ GB fns Q s (peek st (.p 70)) k6_24 .skip st := goC_cond
def k6_26 : ACode :=
  .seq k6_25 k6_23
@[simp] theorem xk6_26 : GoC fns Q s k6_26 st ↔ GoC fns Q (.sq k6_23 :: s) k6_25 st := goC_seq
def k6_27 : ACode :=
  .ops q6_8 k6_26
@[simp] theorem xk6_27 : GoC fns Q s k6_27 st ↔ GoO fns Q s q6_8 k6_26 st := goC_ops
def k6_28 : ACode :=
  .ops q6_9 k6_27
@[simp] theorem xk6_28 : GoC fns Q s k6_28 st ↔ GoO fns Q s q6_9 k6_27 st := goC_ops
def k6_29 : ACode :=
  .ops q6_10 k6_28
@[simp] theorem xk6_29 : GoC fns Q s k6_29 st ↔ GoO fns Q s q6_10 k6_28 st := goC_ops
def k6_30 : ACode :=
  .ops [⟨.assign (.c (.bool true)), (some 2), none⟩] .ret
@[simp] theorem xk6_30 : GoC fns Q s k6_30 st ↔ GoO fns Q s [⟨.assign (.c (.bool true)), (some 2), none⟩] .ret st := goC_ops
def k6_31 : ACode :=
  .cond (.p 39) k6_30 .skip
@[simp] theorem xk6_31 : GoC fns Q s k6_31 st ↔ GB fns Q s (peek st (.p 39)) k6_30 .skip st := goC_cond
def k6_32 : ACode :=
  .seq k6_31 k6_29
@[simp] theorem xk6_32 : GoC fns Q s k6_32 st ↔ GoC fns Q (.sq k6_29 :: s) k6_31 st := goC_seq
def k6_33 : ACode :=
  .ops q6_11 k6_32
@[simp] theorem xk6_33 : GoC fns Q s k6_33 st ↔ GoO fns Q s q6_11 k6_32 st := goC_ops
def k6_34 : ACode :=
  .ops q6_12 k6_33
@[simp] theorem xk6_34 : GoC fns Q s k6_34 st ↔ GoO fns Q s q6_12 k6_33 st := goC_ops
def k6_35 : ACode :=
  .ops [⟨.assign (.c (.bool true)), (some 2), none⟩] .ret
@[simp] theorem xk6_35 : GoC fns Q s k6_35 st ↔ GoO fns Q s [⟨.assign (.c (.bool true)), (some 2), none⟩] .ret st := goC_ops
def k6_36 : ACode :=
  .cond (.p 17) k6_35 .skip
@[simp] theorem xk6_36 : GoC fns Q s k6_36 st ↔ GB fns Q s (peek st (.p 17)) k6_35 .skip st := goC_cond
def k6_37 : ACode :=
  .seq k6_36 k6_34
@[simp] theorem xk6_37 : GoC fns Q s k6_37 st ↔ GoC fns Q (.sq k6_34 :: s) k6_36 st := goC_seq
def k6_38 : ACode :=
  .ops q6_13 k6_37
@[simp] theorem xk6_38 : GoC fns Q s k6_38 st ↔ GoO fns Q s q6_13 k6_37 st := goC_ops
def k6_39 : ACode :=
  .ops [⟨.assign (.c (.bool false)), (some 2), none⟩] k6_38
@[simp] theorem xk6_39 : GoC fns Q s k6_39 st ↔ GoO fns Q s [⟨.assign (.c (.bool false)), (some 2), none⟩] k6_38 st := goC_ops
def af6 : AFunc := ⟨179, k6_39, [.tmp 2], fun _ => none⟩

theorem ok6 : ∃ hs, pFunc Tryd.prog sg hs Tryd.f6 = some af6 := ⟨fun i => 0, by kernel_rfl⟩
/-- No. 32 -/
def q32_0 : List AOper :=
  [⟨.fieldAddr 0 (.p 1), (some 3), none⟩,
    ⟨.load .look false 1 (.p 3), (some 4), none⟩,
    ⟨.convInt .u8 (.p 4), (some 5), none⟩,
    ⟨.fieldAddr 1 (.p 1), (some 6), none⟩,
    ⟨.load .look false 1 (.p 6), (some 7), none⟩,
    ⟨.build [.int .u8 0, .slice .nil 0 1 []] [(0, 1, .p 5), (1, 1, .t 7)], (some 8), none⟩,
    ⟨.store 2 (.p 2) (.p 8), none, none⟩]
@[simp] def eq32_0 := id q32_0.eq_1
def q32_1 : List AOper :=
  [⟨.box 1 (.p 0), (some 1), none⟩,
    ⟨.newbox 2 [.int .u8 0, .slice .nil 0 1 []], (some 2), none⟩]
@[simp] def eq32_1 := id q32_1.eq_1
def k32_0 : ACode :=
  .ops q32_0 .ret
@[simp] theorem xk32_0 : GoC fns Q s k32_0 st ↔ GoO fns Q s q32_0 .ret st := goC_ops
def k32_1 : ACode :=
  .ops q32_1 k32_0
@[simp] theorem xk32_1 : GoC fns Q s k32_1 st ↔ GoO fns Q s q32_1 k32_0 st := goC_ops
def af32 : AFunc := ⟨9, k32_1, [.cell 2 true 2], fun _ => none⟩

theorem ok32 : ∃ hs, pFunc Tryd.prog sg hs Tryd.f32 = some af32 := ⟨fun i => 0, by kernel_rfl⟩
/-- No. 53 -/
def q53_0 : List AOper :=
  [⟨.fieldAddr 0 (.p 1), (some 3), none⟩,
    ⟨.load .look false 1 (.p 3), (some 4), none⟩,
    ⟨.fieldAddr 1 (.p 1), (some 5), none⟩,
    ⟨.load .look false 1 (.p 5), (some 6), none⟩,
    ⟨.build [.int .u8 0, .slice .nil 0 1 []] [(0, 1, .p 4), (1, 1, .t 6)], (some 7), none⟩,
    ⟨.store 2 (.p 2) (.p 7), none, none⟩]
@[simp] def eq53_0 := id q53_0.eq_1
def q53_1 : List AOper :=
  [⟨.box 1 (.p 0), (some 1), none⟩,
    ⟨.newbox 2 [.int .u8 0, .slice .nil 0 1 []], (some 2), none⟩]
@[simp] def eq53_1 := id q53_1.eq_1
def k53_0 : ACode :=
  .ops q53_0 .ret
@[simp] theorem xk53_0 : GoC fns Q s k53_0 st ↔ GoO fns Q s q53_0 .ret st := goC_ops
def k53_1 : ACode :=
  .ops q53_1 k53_0
@[simp] theorem xk53_1 : GoC fns Q s k53_1 st ↔ GoO fns Q s q53_1 k53_0 st := goC_ops
def af53 : AFunc := ⟨8, k53_1, [.cell 2 true 2], fun _ => none⟩

theorem ok53 : ∃ hs, pFunc Tryd.prog sg hs Tryd.f53 = some af53 := ⟨fun i => 0, by kernel_rfl⟩
/-- No. 33 -/
def q33_0 : List AOper :=
  [⟨.load .look true 2 (.p 1), (some 3), none⟩,
    ⟨.call 53 [(.p 3, false)], (some 4), none⟩,
    ⟨.call 54 [(.p 4, false)], (some 5), none⟩,
    ⟨.assign (.p 5), (some 2), none⟩]
@[simp] def eq33_0 := id q33_0.eq_1
def q33_1 : List AOper :=
  [⟨.box 1 (.p 0), (some 1), none⟩,
    ⟨.assign (.c (.nilI)), (some 2), none⟩]
@[simp] def eq33_1 := id q33_1.eq_1
def k33_0 : ACode :=
  .ops q33_0 .ret
@[simp] theorem xk33_0 : GoC fns Q s k33_0 st ↔ GoO fns Q s q33_0 .ret st := goC_ops
def k33_1 : ACode :=
  .ops q33_1 k33_0
@[simp] theorem xk33_1 : GoC fns Q s k33_1 st ↔ GoO fns Q s q33_1 k33_0 st := goC_ops
def af33 : AFunc := ⟨6, k33_1, [.tmp 2], fun _ => none⟩

theorem ok33 : ∃ hs, pFunc Tryd.prog sg hs Tryd.f33 = some af33 := ⟨fun i => 0, by kernel_rfl⟩
/-- No. 10 -/
def q10_0 : List AOper :=
  [⟨.load .look true 2 (.p 1), (some 3), none⟩,
    ⟨.call 32 [(.p 3, false)], (some 4), none⟩,
    ⟨.call 33 [(.p 4, false)], (some 5), none⟩,
    ⟨.call 31 [(.p 5, false)], (some 6), none⟩,
    ⟨.assign (.p 6), (some 2), none⟩]
@[simp] def eq10_0 := id q10_0.eq_1
def q10_1 : List AOper :=
  [⟨.box 1 (.p 0), (some 1), none⟩,
    ⟨.assign (.c (.int .i64 0)), (some 2), none⟩]
@[simp] def eq10_1 := id q10_1.eq_1
def k10_0 : ACode :=
  .ops q10_0 .ret
@[simp] theorem xk10_0 : GoC fns Q s k10_0 st ↔ GoO fns Q s q10_0 .ret st := goC_ops
def k10_1 : ACode :=
  .ops q10_1 k10_0
@[simp] theorem xk10_1 : GoC fns Q s k10_1 st ↔ GoO fns Q s q10_1 k10_0 st := goC_ops
def af10 : AFunc := ⟨7, k10_1, [.tmp 2], fun _ => none⟩

theorem ok10 : ∃ hs, pFunc Tryd.prog sg hs Tryd.f10 = some af10 := ⟨fun i => 0, by kernel_rfl⟩
/-- No. 3 -/
def q3_0 : List AOper :=
  [⟨.move .look (.p 1), (some 17), none⟩,
    ⟨.bin .lss 1 true (.p 17) (.c (.int .i64 0)), (some 18), none⟩,
    ⟨.move .look (.p 18), (some 19), none⟩,
    ⟨.move .look (.p 1), (some 20), (some (19, false))⟩,
    ⟨.fieldAddr 1 (.p 5), (some 21), (some (19, false))⟩,
    ⟨.load .head false 1 (.p 21), (some 22), (some (19, false))⟩,
    ⟨.len false (.p 22), (some 23), (some (19, false))⟩,
    ⟨.bin .geq 1 false (.p 20) (.p 23), (some 24), (some (19, false))⟩,
    ⟨.pick (.p 19) (.c (.bool true)) (.p 24), (some 25), none⟩,
    ⟨.move .look (.p 25), (some 26), none⟩,
    ⟨.fieldAddr 0 (.p 5), (some 27), (some (26, false))⟩,
    ⟨.load .look false 1 (.p 27), (some 28), (some (26, false))⟩,
    ⟨.fieldAddr 1 (.p 5), (some 29), (some (26, false))⟩,
    ⟨.load .look false 1 (.p 29), (some 30), (some (26, false))⟩,
    ⟨.move .head (.p 1), (some 31), (some (26, false))⟩,
    ⟨.sliceSl 1 (.t 30) none (some (.p 31)), (some 32), (some (26, false))⟩,
    ⟨.build [.int .i64 0, .slice .nil 0 1 []] [(0, 1, .p 28), (1, 1, .t 32)], (some 33), (some (26, false))⟩,
    ⟨.call 10 [(.p 33, false)], (some 34), (some (26, false))⟩,
    ⟨.bin .neq 1 true (.p 34) (.c (.int .i64 0)), (some 35), (some (26, false))⟩,
    ⟨.pick (.p 26) (.c (.bool true)) (.p 35), (some 36), none⟩,
    ⟨.assign (.p 36), (some 4), none⟩]
@[simp] def eq3_0 := id q3_0.eq_1
def q3_1 : List AOper :=
  [⟨.load .look true 2 (.p 5), (some 14), none⟩,
    ⟨.call 10 [(.p 14, false)], (some 15), none⟩,
    ⟨.bin .neq 1 true (.p 15) (.c (.int .i64 0)), (some 16), none⟩]
@[simp] def eq3_1 := id q3_1.eq_1
def q3_2 : List AOper :=
  [⟨.load .look true 8 (.p 2), (some 12), none⟩,
    ⟨.call 9 [(.p 12, false)], (some 13), none⟩,
    ⟨.newbox 5 [.int .i64 0, .slice .nil 0 1 []], (some 5), none⟩,
    ⟨.store 2 (.p 5) (.p 13), none, none⟩]
@[simp] def eq3_2 := id q3_2.eq_1
def q3_3 : List AOper :=
  [⟨.load .look true 8 (.p 2), (some 9), none⟩,
    ⟨.call 8 [(.p 9, false)], (some 10), none⟩,
    ⟨.un .not (.p 10), (some 11), none⟩]
@[simp] def eq3_3 := id q3_3.eq_1
def q3_4 : List AOper :=
  [⟨.load .look true 8 (.p 2), (some 6), none⟩,
    ⟨.call 7 [(.p 6, false)], (some 7), none⟩,
    ⟨.un .not (.p 7), (some 8), none⟩]
@[simp] def eq3_4 := id q3_4.eq_1
def q3_5 : List AOper :=
  [⟨.box 2 (.p 0), (some 2), none⟩,
    ⟨.assign (.c (.bool false)), (some 4), none⟩]
@[simp] def eq3_5 := id q3_5.eq_1
def k3_0 : ACode :=
  .ops q3_0 .ret
@[simp] theorem xk3_0 : GoC fns Q s k3_0 st ↔ GoO fns Q s q3_0 .ret st := goC_ops
def k3_1 : ACode :=
  .ops [⟨.assign (.c (.bool false)), (some 4), none⟩] .ret
@[simp] theorem xk3_1 : GoC fns Q s k3_1 st ↔ GoO fns Q s [⟨.assign (.c (.bool false)), (some 4), none⟩] .ret st := goC_ops
def k3_2 : ACode :=
  .cond (.p 16) k3_1 .skip
@[simp] theorem xk3_2 : GoC fns Q s k3_2 st ↔ GB fns Q s (peek st (.p 16)) k3_1 .skip st := goC_cond
def k3_3 : ACode :=
  .seq k3_2 k3_0
@[simp] theorem xk3_3 : GoC fns Q s k3_3 st ↔ GoC fns Q (.sq k3_0 :: s) k3_2 st := goC_seq
def k3_4 : ACode :=
  .ops q3_1 k3_3
@[simp] theorem xk3_4 : GoC fns Q s k3_4 st ↔ GoO fns Q s q3_1 k3_3 st := goC_ops
def k3_5 : ACode :=
  .ops q3_2 k3_4
@[simp] theorem xk3_5 : GoC fns Q s k3_5 st ↔ GoO fns Q s q3_2 k3_4 st := goC_ops
def k3_6 : ACode :=
  .ops [⟨.assign (.c (.bool true)), (some 4), none⟩] .ret
@[simp] theorem xk3_6 : GoC fns Q s k3_6 st ↔ GoO fns Q s [⟨.assign (.c (.bool true)), (some 4), none⟩] .ret st := goC_ops
def k3_7 : ACode :=
  .cond (.p 11) k3_6 .skip
@[simp] theorem xk3_7 : GoC fns Q s k3_7 st ↔ GB fns Q s (peek st (.p 11)) k3_6 .skip st := goC_cond
def k3_8 : ACode :=
  .seq k3_7 k3_5
@[simp] theorem xk3_8 : GoC fns Q s k3_8 st ↔ GoC fns Q (.sq k3_5 :: s) k3_7 st := goC_seq
def k3_9 : ACode :=
  .ops q3_3 k3_8
@[simp] theorem xk3_9 : GoC fns Q s k3_9 st ↔ GoO fns Q s q3_3 k3_8 st := goC_ops
def k3_10 : ACode :=
  .ops [⟨.assign (.c (.bool true)), (some 4), none⟩] .ret
@[simp] theorem xk3_10 : GoC fns Q s k3_10 st ↔ GoO fns Q s [⟨.assign (.c (.bool true)), (some 4), none⟩] .ret st := goC_ops
def k3_11 : ACode :=
  .cond (.p 8) k3_10 .skip
@[simp] theorem xk3_11 : GoC fns Q s k3_11 st ↔ GB fns Q s (peek st (.p 8)) k3_10 .skip st := goC_cond
def k3_12 : ACode :=
  .seq k3_11 k3_9
@[simp] theorem xk3_12 : GoC fns Q s k3_12 st ↔ GoC fns Q (.sq k3_9 :: s) k3_11 st := goC_seq
def k3_13 : ACode :=
  .ops q3_4 k3_12
@[simp] theorem xk3_13 : GoC fns Q s k3_13 st ↔ GoO fns Q s q3_4 k3_12 st := goC_ops
def k3_14 : ACode :=
  .ops q3_5 k3_13
@[simp] theorem xk3_14 : GoC fns Q s k3_14 st ↔ GoO fns Q s q3_5 k3_13 st := goC_ops
def af3 : AFunc := ⟨37, k3_14, [.tmp 4], fun _ => none⟩

theorem ok3 : ∃ hs, pFunc Tryd.prog sg hs Tryd.f3 = some af3 := ⟨fun i => 0, by kernel_rfl⟩
end
end Go.Proofs.YtdnfnobgeddbfaaDoor.Abs
